import Derived.Test.Qxb6601670aSplitAt
import Derived.Test.Qxb6601670aVec
namespace Go.Proofs.Qxb6601670a
open Go.RowKit Plain
set_option linter.unusedVariables false

theorem Strs.alike {w w' : World} {B : Nat} {v : Value} {ss : List ByteArray} (h : Strs w B v ss) (ha : w'.heap = w.heap) : Strs w' B v ss := by
  obtain ⟨a, c, hv, hc, hn, hr⟩ := h
  refine ⟨a, c, hv, hc, hn, fun hne => ?_⟩
  obtain ⟨b, o, hb, hB, hcell⟩ := hr hne
  exact ⟨b, o, hb, hB, fun i s hi => by rw [World.cell?_of_block (w := w) (by rw [ha])]; exact hcell i s hi⟩

theorem str_inj {a b : ByteArray} (h : a.data.toList = b.data.toList) : a = b := by
  cases a with | mk a => cases b with | mk b => simp only at h; rw [Array.toList_inj.mp h]
theorem str_yes {a b : ByteArray} (h : a = b) : (a.toList == b.toList) = true := by subst h; simp
theorem str_no {a b : ByteArray} (h : a ≠ b) : (a.toList == b.toList) = false := by
  rw [ByteArray.toList_eq, ByteArray.toList_eq, beq_eq_false_iff_ne]
  exact fun e => h (str_inj e)

theorem key_yes {rs : List (List ByteArray)} {d t : Nat} {e : ByteArray} (ht : t < rs.length) (hd : d < rs[t].length) (h : rs[t][d] = e) : keyOf rs d t = some e := by rw [keyOf_some ht hd, h]
theorem key_no {rs : List (List ByteArray)} {d t : Nat} {e : ByteArray} (ht : t < rs.length) (hd : d < rs[t].length) (h : rs[t][d] ≠ e) : keyOf rs d t ≠ some e := by
  rw [keyOf_some ht hd]; simpa using h
theorem key_short {rs : List (List ByteArray)} {d t : Nat} {e : ByteArray} (ht : t < rs.length) (hd : rs[t].length ≤ d) : keyOf rs d t ≠ some e := by
  rw [keyOf_none ht hd]; simp

theorem kept_len_le {key : Nat → Option ByteArray} {p : ByteArray → Bool} {i : Nat} : (kept key p i).length ≤ i :=
  Nat.le_trans (List.length_filter_le _ _) (ord_len_le i)

set_option maxHeartbeats 8000000 in
set_option maxRecDepth 100000 in
theorem walkSplit (v1 : Value) (dd kk : Int) (rs : List (List ByteArray)) (w : World) (hd63 : dd ≤ 9223372036854775807) (za : Fits rs) (ma : rs.length ≤ maxLen) (h1 : RowsV w w.heap.size v1 rs) :
    Calls Try.prog 3 #[v1, .int .i64 dd, .int .i64 kk] w fun e w' => e = .returned (.bool true) ∧ Below w.heap.size w w' := by
  obtain ⟨a1, c1, rfl⟩ := h1.shape
  have m1' := ma
  unfold maxLen at m1'
  have Hza : Hid (Fits rs) := za
  clear za
  go_enter Try.func3, Try.ntmps3
  go_wp2_with fail
  refine (small6_any _ dd kk rs w Hza.out ma h1).mono ?_
  rintro e w' ⟨r, rfl, hw, hg⟩
  replace hw := hw.symm
  subst hw
  cases r with
  | false =>
    go_wp2_with fail
    go_ret
    exact ⟨rfl, Below.refl _ _⟩
  | true =>
    have hsm := hg rfl
    clear hg
    have HLa : Hid (∀ r ∈ rs, r.length + lens r ≤ 1048576) := fun r hr => by have := totR_mem hr; omega
    go_wp2_with fail
    refine (tooBig_any _ rs w hsm h1).mono ?_
    rintro e w' ⟨tb, rfl, hw⟩
    replace hw := hw.symm
    subst hw
    cases tb with
    | true =>
      go_wp2_with fail
      go_ret
      exact ⟨rfl, Below.refl _ _⟩
    | false =>
      by_cases hneg : dd < 0
      · go_wp2_with fail
        go_ret
        exact ⟨rfl, Below.refl _ _⟩
      obtain ⟨d, rfl⟩ : ∃ d : Nat, dd = (d : Int) := ⟨dd.toNat, by omega⟩
      go_wp2_with fail
      refine (copy_any _ rs w (by omega) (fun r hr => by have := HLa.out r hr; omega) h1).mono ?_
      rintro e wa ⟨va, rfl, hba, X, hRa⟩
      obtain ⟨ag, cg, rfl⟩ := hRa.shape
      have hza := hba.size
      go_wp2_with fail
      refine (vec_any ag cg X rs wa (by omega) hRa).mono ?_
      rintro e wb ⟨rfl, hbb, hrow⟩
      have hzb := hbb.size
      have hRb := (hRa.later hbb).mono hzb
      go_wp2_with fail
      refine (zzsplitAt_any wa.heap.size X rs d kk wb (by omega) (fun r hr => ⟨by have := HLa.out r hr; omega, (Hza.out r hr).2⟩) hrow (fun i r hi => by obtain ⟨_, _, _, _, _, hs⟩ := hRb; exact hs i r hi)).mono ?_
      rintro e wc ⟨v, rfl, hbc, base, ys, hown, hys⟩
      have hzc := hbc.size
      have hRc := (hRb.later hbc).mono hzc
      obtain ⟨av, cv, rfl⟩ := owns_slice hown
      have HR : Hid (RowsX wc wc.heap.size (.slice ag rs.length cg) X rs) := hRc
      have hcap := hRc.cap
      have HBw : Hid (Below w.heap.size w wc) := (hba.trans (hbb.mono hza)).trans (hbc.mono (by omega))
      obtain ⟨p, hp⟩ : ∃ p : ByteArray → Bool, p = fun e => decide (kk ≤ ((grp (keyOf rs d) e rs.length).length : Int)) := ⟨_, rfl⟩
      rw [← hp] at hown hys ⊢
      have HOw : Hid (wc.ownsRow base 28 1 (.slice av (kept (keyOf rs d) p rs.length).length cv) (kept (keyOf rs d) p rs.length).length ys) := hown
      have HYs : Hid (∀ (t : Nat) e, (kept (keyOf rs d) p rs.length)[t]? = some e → ∃ av cv, ys[t]? = some (Value.slice av (grp (keyOf rs d) e rs.length).length cv) ∧
        ∀ (m i : Nat), (grp (keyOf rs d) e rs.length)[m]? = some i → ∃ q, av = some ⟨q, 0, none⟩ ∧ q < wc.heap.size ∧ wc.cell? ⟨q, m, none⟩ = some (X i)) := hys
      have HP : Hid (∀ e, p e = decide (kk ≤ ((grp (keyOf rs d) e rs.length).length : Int))) := fun e => by rw [hp]
      have hKl : (kept (keyOf rs d) p rs.length).length ≤ rs.length := kept_len_le
      clear hba hRa hbb hrow hRb hbc hRc hza hzb hzc hown hys hp h1 Hza ma m1' hneg
      generalize hKn : (kept (keyOf rs d) p rs.length).length = Kn at HOw hKl ⊢
      have HKn : Hid ((kept (keyOf rs d) p rs.length).length = Kn) := hKn
      clear hKn
      go_wp2_with fail
      go_loopw [8, 9] (fun vn vi wr => ∃ i nn nq : Nat, i ≤ rs.length ∧ nn ≤ i ∧ vi = .int .i64 i ∧ vn = .int .i64 nn ∧ Hid (nn = (kept (keyOf rs d) p i).length) ∧ wr = wc.drewN nq) (fun _ i _ => rs.length - (intOf i).toNat)
      case atStart => exact ⟨0, 0, 0, Nat.zero_le _, Nat.le_refl _, rfl, rfl, rfl, rfl⟩
      case round =>
        obtain ⟨i, nn, nq, hi, hni, rfl, rfl, HNN, rfl⟩ := hrel
        by_cases hlt : i < rs.length
        · obtain ⟨bg, og, rfl, hbg, hcg0⟩ := HR.out.at i hlt
          have HC : Hid (∀ t, t < rs.length → wc.cell? ⟨bg, og + t, none⟩ = some (X t)) := hcg0
          have HS : Hid (∀ t (ht : t < rs.length), Strs wc wc.heap.size (X t) rs[t]) := fun t ht => HR.out.strs t ht
          have hrl := HLa.out _ (List.getElem_mem hlt)
          obtain ⟨ai, ci, hxi⟩ := (HS.out i hlt).shape
          have hci : wc.cell? ⟨bg, og + i, none⟩ = some (.slice ai rs[i].length ci) := by rw [HC.out i hlt, hxi]
          clear hcg0
          by_cases hle : rs[i].length ≤ d
          · have HN : Hid (nn = (kept (keyOf rs d) p (i + 1)).length) := by rw [kept_step_none (keyOf_none hlt hle)]; exact HNN.out
            clear HNN hxi HS HC HR
            go_wp2_with fail
            go_roundw
            case rel => exact ⟨i + 1, nn, nq, by omega, by omega, by go_num, rfl, HN.out, rfl⟩
            case measure => simp [intOf]; omega
          · have hd : d < rs[i].length := by omega
            have hSi := HS.out i hlt
            rw [hxi] at hSi
            obtain ⟨bi, oi, rfl, hbi, hcelli⟩ := hSi.at d hd
            have hce : wc.cell? ⟨bi, oi + d, none⟩ = some (.string rs[i][d]) := hcelli d _ (List.getElem?_eq_getElem hd)
            have HKey : Hid (keyOf rs d i = some rs[i][d]) := keyOf_some hlt hd
            generalize hE : rs[i][d] = e at hce HKey
            clear hSi hcelli hE hxi HR
            go_wp2_with fail
            go_loop [11, 12] (fun vf vj => ∃ j : Nat, j ≤ i ∧ vf = .bool true ∧ vj = .int .i64 j ∧ Hid (∀ t, t < j → keyOf rs d t ≠ some e)) (fun _ j => i - (intOf j).toNat)
            case atStart => exact ⟨0, Nat.zero_le _, rfl, rfl, fun t ht => by omega⟩
            case round =>
              obtain ⟨j, hj, rfl, rfl, HF⟩ := hrel
              by_cases hjl : j < i
              · have hjr : j < rs.length := by omega
                obtain ⟨aj, cj, hxj⟩ := (HS.out j hjr).shape
                have hcj : wc.cell? ⟨bg, og + j, none⟩ = some (.slice aj rs[j].length cj) := by rw [HC.out j hjr, hxj]
                have hrj := HLa.out _ (List.getElem_mem hjr)
                by_cases hlej : rs[j].length ≤ d
                · have HN : Hid (∀ t, t < j + 1 → keyOf rs d t ≠ some e) := by
                    intro t ht
                    by_cases et : t = j
                    · subst et; exact key_short hjr hlej
                    · exact HF.out t (by omega)
                  clear hxj HF HC HS
                  go_wp2_with fail
                  go_round
                  case rel => exact ⟨j + 1, by omega, rfl, by go_num, HN.out⟩
                  case measure => simp [intOf]; omega
                · have hdj : d < rs[j].length := by omega
                  have hSj := HS.out j hjr
                  rw [hxj] at hSj
                  obtain ⟨bj, oj, rfl, hbj, hcellj⟩ := hSj.at d hdj
                  have hcd : wc.cell? ⟨bj, oj + d, none⟩ = some (.string rs[j][d]) := hcellj d _ (List.getElem?_eq_getElem hdj)
                  clear hSj hcellj hxj
                  by_cases heq : rs[j][d] = e
                  · have hq := str_yes heq
                    have HN : Hid (nn = (kept (keyOf rs d) p (i + 1)).length) := by
                      rw [kept_step_old HKey.out hjl (key_yes hjr hdj heq)]; exact HNN.out
                    clear heq HF HC HS HNN HKey
                    go_wp2_with fail
                    go_roundw
                    case rel => exact ⟨i + 1, nn, nq, by omega, by omega, by go_num, rfl, HN.out, rfl⟩
                    case measure => simp [intOf]; omega
                  · have hq := str_no heq
                    have HN : Hid (∀ t, t < j + 1 → keyOf rs d t ≠ some e) := by
                      intro t ht
                      by_cases et : t = j
                      · subst et; exact key_no hjr hdj heq
                      · exact HF.out t (by omega)
                    clear heq HF HC HS
                    go_wp2_with fail
                    go_round
                    case rel => exact ⟨j + 1, by omega, rfl, by go_num, HN.out⟩
                    case measure => simp [intOf]; omega
              · have hji : j = i := by omega
                subst hji
                clear hjl hj
                have HG0 : Hid (grp (keyOf rs d) e j = []) := grp_nil HF.out
                go_wp2_with fail
                go_loop [13, 14] (fun vc vt => ∃ t cnt : Nat, j ≤ t ∧ t ≤ rs.length ∧ cnt ≤ t ∧ vt = .int .i64 t ∧ vc = .int .i64 cnt ∧ Hid (cnt = (grp (keyOf rs d) e t).length)) (fun _ t => rs.length - (intOf t).toNat)
                case atStart => exact ⟨j, 0, Nat.le_refl _, by omega, Nat.zero_le _, rfl, rfl, by rw [HG0.out]; exact rfl⟩
                case round =>
                  obtain ⟨t, cnt, hjt, ht, hct, rfl, rfl, HCn⟩ := hrel
                  by_cases htl : t < rs.length
                  · obtain ⟨at_, ct, hxt⟩ := (HS.out t htl).shape
                    have hct' : wc.cell? ⟨bg, og + t, none⟩ = some (.slice at_ rs[t].length ct) := by rw [HC.out t htl, hxt]
                    have hrt := HLa.out _ (List.getElem_mem htl)
                    by_cases hlet : rs[t].length ≤ d
                    · have HN : Hid (cnt = (grp (keyOf rs d) e (t + 1)).length) := by rw [grp_miss (key_short htl hlet)]; exact HCn.out
                      clear hxt HCn HC HS
                      go_wp2_with fail
                      go_round
                      case rel => exact ⟨t + 1, cnt, by omega, by omega, by omega, by go_num, rfl, HN.out⟩
                      case measure => simp [intOf]; omega
                    · have hdt : d < rs[t].length := by omega
                      have hSt := HS.out t htl
                      rw [hxt] at hSt
                      obtain ⟨bt, ot, rfl, hbt, hcellt⟩ := hSt.at d hdt
                      have hcd : wc.cell? ⟨bt, ot + d, none⟩ = some (.string rs[t][d]) := hcellt d _ (List.getElem?_eq_getElem hdt)
                      clear hSt hcellt hxt
                      by_cases heq : rs[t][d] = e
                      · have hq := str_yes heq
                        have HN : Hid (cnt + 1 = (grp (keyOf rs d) e (t + 1)).length) := by
                          rw [grp_hit (key_yes htl hdt heq), List.length_append, ← HCn.out]; exact rfl
                        clear heq HCn HC HS
                        go_wp2_with fail
                        go_round
                        case rel => exact ⟨t + 1, cnt + 1, by omega, by omega, by omega, by go_num, by go_num, HN.out⟩
                        case measure => simp [intOf]; omega
                      · have hq := str_no heq
                        have HN : Hid (cnt = (grp (keyOf rs d) e (t + 1)).length) := by rw [grp_miss (key_no htl hdt heq)]; exact HCn.out
                        clear heq HCn HC HS
                        go_wp2_with fail
                        go_round
                        case rel => exact ⟨t + 1, cnt, by omega, by omega, by omega, by go_num, rfl, HN.out⟩
                        case measure => simp [intOf]; omega
                  · have htt : t = rs.length := by omega
                    subst htt
                    clear htl ht hjt
                    by_cases hck : (cnt : Int) < kk
                    · have HN : Hid (nn = (kept (keyOf rs d) p (j + 1)).length) := by
                        rw [kept_step_no HKey.out HF.out (by rw [HP.out, ← HCn.out]; simpa using hck)]; exact HNN.out
                      clear HC HS HNN HKey HF HG0 HCn
                      go_wp2_with fail
                      go_roundw
                      case rel => exact ⟨j + 1, nn, nq, by omega, by omega, by go_num, rfl, HN.out, rfl⟩
                      case measure => simp [intOf]; omega
                    · have hpe : p e = true := by rw [HP.out, ← HCn.out]; simpa using hck
                      have hat := kept_at hlt HKey.out HF.out hpe
                      rw [← HNN.out] at hat
                      have hnl := (List.getElem?_eq_some_iff.1 hat).1
                      rw [HKn.out] at hnl
                      obtain ⟨agp, cgp, hy, hcells⟩ := HYs.out nn e hat
                      rw [← HCn.out] at hy
                      obtain ⟨qk, hqk⟩ : ∃ qk, av = some ⟨qk, 0, none⟩ := by
                        rcases HOw.out.2 with ⟨hv, h0⟩ | ⟨g, cap, cur, hv, _⟩
                        · omega
                        · simp only [Value.slice.injEq] at hv
                          exact ⟨g, hv.1⟩
                      subst hqk
                      have hcy : wc.cell? ⟨qk, nn, none⟩ = some (.slice agp cnt cgp) := by rw [HOw.out.cellAt nn (by omega), hy]
                      have HCells : Hid (∀ (m i : Nat), (grp (keyOf rs d) e rs.length)[m]? = some i → ∃ q, agp = some ⟨q, 0, none⟩ ∧ q < wc.heap.size ∧ wc.cell? ⟨q, m, none⟩ = some (X i)) := hcells
                      have HN1 : Hid (nn + 1 = (kept (keyOf rs d) p (j + 1)).length) := by
                        rw [kept_step_yes HKey.out HF.out hpe, ← HNN.out]; exact rfl
                      clear hy hcells hat hpe HNN
                      go_wp2_with fail
                      go_loopw [16, 17] (fun vm vt wx => ∃ t m nq : Nat, j ≤ t ∧ t ≤ rs.length ∧ m ≤ t ∧ vt = .int .i64 t ∧ vm = .int .i64 m ∧ Hid (m = (grp (keyOf rs d) e t).length) ∧ wx = wc.drewN nq) (fun _ t _ => rs.length - (intOf t).toNat)
                      case atStart => exact ⟨j, 0, nq, Nat.le_refl _, by omega, Nat.zero_le _, rfl, rfl, by rw [HG0.out]; exact rfl, rfl⟩
                      case round =>
                        obtain ⟨t, m, nq', hjt, ht, hmt, rfl, rfl, HMn, rfl⟩ := hrel
                        by_cases htl : t < rs.length
                        · obtain ⟨at_, ct, hxt⟩ := (HS.out t htl).shape
                          have hct' : wc.cell? ⟨bg, og + t, none⟩ = some (.slice at_ rs[t].length ct) := by rw [HC.out t htl, hxt]
                          have hrt := HLa.out _ (List.getElem_mem htl)
                          by_cases hlet : rs[t].length ≤ d
                          · have HN : Hid (m = (grp (keyOf rs d) e (t + 1)).length) := by rw [grp_miss (key_short htl hlet)]; exact HMn.out
                            clear hxt HMn HC HS HCells
                            go_wp2_with fail
                            go_roundw
                            case rel => exact ⟨t + 1, m, nq', by omega, by omega, by omega, by go_num, rfl, HN.out, rfl⟩
                            case measure => simp [intOf]; omega
                          · have hdt : d < rs[t].length := by omega
                            have hSt := HS.out t htl
                            rw [hxt] at hSt
                            obtain ⟨bt, ot, rfl, hbt, hcellt⟩ := hSt.at d hdt
                            have hcd : wc.cell? ⟨bt, ot + d, none⟩ = some (.string rs[t][d]) := hcellt d _ (List.getElem?_eq_getElem hdt)
                            have HSt : Hid (Strs wc wc.heap.size (.slice (some ⟨bt, ot, none⟩) rs[t].length ct) rs[t]) := hSt
                            clear hSt hcellt
                            by_cases heq : rs[t][d] = e
                            · have hq := str_yes heq
                              have hkt := key_yes htl hdt heq
                              have hga := grp_at htl hkt
                              rw [← HMn.out] at hga
                              have hml := (List.getElem?_eq_some_iff.1 hga).1
                              rw [← HCn.out] at hml
                              obtain ⟨q, hagp, hqz, hcx⟩ := HCells.out m t hga
                              subst hagp
                              rw [hxt] at hcx
                              have HN : Hid (m + 1 = (grp (keyOf rs d) e (t + 1)).length) := by
                                rw [grp_hit hkt, List.length_append, ← HMn.out]; exact rfl
                              clear heq HMn HC HS HCells hga hkt hxt
                              generalize hwy : wc.drewN nq' = wy
                              have HWy : Hid (wc.drewN nq' = wy) := hwy
                              have hct2 : wy.cell? ⟨bg, og + t, none⟩ = some (.slice (some ⟨bt, ot, none⟩) rs[t].length ct) := by rw [← hwy]; exact hct'
                              have hcd2 : wy.cell? ⟨bt, ot + d, none⟩ = some (.string rs[t][d]) := by rw [← hwy]; exact hcd
                              have hcx2 : wy.cell? ⟨q, m, none⟩ = some (.slice (some ⟨bt, ot, none⟩) rs[t].length ct) := by rw [← hwy]; exact hcx
                              have HSy : Hid (Strs wy wc.heap.size (.slice (some ⟨bt, ot, none⟩) rs[t].length ct) rs[t]) := by rw [← hwy]; exact HSt.out.alike rfl
                              clear hwy hct' hcd hcx HSt
                              go_wp2_with fail
                              go_quiet ((go_at_call 11; refine Calls.quiet_of (same_any _ _ rs[t] _ (by omega) wc.heap.size wc.heap.size (HSy.out.alike rfl) (HSy.out.alike rfl))))
                              go_wp2_with fail
                              go_roundw
                              case rel => exact ⟨t + 1, m + 1, _, by omega, by omega, by omega, by go_num, by go_num, HN.out, by rw [← HWy.out, World.drewN_drewN]⟩
                              case measure => simp [intOf]; omega
                            · have hq := str_no heq
                              have HN : Hid (m = (grp (keyOf rs d) e (t + 1)).length) := by rw [grp_miss (key_no htl hdt heq)]; exact HMn.out
                              clear heq HMn HC HS HCells hxt
                              go_wp2_with fail
                              go_roundw
                              case rel => exact ⟨t + 1, m, nq', by omega, by omega, by omega, by go_num, rfl, HN.out, rfl⟩
                              case measure => simp [intOf]; omega
                        · clear HMn HC HS HCells
                          go_wp2_with fail
                          go_roundw
                          case rel => exact ⟨j + 1, nn + 1, nq', by omega, by omega, by go_num, by go_num, HN1.out, rfl⟩
                          case measure => simp [intOf]; omega
        · have hii : i = rs.length := by omega
          subst hii
          have hnk : nn = Kn := by rw [HNN.out]; exact HKn.out
          subst hnk
          clear HNN HKn hlt hi hni
          go_wp2_with fail
          go_ret
          exact ⟨rfl, below_drewN HBw.out nq⟩
end Go.Proofs.Qxb6601670a
