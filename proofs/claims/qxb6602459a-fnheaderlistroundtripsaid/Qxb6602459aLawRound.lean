import Derived.Test.Qxb6602459aSplit2
import Derived.Test.Qxb6602459aList
namespace Go.Proofs.Qxb6602459a
open Go.RowKit
set_option linter.unusedVariables false

/-! ### the plain law -/
theorem mk_list (s : ByteArray) : (⟨s.data.toList.toArray⟩ : ByteArray) = s := rfl

theorem fields_back (r : List ByteArray) (hne : r ≠ []) (h : ∀ s ∈ r, hasB s 44 = false) : splitB 44 (joinB r comma) = r := by
  unfold splitB
  have e : (joinB r comma).data.toList = Lib.join (r.map (·.data.toList)) [44] := rfl
  rw [e, split_join 44 _ (by simpa using hne) (by
    intro f hf
    simp only [List.mem_map] at hf
    obtain ⟨s, hs, rfl⟩ := hf
    exact hasB_no s 44 (h s hs)), List.map_map]
  have : ((fun l => (⟨l.toArray⟩ : ByteArray)) ∘ fun (x : ByteArray) => x.data.toList) = id := by funext x; rfl
  rw [this, List.map_id]

theorem tokens_eq (rs : List (List ByteArray)) (h : CleanR rs) : splitB 32 (hlist rs) = (interl (rs.map fun r => (joinB r comma).data.toList)).map fun l => ⟨l.toArray⟩ := by
  unfold splitB
  have e : (hlist rs).data.toList = Lib.join (rs.map fun r => (joinB r comma).data.toList) [32, 111, 114, 32] := by
    unfold hlist
    rw [joinB]
    simp only [List.map_map]
    rfl
  rw [e, split_or _ (by simpa using h.1) (by
    intro f hf hm
    simp only [List.mem_map] at hf
    obtain ⟨r, hr, rfl⟩ := hf
    have e2 : (joinB r comma).data.toList = Lib.join (r.map (·.data.toList)) [44] := rfl
    rw [e2] at hm
    rcases join_mem _ _ _ hm with hm | ⟨g, hg, hm⟩
    · revert hm; decide
    · simp only [List.mem_map] at hg
      obtain ⟨s, hs, rfl⟩ := hg
      exact hasB_no s 32 ((h.2 r hr).2 s hs).2 hm)]

theorem tokens_len (rs : List (List ByteArray)) (h : CleanR rs) : (splitB 32 (hlist rs)).length = 2 * rs.length - 1 := by
  rw [tokens_eq rs h, List.length_map, interl_length _ (by simpa using h.1), List.length_map]

theorem tokens_even (rs : List (List ByteArray)) (h : CleanR rs) (i : Nat) (hi : i < rs.length) : (splitB 32 (hlist rs))[2 * i]? = some (joinB rs[i] comma) := by
  rw [tokens_eq rs h, List.getElem?_map, interl_even _ i (by simpa using hi)]
  simp

theorem tokens_odd (rs : List (List ByteArray)) (h : CleanR rs) (i : Nat) (hi : 2 * i + 1 < 2 * rs.length - 1) : (splitB 32 (hlist rs))[2 * i + 1]? = some ⟨#[111, 114]⟩ := by
  rw [tokens_eq rs h, List.getElem?_map, interl_odd _ i (by rw [interl_length _ (by simpa using h.1), List.length_map]; exact hi)]
  rfl

theorem hlist_size' (rs : List (List ByteArray)) : (hlist rs).size ≤ 4 * rs.length + totR rs := by
  have h := joinB_size (rs.map fun r => joinB r comma) orSep
  have h2 := lens_joined rs
  have h3 : orSep.size = 4 := rfl
  rw [h3, List.length_map] at h
  unfold hlist
  omega

set_option maxHeartbeats 4000000 in
set_option maxRecDepth 100000 in
theorem walkRound (v1 : Value) (rs : List (List ByteArray)) (w : World) (za : Fits rs) (ma : rs.length ≤ maxLen) (h1 : RowsV w w.heap.size v1 rs) :
    Calls Try.prog 5 #[v1] w fun e w' => e = .returned (.bool true) ∧ Below w.heap.size w w' := by
  obtain ⟨a1, c1, rfl⟩ := h1.shape
  have m1' := ma
  unfold maxLen at m1'
  have Hza : Hid (Fits rs) := za
  clear za
  go_enter Try.func5, Try.ntmps5
  go_wp2_with fail
  refine (small13_any _ rs w Hza.out ma h1).mono ?_
  rintro e w' ⟨r, rfl, hw, hg⟩
  replace hw := hw.symm
  subst hw
  cases r with
  | false =>
    go_wp2_with fail
    go_ret
    exact ⟨rfl, Below.refl _ _⟩
  | true =>
    have hsm := hg rfl
    clear hg
    have HLa : Hid (∀ r ∈ rs, r.length + lens r ≤ 1048576) := fun r hr => by have := totR_mem hr; omega
    go_wp2_with fail
    refine (rowsBytes_any 0 _ rs _ (by omega) (by omega) (fun r hr => (Hza.out r hr).2) h1).mono ?_
    rintro e w' ⟨r, rfl, g0, g1, hw⟩
    replace hw := hw.symm
    subst hw
    by_cases q3 : 1048576 < r
    · go_wp2_with fail
      go_ret
      exact ⟨rfl, Below.refl _ _⟩
    go_wp2_with fail
    refine (clean_any _ rs w (by omega) (fun r hr => ⟨by have := HLa.out r hr; omega, (Hza.out r hr).2⟩) h1).mono ?_
    rintro e w' ⟨cl, rfl, hw, hcl⟩
    replace hw := hw.symm
    subst hw
    cases cl with
    | false =>
      go_wp2_with fail
      go_ret
      exact ⟨rfl, Below.refl _ _⟩
    | true =>
      have HC : Hid (CleanR rs) := hcl rfl
      clear hcl
      go_wp2_with fail
      refine (cloneRows_any _ rs w (by omega) (fun r hr => by have := HLa.out r hr; omega) h1).mono ?_
      rintro e wa ⟨va, rfl, hba, hRa⟩
      obtain ⟨aa, ca, rfl⟩ := hRa.shape
      have hza := hba.size
      go_wp2_with fail
      refine (zzhlist_any _ rs wa (by omega) hRa).mono ?_
      rintro e wb ⟨rfl, hbb⟩
      have hzb := hbb.size
      have hs := hlist_size' rs
      have HTl : Hid ((splitB 32 (hlist rs)).length = 2 * rs.length - 1) := tokens_len rs HC.out
      have HTe : Hid (∀ i (hi : i < rs.length), (splitB 32 (hlist rs))[2 * i]? = some (joinB rs[i] comma)) := tokens_even rs HC.out
      have HTo : Hid (∀ i, 2 * i + 1 < 2 * rs.length - 1 → (splitB 32 (hlist rs))[2 * i + 1]? = some ⟨#[111, 114]⟩) := tokens_odd rs HC.out
      have HF : Hid (∀ r ∈ rs, splitB 44 (joinB r comma) = r) := fun r hr => fields_back r (HC.out.2 r hr).1 (fun s hs => ((HC.out.2 r hr).2 s hs).1)
      have hpos : 0 < rs.length := List.length_pos_iff.2 HC.out.1
      generalize hlist rs = S at hs HTl HTe HTo ⊢
      go_wp2_with fail
      refine (split_any S 32 _ (by rfl) wb (by omega)).mono ?_
      rintro e wt ⟨vt, rfl, hbt, hSt⟩
      have hzt := hbt.size
      generalize splitB 32 S = T at HTl HTe HTo hSt
      obtain ⟨at_, ct, rfl⟩ := hSt.shape
      have hct := hSt.cap
      have HR : Hid (RowsV wt wt.heap.size (.slice aa rs.length ca) rs) := (((hRa.later hbb).mono hzb).later hbt).mono hzt
      have HT : Hid (Strs wt wt.heap.size (.slice at_ T.length ct) T) := hSt
      have HBw : Hid (Below w.heap.size w wt) := (hba.trans (hbb.mono hza)).trans (hbt.mono (by omega))
      have hwt : w.heap.size ≤ wt.heap.size := by omega
      have hca := HR.out.cap
      have hlen : ((T.length : Int) != 2 * (rs.length : Int) - 1) = false := by have := HTl.out; simp; omega
      have htl : (T.length : Int) ≤ 2097152 := by have := HTl.out; omega
      clear hba hRa hbb hbt hSt hza hzb hzt h1 Hza g0 g1 q3 ma m1' hs HC
      go_wp2_with fail
      go_loop [5] (fun i => ∃ k : Nat, k ≤ T.length + 2 ∧ i = .int .i64 k ∧ Hid (∃ j, k = 2 * j + 1)) (fun i => T.length + 2 - (intOf i).toNat)
      case atStart => exact ⟨1, by omega, rfl, 0, rfl⟩
      case round =>
        obtain ⟨k, hk, rfl, HK⟩ := hrel
        by_cases hlt : k < T.length
        · obtain ⟨bt, ot, rfl, hB, hC⟩ := HT.out.at k hlt
          have hck : wt.cell? ⟨bt, ot + k, none⟩ = some (.string ⟨#[111, 114]⟩) := by
            obtain ⟨j, hj⟩ := HK.out
            have := HTo.out j (by have := HTl.out; omega)
            rw [← hj] at this
            exact hC k _ this
          have HK2 : Hid (∃ j, k + 2 = 2 * j + 1) := by
            obtain ⟨j, hj⟩ := HK.out
            exact ⟨j + 1, by omega⟩
          clear hC hB HK
          go_wp2_with fail
          go_round
          case rel => exact ⟨k + 2, by omega, by go_num, HK2.out⟩
          case measure => simp [intOf]; omega
        · clear HK
          go_wp2_with fail
          go_loopw [6] (fun i wr => ∃ k : Nat, k ≤ rs.length ∧ i = .int .i64 k ∧ Hid (Below wt.heap.size wt wr)) (fun i _ => rs.length - (intOf i).toNat)
          case atStart => exact ⟨0, Nat.zero_le _, rfl, Below.refl _ _⟩
          case round =>
            obtain ⟨k, hk, rfl, HB⟩ := hrel
            by_cases hlt : k < rs.length
            · have hsz := HB.out.size
              have h2k : 2 * k < T.length := by have := HTl.out; omega
              obtain ⟨bt, ot, rfl, hB, hC⟩ := (HT.out.later HB.out).at (2 * k) h2k
              have hck : wr.cell? ⟨bt, ot + 2 * k, none⟩ = some (.string (joinB rs[k] comma)) := hC (2 * k) _ (HTe.out k hlt)
              have HFk : Hid (splitB 44 (joinB rs[k] comma) = rs[k]) := HF.out _ (List.getElem_mem hlt)
              have hjs : (joinB rs[k] comma).size ≤ 2097152 := by
                have h1 := joinB_size rs[k] comma
                have h2 := HLa.out _ (List.getElem_mem hlt)
                have h3 : comma.size = 1 := rfl
                rw [h3, Nat.one_mul] at h1
                omega
              generalize joinB rs[k] comma = J at hck HFk hjs
              clear hC hB
              go_wp2_with fail
              refine (split_any J 44 _ (by rfl) wr (by omega)).mono ?_
              rintro e wf ⟨vf, rfl, hbf, hSf⟩
              rw [HFk.out] at hSf
              obtain ⟨af, cf, rfl⟩ := hSf.shape
              have hzf := hbf.size
              have HB2 : Hid (Below wt.heap.size wt wf) := HB.out.trans (hbf.mono hsz)
              obtain ⟨br, or_, rfl, hBr, hCr⟩ := (HR.out.later HB2.out).at k hlt
              obtain ⟨av, cv, hcr, hSr⟩ := hCr k _ (List.getElem?_eq_getElem hlt)
              have HSf : Hid (Strs wf wf.heap.size (.slice af rs[k].length cf) rs[k]) := hSf
              have HSr : Hid (Strs wf wt.heap.size (.slice av rs[k].length cv) rs[k]) := hSr
              have hrl : rs[k].length ≤ 1048576 := by have := HLa.out _ (List.getElem_mem hlt); omega
              clear hbf hSf hCr hSr hBr HB hck HFk hjs hzf
              generalize hrow : rs[k] = r' at HSf HSr hcr hrl
              clear hrow
              go_wp2_with fail
              go_loopw [8] (fun i wx => ∃ j nq : Nat, j ≤ r'.length ∧ i = .int .i64 j ∧ wx = wf.drewN nq) (fun i _ => r'.length - (intOf i).toNat)
              case atStart => exact ⟨0, 0, Nat.zero_le _, rfl, rfl⟩
              case round =>
                obtain ⟨j, nq, hj, rfl, rfl⟩ := hrel
                by_cases hjl : j < r'.length
                · obtain ⟨b1, o1, rfl, hB1, hC1⟩ := HSf.out.at j hjl
                  obtain ⟨b2, o2, rfl, hB2, hC2⟩ := HSr.out.at j hjl
                  have hx1 := hC1 j _ (List.getElem?_eq_getElem hjl)
                  have hx2 := hC2 j _ (List.getElem?_eq_getElem hjl)
                  clear hC1 hC2 hB1 hB2 HSf HSr HR HT HTe HTo HTl HF HLa
                  go_wp2_with fail
                  go_quiet (fail)
                  go_wp2_with fail
                  go_roundw
                  case rel => exact ⟨j + 1, _, by omega, by go_num, rfl⟩
                  case measure => simp [intOf]; omega
                · go_wp2_with fail
                  go_roundw
                  case rel => exact ⟨k + 1, by omega, by go_num, below_drewN HB2.out nq⟩
                  case measure => simp [intOf]; omega
            · go_wp2_with fail
              go_ret
              exact ⟨rfl, HBw.out.trans (HB.out.mono hwt)⟩
end Go.Proofs.Qxb6602459a
