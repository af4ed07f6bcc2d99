import Derived.Test.Qxb6602459aHrows
import Derived.Test.Qxb6602459aBytes
import Derived.Test.Qxb6602459aClone
namespace Go.Proofs.Qxb6602459a
open Go.RowKit
set_option linter.unusedVariables false

/-- v is a slice whose elements are slices of strings, the rows rs; all cells lie in blocks below B. -/
def RowsV (w : World) (B : Nat) (v : Value) (rs : List (List ByteArray)) : Prop :=
  ∃ a c, v = .slice a rs.length c ∧ (rs.length ≤ c ∧ c ≤ 9223372036854775807) ∧ (a = none → c = 0) ∧
    (rs ≠ [] → ∃ b o, a = some ⟨b, o, none⟩ ∧ b < B ∧ ∀ i r, rs[i]? = some r → ∃ av cv, w.cell? ⟨b, o + i, none⟩ = some (.slice av r.length cv) ∧ Strs w B (.slice av r.length cv) r)

theorem RowsV.nil (w : World) (B : Nat) : RowsV w B (.slice none 0 0) [] := ⟨none, 0, rfl, ⟨Nat.le_refl _, by omega⟩, fun _ => rfl, fun h => absurd rfl h⟩

theorem RowsV.later {w w' : World} {B : Nat} {v : Value} {rs : List (List ByteArray)} (h : RowsV w B v rs) (hb : Below B w w') : RowsV w' B v rs := by
  obtain ⟨a, c, hv, hc, hn, hr⟩ := h
  refine ⟨a, c, hv, hc, hn, fun hne => ?_⟩
  obtain ⟨b, o, ha, hB, hcell⟩ := hr hne
  refine ⟨b, o, ha, hB, fun i r hi => ?_⟩
  obtain ⟨av, cv, h1, h2⟩ := hcell i r hi
  exact ⟨av, cv, by rw [hb.cell hB]; exact h1, h2.later hb⟩

theorem RowsV.mono {w : World} {B B' : Nat} {v : Value} {rs : List (List ByteArray)} (h : RowsV w B v rs) (hB : B ≤ B') : RowsV w B' v rs := by
  obtain ⟨a, c, hv, hc, hn, hr⟩ := h
  refine ⟨a, c, hv, hc, hn, fun hne => ?_⟩
  obtain ⟨b, o, ha, hb, hcell⟩ := hr hne
  refine ⟨b, o, ha, by omega, fun i r hi => ?_⟩
  obtain ⟨av, cv, h1, h2⟩ := hcell i r hi
  exact ⟨av, cv, h1, h2.mono hB⟩

theorem RowsV.shape {w : World} {B : Nat} {v : Value} {rs : List (List ByteArray)} (h : RowsV w B v rs) : ∃ a c, v = .slice a rs.length c := by
  obtain ⟨a, c, hv, _⟩ := h
  exact ⟨a, c, hv⟩

theorem RowsV.cap {w : World} {B : Nat} {a : Option Addr} {n c : Nat} {rs : List (List ByteArray)} (h : RowsV w B (.slice a n c) rs) : n ≤ c ∧ c ≤ 9223372036854775807 := by
  obtain ⟨a', c', hv, hc, hn, hr⟩ := h
  simp only [Value.slice.injEq] at hv
  obtain ⟨rfl, rfl, rfl⟩ := hv
  exact hc

theorem RowsV.at {w : World} {B : Nat} {a : Option Addr} {n c : Nat} {rs : List (List ByteArray)} (h : RowsV w B (.slice a n c) rs) (i : Nat) (hi : i < n) :
    ∃ b o, a = some ⟨b, o, none⟩ ∧ b < B ∧ ∀ i r, rs[i]? = some r → ∃ av cv, w.cell? ⟨b, o + i, none⟩ = some (.slice av r.length cv) ∧ Strs w B (.slice av r.length cv) r := by
  obtain ⟨a', c', hv, hc, hn, hr⟩ := h
  simp only [Value.slice.injEq] at hv
  obtain ⟨rfl, rfl, rfl⟩ := hv
  exact hr (by intro e; subst e; simp at hi)

/-- a store outside its block turns no slice of strings -/
theorem Strs.setOther {w : World} {B : Nat} {v : Value} {ss : List ByteArray} (h : Strs w B v ss) {p : Addr} (hp : v.ownBlock ≠ some p.block) (u : Value) : Strs (w.setCell p u) B v ss := by
  obtain ⟨a, c, rfl, hc, hn, hr⟩ := h
  refine ⟨a, c, rfl, hc, hn, fun hne => ?_⟩
  obtain ⟨b, o, rfl, hB, hcell⟩ := hr hne
  refine ⟨b, o, rfl, hB, fun i s hi => ?_⟩
  rw [World.cell?_of_block (w := w) (Below.heap_setCell _ _ _ _ (show b ≠ p.block from fun e => hp (by rw [← e]; rfl)))]
  exact hcell i s hi

/-- the copy so far -/
structure CRows (w : World) (g : Nat) (V : Nat → Value) (rs : List (List ByteArray)) (k : Nat) : Prop where
  row : w.rowIs g 22 rs.length (fun j => if j < k then V j else .slice none 0 0)
  each : ∀ j r, j < k → rs[j]? = some r → Strs w w.heap.size (V j) r ∧ ∀ q, (V j).ownBlock = some q → g + 1 ≤ q

theorem CRows.step {wr w2 : World} {g : Nat} {V : Nat → Value} {rs : List (List ByteArray)} {k : Nat} {v : Value} (h : CRows wr g V rs k) (hk : k < rs.length)
    (h2 : Below wr.heap.size wr w2) (hv : Strs w2 w2.heap.size v rs[k]) (hq : ∀ q, v.ownBlock = some q → wr.heap.size ≤ q) :
    CRows (w2.setCell ⟨g, k, none⟩ v) g (fun j => if j = k then v else V j) rs (k + 1) := by
  have hgw := h.row.lt
  have hs := h2.size
  refine ⟨?_, ?_⟩
  · have hr : w2.rowIs g 22 rs.length (fun j => if j < k then V j else .slice none 0 0) := h.row.of_block (h2.block g hgw)
    refine (hr.set k v).congr fun j hj => ?_
    by_cases e : j = k
    · subst e; simp
    · by_cases l : j < k
      · have : j < k + 1 := by omega
        simp [e, l, this]
      · have : ¬ j < k + 1 := by omega
        simp [e, l, this]
  · intro j r hj hr
    have hsz : (w2.setCell ⟨g, k, none⟩ v).heap.size = w2.heap.size := by simp
    rw [hsz]
    by_cases e : j = k
    · subst e
      simp only [if_true]
      rw [List.getElem?_eq_getElem hk] at hr
      obtain rfl := Option.some.inj hr
      refine ⟨hv.setOther (fun hb => ?_) _, fun q hq' => ?_⟩
      · have := hq g hb; omega
      · have := hq q hq'; omega
    · simp only [if_neg e]
      obtain ⟨h3, h4⟩ := h.each j r (by omega) hr
      refine ⟨((h3.later h2).mono hs).setOther (fun hb => ?_) _, h4⟩
      have := h4 g hb
      omega

theorem CRows.done {w : World} {g : Nat} {V : Nat → Value} {rs : List (List ByteArray)} (h : CRows w g V rs rs.length) (hm : rs.length ≤ 1048576) : RowsV w w.heap.size (.slice (some ⟨g, 0, none⟩) rs.length rs.length) rs := by
  refine ⟨some ⟨g, 0, none⟩, rs.length, rfl, ⟨Nat.le_refl _, by omega⟩, (fun h => by cases h), fun _ => ⟨g, 0, rfl, h.row.lt, fun i r hi => ?_⟩⟩
  have hlt := (List.getElem?_eq_some_iff.1 hi).1
  obtain ⟨h1, _⟩ := h.each i r hlt hi
  obtain ⟨av, cv, hv⟩ := h1.shape
  refine ⟨av, cv, ?_, by rw [← hv]; exact h1⟩
  rw [Nat.zero_add, h.row.cell hlt, ← hv]
  simp [hlt]

set_option maxHeartbeats 800000 in
theorem cloneRows_some (x : Addr) (c : Nat) (rs : List (List ByteArray)) (w : World) (hs : rs.length ≤ 1048576) (hl : ∀ r ∈ rs, r.length ≤ 1048576)
    (hR : RowsV w w.heap.size (.slice (some x) rs.length c) rs) :
    Calls Try.prog 16 #[.slice (some x) rs.length c] w fun e w' => e = .returned (.slice (some ⟨w.heap.size, 0, none⟩) rs.length rs.length) ∧
      Below w.heap.size w w' ∧ RowsV w' w'.heap.size (.slice (some ⟨w.heap.size, 0, none⟩) rs.length rs.length) rs := by
  have hnil := fun w a n c => Lib.run_eql_slice_nil (P := Try.prog) w 26 22 a n c 0 0 Try.underlying26
  have hmk := fun w => run_make_row' (P := Try.prog) 26 22 _ 24 Try.underlying26 Try.info22 rfl .i64 .i64 rs.length (by omega) (by omega) w
  have HR : Hid (RowsV w w.heap.size (.slice (some x) rs.length c) rs) := hR
  have HL : Hid (∀ r ∈ rs, r.length ≤ 1048576) := hl
  clear hR hl
  go_enter Try.func16, Try.ntmps16
  go_wp2_with fail
  go_loopw [4] (fun i wr => ∃ k : Nat, k ≤ rs.length ∧ i = .int .i64 k ∧ Hid (Below w.heap.size w wr) ∧ Hid (∃ V, CRows wr w.heap.size V rs k)) (fun i _ => rs.length - (intOf i).toNat)
  case atStart => exact ⟨0, Nat.zero_le _, rfl, (Below.refl _ _).alloc (Nat.le_refl _) _, fun _ => .slice none 0 0, (World.rowIs_made w _ _ 22).congr (fun i hi => by simp), fun j r hj => by omega⟩
  case round =>
    obtain ⟨k, hk, rfl, HB, HV⟩ := hrel
    by_cases hlt : k < rs.length
    · obtain ⟨V, hV⟩ := HV.out
      have hsz := HB.out.size
      obtain ⟨b, o, hx, hb, hcell⟩ := (HR.out.later HB.out).at k hlt
      obtain rfl := Option.some.inj hx
      obtain ⟨av, cv, hck, hSk⟩ := hcell k _ (List.getElem?_eq_getElem hlt)
      have hrl := HL.out _ (List.getElem_mem hlt)
      have HH : Hid (CRows wr w.heap.size V rs k) := hV
      have HSk : Hid (Strs wr wr.heap.size (.slice av rs[k].length cv) rs[k]) := hSk.mono hsz
      clear hV HV hcell hSk
      go_wp2_with fail
      refine (clone_any2 _ rs[k] wr hrl HSk.out).mono ?_
      rintro e w2 ⟨v, rfl, hbel, hSv, hqv⟩
      obtain ⟨av2, cv2, rfl⟩ := hSv.shape
      have hgw := HH.out.row.lt
      have hfz2 : w2.frozen? ⟨w.heap.size, k, none⟩ = false := by rw [hbel.frozen hgw]; exact HH.out.row.frozen k
      have hcg2 : w2.cell? ⟨w.heap.size, k, none⟩ = some (.slice none 0 0) := by rw [hbel.cell hgw, HH.out.row.cell hlt]; simp
      have HN : Hid (CRows (w2.setCell ⟨w.heap.size, k, none⟩ (.slice av2 rs[k].length cv2)) w.heap.size (fun j => if j = k then .slice av2 rs[k].length cv2 else V j) rs (k + 1)) := HH.out.step hlt hbel hSv hqv
      have HB2 : Hid (Below w.heap.size w (w2.setCell ⟨w.heap.size, k, none⟩ (.slice av2 rs[k].length cv2))) := (HB.out.trans (hbel.mono hsz)).setCell (Nat.le_refl _) _
      clear hbel hSv hqv hgw HH HB HSk HR HL hmk hnil hck
      go_wp2_with fail
      go_roundw
      case rel => exact ⟨k + 1, by omega, by go_num, HB2.out, _, HN.out⟩
      case measure => simp [intOf]; omega
    · have hkk : k = rs.length := by omega
      subst hkk
      obtain ⟨V, hV⟩ := HV.out
      have HD : Hid (RowsV wr wr.heap.size (.slice (some ⟨w.heap.size, 0, none⟩) rs.length rs.length) rs) := hV.done hs
      clear hV HV
      go_wp2_with fail
      go_ret
      exact ⟨rfl, HB.out, HD.out⟩

theorem cloneRows_nil (w : World) : Calls Try.prog 16 #[.slice none 0 0] w fun e w' => e = .returned (.slice none 0 0) ∧ w' = w := by
  have hnil := fun w a n c => Lib.run_eql_slice_nil (P := Try.prog) w 26 22 a n c 0 0 Try.underlying26
  go_enter Try.func16, Try.ntmps16
  go_wp2
  go_ret
  exact ⟨rfl, rfl⟩

theorem cloneRows_any (v : Value) (rs : List (List ByteArray)) (w : World) (hs : rs.length ≤ 1048576) (hl : ∀ r ∈ rs, r.length ≤ 1048576) (h : RowsV w w.heap.size v rs) :
    Calls Try.prog 16 #[v] w fun e w' => ∃ v', e = .returned v' ∧ Below w.heap.size w w' ∧ RowsV w' w'.heap.size v' rs := by
  obtain ⟨a, c, rfl, hc, hn, hr⟩ := id h
  cases a with
  | none =>
    have h0 := hn rfl
    subst h0
    have hl : rs.length = 0 := by omega
    have hss : rs = [] := List.length_eq_zero_iff.1 hl
    subst hss
    refine (cloneRows_nil w).mono ?_
    rintro e w' ⟨rfl, rfl⟩
    exact ⟨_, rfl, Below.refl _ _, RowsV.nil _ _⟩
  | some x =>
    refine (cloneRows_some x c rs w hs hl h).mono ?_
    rintro e w' ⟨rfl, hb, hR⟩
    exact ⟨_, rfl, hb, hR⟩

set_option maxHeartbeats 800000 in
theorem rowsBytes_any (t : Int) (v : Value) (rs : List (List ByteArray)) (w : World) (h0 : 0 ≤ t) (h1 : t ≤ 1099511627776) (hsz : ∀ r ∈ rs, ∀ s ∈ r, s.size ≤ maxLen) (h : RowsV w w.heap.size v rs) :
    Calls Try.prog 14 #[.int .i64 t, v] w fun e w' => ∃ r : Int, e = .returned (.int .i64 r) ∧ 0 ≤ r ∧ r ≤ t + 137438953472 ∧ w' = w := by
  obtain ⟨a, c, rfl⟩ := h.shape
  have HR : Hid (RowsV w w.heap.size (.slice a rs.length c) rs) := h
  have HZ : Hid (∀ r ∈ rs, ∀ s ∈ r, s.size ≤ maxLen) := hsz
  have hcap := h.cap
  clear h hsz
  by_cases hbig : 1048576 < rs.length
  · go_enter Try.func14, Try.ntmps14
    go_wp2_with fail
    go_ret
    exact ⟨_, rfl, by omega, by omega, rfl⟩
  · go_enter Try.func14, Try.ntmps14
    go_wp2_with fail
    go_loop [0, 5] (fun t' i => ∃ (k : Nat) (r : Int), k ≤ rs.length ∧ i = .int .i64 k ∧ t' = .int .i64 r ∧ 0 ≤ r ∧ r ≤ t + 137438953472) (fun _ i => rs.length - (intOf i).toNat)
    case atStart => exact ⟨0, _, Nat.zero_le _, rfl, rfl, by omega, by omega⟩
    case round =>
      obtain ⟨k, r, hk, rfl, rfl, g0, g1⟩ := hrel
      by_cases hlt : k < rs.length
      · obtain ⟨b, o, rfl, hb, hcell⟩ := HR.out.at k hlt
        obtain ⟨av, cv, hck, hSk⟩ := hcell k _ (List.getElem?_eq_getElem hlt)
        have HSk : Hid (Strs w w.heap.size (.slice av rs[k].length cv) rs[k]) := hSk
        have HZk : Hid (∀ s ∈ rs[k], s.size ≤ maxLen) := HZ.out _ (List.getElem_mem hlt)
        clear hcell hSk HZ
        by_cases q1 : 1048576 < r
        · go_wp2_with fail
          go_ret
          exact ⟨_, rfl, g0, g1, rfl⟩
        · go_wp2_with fail
          refine (strsBytes_any r _ rs[k] w g0 (by omega) HZk.out HSk.out).mono ?_
          rintro e w' ⟨r', rfl, f0, f1, hw⟩
          replace hw := hw.symm
          subst hw
          go_wp2_with fail
          go_round
          case rel => exact ⟨k + 1, r', by omega, by go_num, rfl, by omega, by omega⟩
          case measure => simp [intOf]; omega
      · go_wp2_with fail
        go_ret
        exact ⟨_, rfl, g0, g1, rfl⟩
end Go.Proofs.Qxb6602459a
