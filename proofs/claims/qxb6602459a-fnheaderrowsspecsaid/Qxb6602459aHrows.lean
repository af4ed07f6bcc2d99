import Derived.Test.Qxb6602459aConcat
namespace Go.Proofs.Qxb6602459a
open Go.RowKit
set_option linter.unusedVariables false

theorem owns_keep {w w' : World} {base : Nat} {e : TypeId} {size : Nat} {v : Value} {n : Nat} {xs : List Value} (h : w.ownsRow base e size v n xs)
    (hk : ∀ q, v.ownBlock = some q → w'.heap[q]? = w.heap[q]?) : w'.ownsRow base e size v n xs := by
  obtain ⟨h1, h2⟩ := h
  refine ⟨h1, ?_⟩
  rcases h2 with h2 | ⟨g, cap, cur, hv, hb, hg, r⟩
  · exact Or.inl h2
  · subst hv
    exact Or.inr ⟨g, cap, cur, rfl, hb, by rw [hk g rfl]; exact hg, r⟩

theorem owns_slice {w : World} {base : Nat} {e : TypeId} {size : Nat} {v : Value} {n : Nat} {xs : List Value} (h : w.ownsRow base e size v n xs) : ∃ a c, v = .slice a n c := by
  rcases h.2 with ⟨rfl, rfl⟩ | ⟨g, cap, cur, hv, _⟩
  · exact ⟨_, _, rfl⟩
  · exact ⟨_, _, hv⟩

theorem owns_base {w : World} {base base' : Nat} {e : TypeId} {size : Nat} {v : Value} {n : Nat} {xs : List Value} (h : w.ownsRow base e size v n xs) (hb : base' ≤ base) : w.ownsRow base' e size v n xs := by
  obtain ⟨h1, h2⟩ := h
  refine ⟨h1, ?_⟩
  rcases h2 with h2 | ⟨g, cap, cur, hv, hb', r⟩
  · exact Or.inl h2
  · exact Or.inr ⟨g, cap, cur, hv, by omega, r⟩

theorem Strs.shape {w : World} {B : Nat} {v : Value} {ss : List ByteArray} (h : Strs w B v ss) : ∃ a c, v = .slice a ss.length c := by
  obtain ⟨a, c, hv, _⟩ := h
  exact ⟨a, c, hv⟩

theorem Strs.cap {w : World} {B : Nat} {a : Option Addr} {n c : Nat} {ss : List ByteArray} (h : Strs w B (.slice a n c) ss) : n ≤ c ∧ c ≤ 9223372036854775807 := by
  obtain ⟨a', c', hv, hc, hn, hr⟩ := h
  simp only [Value.slice.injEq] at hv
  obtain ⟨rfl, rfl, rfl⟩ := hv
  exact hc

/-- what is owned can be read -/
theorem Strs.of_owns {w : World} {base n : Nat} {v : Value} {ss : List ByteArray} (hl : ss.length = n) (h : w.ownsRow base 9 1 v n (strVals ss)) : Strs w w.heap.size v ss := by
  subst hl
  have hlt := h.lt
  have hcell := fun g cap => World.ownsRow.cellAt (w := w) (base := base) (e := 9) (size := 1) (g := g) (n := ss.length) (cap := cap) (xs := strVals ss)
  rcases h.2 with ⟨rfl, h0⟩ | ⟨g, cap, cur, rfl, hb, hg, hnc, hcm, hcs, htake⟩
  · have : ss = [] := List.length_eq_zero_iff.1 h0
    subst this
    exact Strs.nil _ _
  · refine ⟨some ⟨g, 0, none⟩, cap, rfl, ⟨hnc, by unfold maxLen at hcm; omega⟩, (fun h => by cases h), fun _ => ⟨g, 0, rfl, (hlt g rfl).2, fun i s hi => ?_⟩⟩
    have hil := (List.getElem?_eq_some_iff.1 hi).1
    rw [Nat.zero_add, hcell g cap h i (by omega), strVals, List.getElem?_map, hi]
    rfl

theorem Strs.take {w : World} {B : Nat} {a : Option Addr} {n c : Nat} {ss : List ByteArray} (h : Strs w B (.slice a n c) ss) (k : Nat) (hk : k ≤ ss.length) : Strs w B (.slice a k c) (ss.take k) := by
  obtain ⟨a', c', hv, hc, hn, hr⟩ := h
  simp only [Value.slice.injEq] at hv
  obtain ⟨rfl, rfl, rfl⟩ := hv
  refine ⟨a, c, by rw [List.length_take_of_le hk], by rw [List.length_take_of_le hk]; exact ⟨by omega, hc.2⟩, hn, fun hne => ?_⟩
  obtain ⟨b, o, ha, hB, hcell⟩ := hr (by intro e; subst e; simp at hne)
  refine ⟨b, o, ha, hB, fun i s hi => hcell i s ?_⟩
  rw [List.getElem?_take] at hi
  split at hi
  · exact hi
  · cases hi

/-- element i of a slice of strings, its cell -/
theorem Strs.at {w : World} {B : Nat} {a : Option Addr} {n c : Nat} {ss : List ByteArray} (h : Strs w B (.slice a n c) ss) (i : Nat) (hi : i < n) :
    ∃ b o, a = some ⟨b, o, none⟩ ∧ b < B ∧ ∀ j s, ss[j]? = some s → w.cell? ⟨b, o + j, none⟩ = some (.string s) := by
  obtain ⟨a', c', hv, hc, hn, hr⟩ := h
  simp only [Value.slice.injEq] at hv
  obtain ⟨rfl, rfl, rfl⟩ := hv
  exact hr (by intro e; subst e; simp at hi)

/-- the rows so far: row j is owned, holds header and the first j optional columns, and no two rows share a block -/
structure HRows (w : World) (g : Nat) (V : Nat → Value) (hdr opt : List ByteArray) (k : Nat) : Prop where
  row : w.rowIs g 22 (opt.length + 1) (fun j => if j < k then V j else .slice none 0 0)
  own : ∀ j, j < k → w.ownsRow (g + 1) 9 1 (V j) (hdr.length + j) (strVals (hdr ++ opt.take j))
  apart : ∀ i j, i < j → j < k → ∀ q, (V i).ownBlock = some q → (V j).ownBlock ≠ some q

theorem HRows.step {wr w1 w2 : World} {g : Nat} {V : Nat → Value} {hdr opt : List ByteArray} {k : Nat} {v : Value} (h : HRows wr g V hdr opt k) (hk : k < opt.length + 1)
    (h1 : Below wr.heap.size wr w1) (h2 : Below w1.heap.size w1 w2) (hv : w2.ownsRow w1.heap.size 9 1 v (hdr.length + k) (strVals (hdr ++ opt.take k))) :
    HRows (w2.setCell ⟨g, k, none⟩ v) g (fun j => if j = k then v else V j) hdr opt (k + 1) := by
  have hgw := h.row.lt
  have hs1 := h1.size
  have hb : Below wr.heap.size wr w2 := h1.trans (h2.mono hs1)
  have hlt : ∀ j, j < k → ∀ q, (V j).ownBlock = some q → g + 1 ≤ q ∧ q < wr.heap.size := fun j hj q hq => (h.own j hj).lt q hq
  have hlv : ∀ q, v.ownBlock = some q → w1.heap.size ≤ q ∧ q < w2.heap.size := fun q hq => hv.lt q hq
  refine ⟨?_, ?_, ?_⟩
  · have hr : w2.rowIs g 22 (opt.length + 1) (fun j => if j < k then V j else .slice none 0 0) := h.row.of_block (hb.block g hgw)
    refine (hr.set k v).congr fun j hj => ?_
    by_cases e : j = k
    · subst e; simp
    · by_cases l : j < k
      · have : j < k + 1 := by omega
        simp [e, l, this]
      · have : ¬ j < k + 1 := by omega
        simp [e, l, this]
  · intro j hj
    by_cases e : j = k
    · subst e
      simp only [if_true]
      refine owns_keep (owns_base hv (by omega)) fun q hq => Below.heap_setCell _ _ _ _ ?_
      have := hlv q hq
      show q ≠ g
      omega
    · have hj' : j < k := by omega
      simp only [if_neg e]
      refine owns_keep (h.own j hj') fun q hq => ?_
      have := hlt j hj' q hq
      rw [Below.heap_setCell _ _ _ _ (show q ≠ g by omega), hb.block q this.2]
  · intro i j hij hj q hq
    have hi : i ≠ k := by omega
    simp only [if_neg hi] at hq
    have hqi := hlt i (by omega) q hq
    by_cases e : j = k
    · simp only [if_pos e]
      intro hq'
      have := hlv q hq'
      omega
    · simp only [if_neg e]
      exact h.apart i j hij (by omega) q hq

theorem concat_n (p : Nat) (a1 a2 : Option Addr) (n1 n2 c1 c2 : Nat) (ss1 ss2 : List ByteArray) (w : World) (e1 : ss1.length = n1) (e2 : ss2.length = n2) (hN : n1 + n2 ≤ 8388608)
    (hp : w.cell? ⟨p, 0, none⟩ = some (.slice a1 n1 c1)) (hq : w.cell? ⟨p, 1, none⟩ = some (.slice a2 n2 c2)) (hpz : p < w.heap.size)
    (h1 : Strs w w.heap.size (.slice a1 n1 c1) ss1) (h2 : Strs w w.heap.size (.slice a2 n2 c2) ss2) :
    Calls Try.prog 23 #[.slice (some ⟨p, 0, none⟩) 2 2] w fun e w' => ∃ v, e = .returned v ∧ w'.ownsRow w.heap.size 9 1 v (n1 + n2) (strVals (ss1 ++ ss2)) ∧ Below w.heap.size w w' := by
  subst e1 e2
  exact concat_any p a1 a2 c1 c2 ss1 ss2 w hN hp hq hpz h1 h2

set_option maxHeartbeats 800000 in
theorem hrows_slice (a1 a2 : Option Addr) (c1 c2 : Nat) (hdr opt : List ByteArray) (w : World) (l1 : hdr.length ≤ 1048576) (l2 : opt.length ≤ 1048576)
    (h1 : Strs w w.heap.size (.slice a1 hdr.length c1) hdr) (h2 : Strs w w.heap.size (.slice a2 opt.length c2) opt) :
    Calls Try.prog 20 #[.slice a1 hdr.length c1, .slice a2 opt.length c2] w fun e w' => e = .returned (.slice (some ⟨w.heap.size, 0, none⟩) (opt.length + 1) (opt.length + 1)) ∧ Below w.heap.size w w' ∧
      ∃ V, HRows w' w.heap.size V hdr opt (opt.length + 1) := by
  have hc2 : opt.length ≤ c2 := h2.cap.1
  have hc63 : c2 ≤ 9223372036854775807 := h2.cap.2
  have hmk := fun w => run_make_row' (P := Try.prog) 26 22 _ 24 Try.underlying26 Try.info22 rfl .i64 .i64 (opt.length + 1) (by omega) (by omega) w
  rw [show ((opt.length + 1 : Nat) : Int) = (opt.length : Int) + 1 by omega] at hmk
  have H1 : Hid (Strs w w.heap.size (.slice a1 hdr.length c1) hdr) := h1
  have H2 : Hid (Strs w w.heap.size (.slice a2 opt.length c2) opt) := h2
  clear h1 h2
  go_enter Try.func20, Try.ntmps20
  go_wp2_with fail
  go_loopw [13] (fun i wr => ∃ k : Nat, k ≤ opt.length + 1 ∧ i = .int .i64 k ∧ Hid (Below w.heap.size w wr) ∧ Hid (∃ V, HRows wr w.heap.size V hdr opt k)) (fun i _ => opt.length + 1 - (intOf i).toNat)
  case atStart => exact ⟨0, Nat.zero_le _, rfl, (Below.refl _ _).alloc (Nat.le_refl _) _, fun _ => .slice none 0 0, (World.rowIs_made w _ _ 22).congr (fun i hi => by simp), fun j hj => by omega, fun i j _ hj => by omega⟩
  case round =>
    obtain ⟨k, hk, rfl, HB, HV⟩ := hrel
    by_cases hlt : k < opt.length + 1
    · obtain ⟨V, hV⟩ := HV.out
      have hfz := hV.row.frozen k
      have hcg := hV.row.cell hlt
      have HH : Hid (HRows wr w.heap.size V hdr opt k) := hV
      clear hV HV
      go_wp2_with fail
      have hbw := HB.out.size
      have hb1 : Below wr.heap.size wr (wr.alloc (.cells #[.slice a1 hdr.length c1, .slice a2 k c2] 22)) := (Below.refl _ _).alloc (Nat.le_refl _) _
      have hB1 : Below w.heap.size w (wr.alloc (.cells #[.slice a1 hdr.length c1, .slice a2 k c2] 22)) := HB.out.alloc hbw _
      have hsz1 : (wr.alloc (.cells #[.slice a1 hdr.length c1, .slice a2 k c2] 22)).heap.size = wr.heap.size + 1 := by simp
      refine (concat_n wr.heap.size a1 a2 hdr.length k c1 c2 hdr (opt.take k) _ rfl (List.length_take_of_le (by omega)) (by omega) (by simp) (by simp) (by simp)
        ((H1.out.later hB1).mono (by omega)) (((H2.out.take k (by omega)).later hB1).mono (by omega))).mono ?_
      rintro e w2 ⟨v, rfl, hown, hbel⟩
      obtain ⟨av, cv, rfl⟩ := owns_slice hown
      have hgw := HH.out.row.lt
      have hfz2 : w2.frozen? ⟨w.heap.size, k, none⟩ = false := by
        rw [(hb1.trans (hbel.mono (by omega))).frozen hgw]; exact hfz
      have hcg2 : w2.cell? ⟨w.heap.size, k, none⟩ = some (.slice none 0 0) := by
        rw [(hb1.trans (hbel.mono (by omega))).cell hgw, hcg]; simp
      have HN : Hid (HRows (w2.setCell ⟨w.heap.size, k, none⟩ (.slice av (hdr.length + k) cv)) w.heap.size (fun j => if j = k then .slice av (hdr.length + k) cv else V j) hdr opt (k + 1)) := HH.out.step hlt hb1 hbel hown
      have HB2 : Hid (Below w.heap.size w (w2.setCell ⟨w.heap.size, k, none⟩ (.slice av (hdr.length + k) cv))) := (hB1.trans (hbel.mono (by omega))).setCell (Nat.le_refl _) _
      clear hfz hcg hb1 hB1 hsz1 hown hbel hgw HH HB H1 H2 hmk
      go_wp2_with fail
      go_roundw
      case rel => exact ⟨k + 1, by omega, by go_num, HB2.out, _, HN.out⟩
      case measure => simp [intOf]; omega
    · have hkk : k = opt.length + 1 := by omega
      subst hkk
      go_wp2_with fail
      go_ret
      exact ⟨rfl, HB.out, HV.out⟩

/-- headerRows, through ZZheaderRows -/
theorem zzhrows_any (a1 a2 : Option Addr) (c1 c2 : Nat) (hdr opt : List ByteArray) (w : World) (l1 : hdr.length ≤ 1048576) (l2 : opt.length ≤ 1048576)
    (h1 : Strs w w.heap.size (.slice a1 hdr.length c1) hdr) (h2 : Strs w w.heap.size (.slice a2 opt.length c2) opt) :
    Calls Try.prog 10 #[.slice a1 hdr.length c1, .slice a2 opt.length c2] w fun e w' => e = .returned (.slice (some ⟨w.heap.size, 0, none⟩) (opt.length + 1) (opt.length + 1)) ∧ Below w.heap.size w w' ∧
      ∃ V, HRows w' w.heap.size V hdr opt (opt.length + 1) := by
  go_enter Try.func10, Try.ntmps10
  go_wp2_with fail
  refine (hrows_slice a1 a2 c1 c2 hdr opt w l1 l2 h1 h2).mono ?_
  rintro e w' ⟨rfl, hb, hV⟩
  go_wp2_with fail
  go_ret
  exact ⟨rfl, hb, hV⟩
end Go.Proofs.Qxb6602459a
