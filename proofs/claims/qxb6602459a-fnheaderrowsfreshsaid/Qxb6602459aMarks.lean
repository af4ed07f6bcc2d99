import Derived.Test.Qxb6602459aHrows
import Derived.Test.Qxb6602459aItoa
namespace Go.Proofs.Qxb6602459a
open Go.RowKit
set_option linter.unusedVariables false

/-- The outer row at block g holds V; each V j owns its row of h + j strings; rows below k bear their marks wholly, row k its first i cells. -/
structure Marks (w : World) (g : Nat) (V : Nat → Value) (h m k i : Nat) : Prop where
  row : w.rowIs g 22 (m + 1) V
  own : ∀ j, j < m + 1 → ∃ xs, w.ownsRow (g + 1) 9 1 (V j) (h + j) xs ∧ (j < k → ∀ t, t < h + j → xs[t]? = some (.string (mark j))) ∧ (j = k → ∀ t, t < i → t < h + j → xs[t]? = some (.string (mark j)))

theorem Marks.start {w : World} {g : Nat} {V : Nat → Value} {hdr opt : List ByteArray} (h : HRows w g V hdr opt (opt.length + 1)) : Marks w g V hdr.length opt.length 0 0 :=
  ⟨h.row.congr fun j hj => by simp [hj], fun j hj => ⟨_, h.own j hj, fun h => by omega, fun _ t ht => by omega⟩⟩

theorem Marks.below {w w' : World} {g : Nat} {V : Nat → Value} {h m k i : Nat} (hM : Marks w g V h m k i) (hb : Below w.heap.size w w') : Marks w' g V h m k i := by
  refine ⟨hM.row.of_block (hb.block g hM.row.lt), fun j hj => ?_⟩
  obtain ⟨xs, ho, h1, h2⟩ := hM.own j hj
  exact ⟨xs, owns_keep ho fun q hq => hb.block q (ho.lt q hq).2, h1, h2⟩

theorem Marks.next {w : World} {g : Nat} {V : Nat → Value} {h m k : Nat} (hM : Marks w g V h m k (h + k)) : Marks w g V h m (k + 1) 0 := by
  refine ⟨hM.row, fun j hj => ?_⟩
  obtain ⟨xs, ho, h1, h2⟩ := hM.own j hj
  refine ⟨xs, ho, fun hjk t ht => ?_, fun _ t ht => by omega⟩
  by_cases e : j = k
  · exact h2 e t (by omega) ht
  · exact h1 (by omega) t ht

/-- the shape of row k: an owned block, where it has a cell -/
theorem Marks.at {w : World} {g : Nat} {V : Nat → Value} {h m k i : Nat} (hM : Marks w g V h m k i) {j : Nat} (hj : j < m + 1) : ∃ av cv, V j = .slice av (h + j) cv ∧ (0 < h + j → ∃ q, av = some ⟨q, 0, none⟩ ∧ g + 1 ≤ q) := by
  obtain ⟨xs, ho, _⟩ := hM.own j hj
  rcases ho.2 with ⟨hv, h0⟩ | ⟨q, cap, cur, hv, hb, _⟩
  · exact ⟨none, 0, by rw [hv, h0], fun hp => by omega⟩
  · exact ⟨_, _, hv, fun _ => ⟨q, rfl, hb⟩⟩

theorem Marks.cell {w : World} {g : Nat} {V : Nat → Value} {h m k i : Nat} (hM : Marks w g V h m k i) {j q cv : Nat} (hj : j < m + 1) (hv : V j = .slice (some ⟨q, 0, none⟩) (h + j) cv) {t : Nat} (ht : t < h + j) :
    (∃ u, w.cell? ⟨q, t, none⟩ = some u) ∧ w.frozen? ⟨q, t, none⟩ = false ∧ (j < k → w.cell? ⟨q, t, none⟩ = some (.string (mark j))) := by
  obtain ⟨xs, ho, h1, _⟩ := hM.own j hj
  rw [hv] at ho
  have hl : xs.length = h + j := by have := ho.1; omega
  have hc := ho.cellAt t (by omega)
  refine ⟨⟨xs[t], by rw [hc]; exact List.getElem?_eq_getElem (by omega)⟩, ho.frozenAt t, fun hjk => by rw [hc]; exact h1 hjk t ht⟩

theorem Marks.store {w : World} {g : Nat} {V : Nat → Value} {h m k i : Nat} (hM : Marks w g V h m k i) (hk : k < m + 1) {q cv : Nat} (hv : V k = .slice (some ⟨q, 0, none⟩) (h + k) cv) (hi : i < h + k)
    (hap : ∀ i j, i < j → j < m + 1 → ∀ q, (V i).ownBlock = some q → (V j).ownBlock ≠ some q) :
    Marks (w.setCell ⟨q, i, none⟩ (.string (mark k))) g V h m k (i + 1) := by
  have hq : g + 1 ≤ q := by
    obtain ⟨xs, ho, _⟩ := hM.own k hk
    exact (ho.lt q (by rw [hv]; rfl)).1
  refine ⟨hM.row.setOther (show g ≠ q by omega) _, fun j hj => ?_⟩
  obtain ⟨xs, ho, h1, h2⟩ := hM.own j hj
  by_cases e : j = k
  · subst e
    rw [hv] at ho
    have hl : xs.length = h + j := by have := ho.1; omega
    refine ⟨xs.set i (.string (mark j)), by rw [hv]; exact (ho.stored i _).1, fun hjj => by omega, fun _ t ht ht' => ?_⟩
    rw [List.getElem?_set]
    by_cases e2 : i = t
    · subst e2; simp [hl, hi]
    · rw [if_neg e2]; exact h2 rfl t (by omega) ht'
  · refine ⟨xs, owns_keep ho fun q' hq' => Below.heap_setCell _ _ _ _ ?_, h1, fun h => absurd h e⟩
    show q' ≠ q
    intro hqq
    subst hqq
    rcases Nat.lt_or_gt_of_ne e with hlt | hgt
    · exact hap j k hlt hk q' hq' (by rw [hv]; rfl)
    · exact hap k j hgt hj q' (by rw [hv]; rfl) hq'
end Go.Proofs.Qxb6602459a
