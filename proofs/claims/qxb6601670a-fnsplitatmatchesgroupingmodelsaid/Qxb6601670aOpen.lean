import Derived.Test.Qxb6601670aMem
import Derived.ProofKit
import Derived.OpenShut
import Derived.ShutString
import Derived.ChangeOld
import Derived.Below
import Derived.Deep.Strs
namespace Go.Proofs.Qxb6601670a
open Go.ChangeShapes Go.WideShapes Go.ChangeAt Go.RowKit Go.Deep

theorem Try.own : ownKnob Try.prog.godebug = none := by kernel_rfl
theorem Try.laidOut : laidOutB Try.prog = true := by kernel_rfl
theorem Try.cells9 : Try.prog.cellsOf 9 = 1 := by kernel_rfl
theorem Try.cells30 : Try.prog.cellsOf 30 = 1 := by kernel_rfl

theorem cell_lt {w : World} {a : Addr} {v : Value} (h : w.cell? a = some v) : a.block < w.heap.size := by
  apply Classical.byContradiction
  intro hn
  have : w.heap[a.block]? = none := Array.getElem?_eq_none (by omega)
  simp [World.cell?, this] at h

/-- from the cells of an address that may bear a spot to a plain row -/
theorem plain_row {w : World} {x : Addr} {ss : List ByteArray} (hne : ss ≠ []) (h : ∀ i s, ss[i]? = some s → w.cell? (x.add i) = some (.string s)) :
    ∃ b o, some x = some ⟨b, o, none⟩ ∧ b < w.heap.size ∧ ∀ i s, ss[i]? = some s → w.cell? ⟨b, o + i, none⟩ = some (.string s) := by
  obtain ⟨b, o, spot⟩ := x
  have h0 : 0 < ss.length := List.length_pos_iff.2 hne
  have hc := h 0 ss[0] (List.getElem?_eq_getElem h0)
  have hspot : spot = none := by simpa [Addr.add] using World.cell?_spot hc
  subst hspot
  refine ⟨b, o, rfl, ?_, fun i s hi => ?_⟩
  · have := cell_lt hc
    simpa [Addr.add] using this
  · rw [← Addr.add_lit]; exact h i s hi

theorem strs_of_trod {H : Type} {enc : TypeId × Value → H} {W : World} {spare : Nat → Bool} {held : Bool} {fuel : Nat} {a : Option Addr} {len cap : Nat} {x : DataW H × List MemPlace}
    (hf : DataW.trod enc Try.prog W 0 spare held fuel 30 [.slice a len cap] = some x) :
    ∃ ss : List ByteArray, Strs W W.heap.size (.slice a len cap) ss ∧ (∀ s ∈ ss, s.size ≤ maxLen) ∧ ss.length ≤ maxLen := by
  rcases open_strs Try.underlying30 Try.underlying9 Try.cells9 hf with ⟨hcs, _⟩ | ⟨y, l, c, m, Sx, hcs, _, hl, hm, hmm, _, hcell⟩
  · simp at hcs
    obtain ⟨rfl, rfl, rfl⟩ := hcs
    exact ⟨[], Strs.nil _ _, by simp, by simp⟩
  · simp at hcs
    obtain ⟨rfl, rfl, rfl⟩ := hcs
    have hlm : len ≤ m := by rw [hmm]; split <;> omega
    refine ⟨(List.range len).map Sx, ?_, ?_, ?_⟩
    · refine ⟨some y, cap, by simp, ⟨by simpa using hl, by unfold maxLen at hm; omega⟩, (fun h => by cases h), fun hne => plain_row hne fun i s hi => ?_⟩
      rw [List.getElem?_map] at hi
      have hil : i < len := by
        apply Classical.byContradiction
        intro hn
        rw [List.getElem?_eq_none (by simp; omega)] at hi
        cases hi
      rw [List.getElem?_range hil] at hi
      simp only [Option.map_some, Option.some.injEq] at hi
      subst hi
      exact (hcell i (by omega)).1
    · intro s hs
      simp only [List.mem_map, List.mem_range] at hs
      obtain ⟨i, hi, rfl⟩ := hs
      exact (hcell i (by omega)).2
    · simp only [List.length_map, List.length_range]; omega

set_option linter.unusedVariables false
theorem strs_of_trod' {H : Type} {enc : TypeId × Value → H} {W : World} {spare : Nat → Bool} {held : Bool} {fuel : Nat} {v : Value} {x : DataW H × List MemPlace}
    (hf : DataW.trod enc Try.prog W 0 spare held fuel 30 [v] = some x) :
    ∃ (ss : List ByteArray) (a : Option Addr) (c : Nat), v = .slice a ss.length c ∧ Strs W W.heap.size v ss ∧ (∀ s ∈ ss, s.size ≤ maxLen) ∧ ss.length ≤ maxLen := by
  have hv : ∃ a len cap, v = .slice a len cap := by
    rcases open_strs Try.underlying30 Try.underlying9 Try.cells9 hf with ⟨hcs, _⟩ | ⟨y, l, c, m, Sx, hcs, _⟩
    · simp at hcs; exact ⟨_, _, _, hcs⟩
    · simp at hcs; exact ⟨_, _, _, hcs⟩
  obtain ⟨a, len, cap, rfl⟩ := hv
  obtain ⟨ss, h1, h2, h3⟩ := strs_of_trod hf
  obtain ⟨a', c', hv, _⟩ := id h1
  exact ⟨ss, a', c', hv, h1, h2, h3⟩

theorem rows_of_trod {H : Type} {enc : TypeId × Value → H} {W : World} {spare : Nat → Bool} {held : Bool} {fuel : Nat} {a : Option Addr} {len cap : Nat} {x : DataW H × List MemPlace}
    (hf : DataW.trod enc Try.prog W 0 spare held fuel 22 [.slice a len cap] = some x) :
    ∃ rs : List (List ByteArray), RowsV W W.heap.size (.slice a len cap) rs ∧ Fits rs ∧ rs.length ≤ maxLen := by
  rcases open_slice1 Try.underlying22 Try.cells30 hf with ⟨hcs, _⟩ | ⟨y, l, c, m, n, V, D, Pl, hcs, _, hl, hm, hmm, _, hx⟩
  · simp at hcs
    obtain ⟨rfl, rfl, rfl⟩ := hcs
    exact ⟨[], RowsV.nil _ _, (fun r hr => by cases hr), by simp⟩
  · simp at hcs
    obtain ⟨rfl, rfl, rfl⟩ := hcs
    have hlm : len ≤ m := by rw [hmm]; split <;> omega
    have each : ∀ i, i < len → ∃ ss : List ByteArray, ∃ (a : Option Addr) (c : Nat), V i = .slice a ss.length c ∧ Strs W W.heap.size (V i) ss ∧ (∀ s ∈ ss, s.size ≤ maxLen) ∧ ss.length ≤ maxLen := fun i hi =>
      strs_of_trod' (hx i (by omega)).2
    obtain ⟨R, hR⟩ := choose_lt each
    have hget : ∀ (i : Nat) r, ((List.range len).map R)[i]? = some r → i < len ∧ r = R i := by
      intro i r hi
      rw [List.getElem?_map] at hi
      have hil : i < len := by
        apply Classical.byContradiction
        intro hn
        rw [List.getElem?_eq_none (by simp; omega)] at hi
        cases hi
      rw [List.getElem?_range hil] at hi
      simp only [Option.map_some, Option.some.injEq] at hi
      exact ⟨hil, hi.symm⟩
    refine ⟨(List.range len).map R, ?_, ?_, ?_⟩
    · refine ⟨some y, cap, by simp, ⟨by simpa using hl, by unfold maxLen at hm; omega⟩, (fun h => by cases h), fun hne => ?_⟩
      have hlen : 0 < len := by
        apply Classical.byContradiction
        intro hn
        have : len = 0 := by omega
        subst this
        simp at hne
      obtain ⟨b, o, spot⟩ := y
      have hc := (hx 0 (by omega)).1
      have hspot : spot = none := by simpa [Addr.add] using World.cell?_spot hc
      subst hspot
      refine ⟨b, o, rfl, ?_, fun i r hi => ?_⟩
      · have := cell_lt hc
        simpa [Addr.add] using this
      · obtain ⟨hil, rfl⟩ := hget i r hi
        obtain ⟨a', c', hv, hS, _⟩ := hR i hil
        refine ⟨a', c', ?_, by rw [← hv]; exact hS⟩
        rw [← Addr.add_lit, ← hv]
        exact (hx i (by omega)).1
    · intro r hr
      simp only [List.mem_map, List.mem_range] at hr
      obtain ⟨i, hi, rfl⟩ := hr
      obtain ⟨a', c', _, _, h1, h2⟩ := hR i hi
      exact ⟨h2, h1⟩
    · simp only [List.length_map, List.length_range]; omega
end Go.Proofs.Qxb6601670a
