import Derived.Test.Qxb6602459aMem
import Derived.ProofKit
import Derived.OpenShut
import Derived.ShutString
import Derived.ChangeOld
import Derived.Below
import Derived.Deep.Strs
namespace Go.Proofs.Qxb6602459a
open Go.ChangeShapes Go.WideShapes Go.ChangeAt Go.RowKit Go.Deep

theorem Try.own : ownKnob Try.prog.godebug = none := by kernel_rfl
theorem Try.laidOut : laidOutB Try.prog = true := by kernel_rfl
theorem Try.cells9 : Try.prog.cellsOf 9 = 1 := by kernel_rfl
theorem Try.cells22 : Try.prog.cellsOf 22 = 1 := by kernel_rfl

theorem cell_lt {w : World} {a : Addr} {v : Value} (h : w.cell? a = some v) : a.block < w.heap.size := by
  apply Classical.byContradiction
  intro hn
  have : w.heap[a.block]? = none := Array.getElem?_eq_none (by omega)
  simp [World.cell?, this] at h

/-- from the cells of an address that may bear a spot to a plain row -/
theorem plain_row {w : World} {x : Addr} {ss : List ByteArray} (hne : ss ≠ []) (h : ∀ i s, ss[i]? = some s → w.cell? (x.add i) = some (.string s)) :
    ∃ b o, some x = some ⟨b, o, none⟩ ∧ b < w.heap.size ∧ ∀ i s, ss[i]? = some s → w.cell? ⟨b, o + i, none⟩ = some (.string s) := by
  obtain ⟨b, o, spot⟩ := x
  have h0 : 0 < ss.length := List.length_pos_iff.2 hne
  have hc := h 0 ss[0] (List.getElem?_eq_getElem h0)
  have hspot : spot = none := by simpa [Addr.add] using World.cell?_spot hc
  subst hspot
  refine ⟨b, o, rfl, ?_, fun i s hi => ?_⟩
  · have := cell_lt hc
    simpa [Addr.add] using this
  · rw [← Addr.add_lit]; exact h i s hi

theorem strs_of_trod {H : Type} {enc : TypeId × Value → H} {W : World} {spare : Nat → Bool} {held : Bool} {fuel : Nat} {a : Option Addr} {len cap : Nat} {x : DataW H × List MemPlace}
    (hf : DataW.trod enc Try.prog W 0 spare held fuel 22 [.slice a len cap] = some x) :
    ∃ ss : List ByteArray, Strs W W.heap.size (.slice a len cap) ss ∧ (∀ s ∈ ss, s.size ≤ maxLen) ∧ ss.length ≤ maxLen := by
  rcases open_strs Try.underlying22 Try.underlying9 Try.cells9 hf with ⟨hcs, _⟩ | ⟨y, l, c, m, Sx, hcs, _, hl, hm, hmm, _, hcell⟩
  · simp at hcs
    obtain ⟨rfl, rfl, rfl⟩ := hcs
    exact ⟨[], Strs.nil _ _, by simp, by simp⟩
  · simp at hcs
    obtain ⟨rfl, rfl, rfl⟩ := hcs
    have hlm : len ≤ m := by rw [hmm]; split <;> omega
    refine ⟨(List.range len).map Sx, ?_, ?_, ?_⟩
    · refine ⟨some y, cap, by simp, ⟨by simpa using hl, by unfold maxLen at hm; omega⟩, (fun h => by cases h), fun hne => plain_row hne fun i s hi => ?_⟩
      rw [List.getElem?_map] at hi
      have hil : i < len := by
        apply Classical.byContradiction
        intro hn
        rw [List.getElem?_eq_none (by simp; omega)] at hi
        cases hi
      rw [List.getElem?_range hil] at hi
      simp only [Option.map_some, Option.some.injEq] at hi
      subst hi
      exact (hcell i (by omega)).1
    · intro s hs
      simp only [List.mem_map, List.mem_range] at hs
      obtain ⟨i, hi, rfl⟩ := hs
      exact (hcell i (by omega)).2
    · simp only [List.length_map, List.length_range]; omega
end Go.Proofs.Qxb6602459a
