import Derived.Test.Qxb6602459aRows
import Derived.WalkKit
import Derived.WalkSpells
import Derived.WalkLawsBesides
import Derived.Deep.OwnRows
import Derived.Deep.QuietTactic
import Derived.BigQuiet
namespace Go.Proofs.Qxb6602459a
open Go.RowKit

theorem Try.info9 : (Try.prog.info? 9).map (fun i => (i.zero, i.size, i.bytes)) = some (some (.string ByteArray.empty), 1, 16) := by kernel_rfl
theorem Try.info22 : (Try.prog.info? 22).map (fun i => (i.zero, i.size, i.bytes)) = some (some (.slice none 0 0), 1, 24) := by kernel_rfl

theorem ret_bool {a b : Bool} (h : a = b) : Ending.returned (.bool a) = .returned (.bool b) := by rw [h]
theorem ret_int {k : IntKind} {a b : Int} (h : a = b) : Ending.returned (.int k a) = .returned (.int k b) := by rw [h]

/-- v is a slice whose elements are the strings ss; its cells lie in blocks below B. -/
def Strs (w : World) (B : Nat) (v : Value) (ss : List ByteArray) : Prop :=
  ∃ a c, v = .slice a ss.length c ∧ (ss.length ≤ c ∧ c ≤ 9223372036854775807) ∧ (a = none → c = 0) ∧
    (ss ≠ [] → ∃ b o, a = some ⟨b, o, none⟩ ∧ b < B ∧ ∀ i s, ss[i]? = some s → w.cell? ⟨b, o + i, none⟩ = some (.string s))

theorem Strs.nil (w : World) (B : Nat) : Strs w B (.slice none 0 0) [] := ⟨none, 0, rfl, ⟨Nat.le_refl _, by omega⟩, fun _ => rfl, fun h => absurd rfl h⟩

theorem Strs.later {w w' : World} {B : Nat} {v : Value} {ss : List ByteArray} (h : Strs w B v ss) (hb : Below B w w') : Strs w' B v ss := by
  obtain ⟨a, c, hv, hc, hn, hr⟩ := h
  refine ⟨a, c, hv, hc, hn, fun hne => ?_⟩
  obtain ⟨b, o, ha, hB, hcell⟩ := hr hne
  exact ⟨b, o, ha, hB, fun i s hi => by rw [hb.cell hB]; exact hcell i s hi⟩

theorem Strs.mono {w : World} {B B' : Nat} {v : Value} {ss : List ByteArray} (h : Strs w B v ss) (hB : B ≤ B') : Strs w B' v ss := by
  obtain ⟨a, c, hv, hc, hn, hr⟩ := h
  refine ⟨a, c, hv, hc, hn, fun hne => ?_⟩
  obtain ⟨b, o, ha, hb, hcell⟩ := hr hne
  exact ⟨b, o, ha, by omega, hcell⟩

/-- a made row of strings, filled up to k -/
def fill (ss : List ByteArray) (k : Nat) (j : Nat) : Value := .string (if j < k then ss.getD j ByteArray.empty else ByteArray.empty)

theorem fill_step (ss : List ByteArray) (k : Nat) (h : k < ss.length) (j : Nat) : (if j = k then .string ss[k] else fill ss k j) = fill ss (k + 1) j := by
  unfold fill
  by_cases e : j = k
  · subst e; simp [List.getD, h]
  · rw [if_neg e]
    congr 1
    by_cases l : j < k
    · rw [if_pos l, if_pos (by omega)]
    · rw [if_neg l, if_neg (by omega)]

theorem Strs.of_row {w : World} {g n : Nat} {ss : List ByteArray} (hm : ss.length ≤ 9223372036854775807) (hl : ss.length = n) (h : w.rowIs g 9 n (fill ss n)) : Strs w (g + 1) (.slice (some ⟨g, 0, none⟩) n n) ss := by
  subst hl
  refine ⟨some ⟨g, 0, none⟩, ss.length, rfl, ⟨Nat.le_refl _, hm⟩, (fun h => by cases h), fun _ => ⟨g, 0, rfl, Nat.lt_succ_self _, fun i s hi => ?_⟩⟩
  have hlt := (List.getElem?_eq_some_iff.1 hi).1
  rw [Nat.zero_add, h.cell hlt]
  have he : ss.getD i ByteArray.empty = s := by rw [List.getD, hi]; rfl
  rw [fill, if_pos hlt, he]

end Go.Proofs.Qxb6602459a
