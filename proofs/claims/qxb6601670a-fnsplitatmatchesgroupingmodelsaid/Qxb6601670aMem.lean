import Derived.Test.Qxb6601670aRows
import Derived.WalkKit
import Derived.WalkSpells
import Derived.WalkLawsBesides
import Derived.Deep.OwnRows
import Derived.Deep.QuietTactic
import Derived.BigQuiet
namespace Go.Proofs.Qxb6601670a
open Go.RowKit
set_option linter.unusedVariables false

theorem Try.info9 : (Try.prog.info? 9).map (fun i => (i.zero, i.size, i.bytes)) = some (some (.string ByteArray.empty), 1, 16) := by kernel_rfl
theorem Try.info30 : (Try.prog.info? 30).map (fun i => (i.zero, i.size, i.bytes)) = some (some (.slice none 0 0), 1, 24) := by kernel_rfl
theorem Try.info32 : (Try.prog.info? 32).map (fun i => (i.zero, i.size, i.bytes)) = some (some (.slice none 0 0), 1, 24) := by kernel_rfl
theorem Try.info28 : (Try.prog.info? 28).map (fun i => (i.zero, i.size, i.bytes)) = some (some (.slice none 0 0), 1, 24) := by kernel_rfl

theorem ret_bool {a b : Bool} (h : a = b) : Ending.returned (.bool a) = .returned (.bool b) := by rw [h]

theorem ret_int {k : IntKind} {a b : Int} (h : a = b) : Ending.returned (.int k a) = .returned (.int k b) := by rw [h]

/-- v is a slice whose elements are the strings ss; its cells lie in blocks below B. -/
def Strs (w : World) (B : Nat) (v : Value) (ss : List ByteArray) : Prop :=
  ∃ a c, v = .slice a ss.length c ∧ (ss.length ≤ c ∧ c ≤ 9223372036854775807) ∧ (a = none → c = 0) ∧
    (ss ≠ [] → ∃ b o, a = some ⟨b, o, none⟩ ∧ b < B ∧ ∀ i s, ss[i]? = some s → w.cell? ⟨b, o + i, none⟩ = some (.string s))

theorem Strs.nil (w : World) (B : Nat) : Strs w B (.slice none 0 0) [] := ⟨none, 0, rfl, ⟨Nat.le_refl _, by omega⟩, fun _ => rfl, fun h => absurd rfl h⟩

theorem Strs.later {w w' : World} {B : Nat} {v : Value} {ss : List ByteArray} (h : Strs w B v ss) (hb : Below B w w') : Strs w' B v ss := by
  obtain ⟨a, c, hv, hc, hn, hr⟩ := h
  refine ⟨a, c, hv, hc, hn, fun hne => ?_⟩
  obtain ⟨b, o, ha, hB, hcell⟩ := hr hne
  exact ⟨b, o, ha, hB, fun i s hi => by rw [hb.cell hB]; exact hcell i s hi⟩

theorem Strs.mono {w : World} {B B' : Nat} {v : Value} {ss : List ByteArray} (h : Strs w B v ss) (hB : B ≤ B') : Strs w B' v ss := by
  obtain ⟨a, c, hv, hc, hn, hr⟩ := h
  refine ⟨a, c, hv, hc, hn, fun hne => ?_⟩
  obtain ⟨b, o, ha, hb, hcell⟩ := hr hne
  exact ⟨b, o, ha, by omega, hcell⟩

/-- a made row of strings, filled up to k -/
def fill (ss : List ByteArray) (k : Nat) (j : Nat) : Value := .string (if j < k then ss.getD j ByteArray.empty else ByteArray.empty)

theorem fill_step (ss : List ByteArray) (k : Nat) (h : k < ss.length) (j : Nat) : (if j = k then .string ss[k] else fill ss k j) = fill ss (k + 1) j := by
  unfold fill
  by_cases e : j = k
  · subst e; simp [List.getD, h]
  · rw [if_neg e]
    congr 1
    by_cases l : j < k
    · rw [if_pos l, if_pos (by omega)]
    · rw [if_neg l, if_neg (by omega)]

theorem Strs.of_row {w : World} {g n : Nat} {ss : List ByteArray} (hm : ss.length ≤ 9223372036854775807) (hl : ss.length = n) (h : w.rowIs g 9 n (fill ss n)) : Strs w (g + 1) (.slice (some ⟨g, 0, none⟩) n n) ss := by
  subst hl
  refine ⟨some ⟨g, 0, none⟩, ss.length, rfl, ⟨Nat.le_refl _, hm⟩, (fun h => by cases h), fun _ => ⟨g, 0, rfl, Nat.lt_succ_self _, fun i s hi => ?_⟩⟩
  have hlt := (List.getElem?_eq_some_iff.1 hi).1
  rw [Nat.zero_add, h.cell hlt]
  have he : ss.getD i ByteArray.empty = s := by rw [List.getD, hi]; rfl
  rw [fill, if_pos hlt, he]

theorem owns_keep {w w' : World} {base : Nat} {e : TypeId} {size : Nat} {v : Value} {n : Nat} {xs : List Value} (h : w.ownsRow base e size v n xs)
    (hk : ∀ q, v.ownBlock = some q → w'.heap[q]? = w.heap[q]?) : w'.ownsRow base e size v n xs := by
  obtain ⟨h1, h2⟩ := h
  refine ⟨h1, ?_⟩
  rcases h2 with h2 | ⟨g, cap, cur, hv, hb, hg, r⟩
  · exact Or.inl h2
  · subst hv
    exact Or.inr ⟨g, cap, cur, rfl, hb, by rw [hk g rfl]; exact hg, r⟩

theorem owns_slice {w : World} {base : Nat} {e : TypeId} {size : Nat} {v : Value} {n : Nat} {xs : List Value} (h : w.ownsRow base e size v n xs) : ∃ a c, v = .slice a n c := by
  rcases h.2 with ⟨rfl, rfl⟩ | ⟨g, cap, cur, hv, _⟩
  · exact ⟨_, _, rfl⟩
  · exact ⟨_, _, hv⟩

theorem owns_base {w : World} {base base' : Nat} {e : TypeId} {size : Nat} {v : Value} {n : Nat} {xs : List Value} (h : w.ownsRow base e size v n xs) (hb : base' ≤ base) : w.ownsRow base' e size v n xs := by
  obtain ⟨h1, h2⟩ := h
  refine ⟨h1, ?_⟩
  rcases h2 with h2 | ⟨g, cap, cur, hv, hb', r⟩
  · exact Or.inl h2
  · exact Or.inr ⟨g, cap, cur, hv, by omega, r⟩

theorem Strs.shape {w : World} {B : Nat} {v : Value} {ss : List ByteArray} (h : Strs w B v ss) : ∃ a c, v = .slice a ss.length c := by
  obtain ⟨a, c, hv, _⟩ := h
  exact ⟨a, c, hv⟩

theorem Strs.cap {w : World} {B : Nat} {a : Option Addr} {n c : Nat} {ss : List ByteArray} (h : Strs w B (.slice a n c) ss) : n ≤ c ∧ c ≤ 9223372036854775807 := by
  obtain ⟨a', c', hv, hc, hn, hr⟩ := h
  simp only [Value.slice.injEq] at hv
  obtain ⟨rfl, rfl, rfl⟩ := hv
  exact hc

/-- element i of a slice of strings, its cell -/
theorem Strs.at {w : World} {B : Nat} {a : Option Addr} {n c : Nat} {ss : List ByteArray} (h : Strs w B (.slice a n c) ss) (i : Nat) (hi : i < n) :
    ∃ b o, a = some ⟨b, o, none⟩ ∧ b < B ∧ ∀ j s, ss[j]? = some s → w.cell? ⟨b, o + j, none⟩ = some (.string s) := by
  obtain ⟨a', c', hv, hc, hn, hr⟩ := h
  simp only [Value.slice.injEq] at hv
  obtain ⟨rfl, rfl, rfl⟩ := hv
  exact hr (by intro e; subst e; simp at hi)

/-- what a size guard answers: a bool; where it is true, N is small -/
def Guard (N : Nat) (w : World) (e : Ending) (w' : World) : Prop := ∃ r : Bool, e = .returned (.bool r) ∧ w' = w ∧ (r = true → N ≤ 1048576)

theorem Guard.no {N : Nat} {w : World} : Guard N w (.returned (.bool false)) w := ⟨false, rfl, rfl, fun h => by cases h⟩

theorem Guard.yes {N : Nat} {w : World} (h : N ≤ 1048576) : Guard N w (.returned (.bool true)) w := ⟨true, rfl, rfl, fun _ => h⟩

/-- the sum of the lengths -/
def lens (ss : List ByteArray) : Nat := (ss.map ByteArray.size).sum

theorem lens_take (ss : List ByteArray) (k : Nat) (h : k < ss.length) : lens (ss.take (k + 1)) = lens (ss.take k) + ss[k].size := by
  unfold lens
  rw [List.take_succ_eq_append_getElem h, List.map_append, List.sum_append]
  simp

/-- v is a slice whose elements are slices of strings, the rows rs; all cells lie in blocks below B. -/
def RowsV (w : World) (B : Nat) (v : Value) (rs : List (List ByteArray)) : Prop :=
  ∃ a c, v = .slice a rs.length c ∧ (rs.length ≤ c ∧ c ≤ 9223372036854775807) ∧ (a = none → c = 0) ∧
    (rs ≠ [] → ∃ b o, a = some ⟨b, o, none⟩ ∧ b < B ∧ ∀ i r, rs[i]? = some r → ∃ av cv, w.cell? ⟨b, o + i, none⟩ = some (.slice av r.length cv) ∧ Strs w B (.slice av r.length cv) r)

theorem RowsV.nil (w : World) (B : Nat) : RowsV w B (.slice none 0 0) [] := ⟨none, 0, rfl, ⟨Nat.le_refl _, by omega⟩, fun _ => rfl, fun h => absurd rfl h⟩

theorem RowsV.later {w w' : World} {B : Nat} {v : Value} {rs : List (List ByteArray)} (h : RowsV w B v rs) (hb : Below B w w') : RowsV w' B v rs := by
  obtain ⟨a, c, hv, hc, hn, hr⟩ := h
  refine ⟨a, c, hv, hc, hn, fun hne => ?_⟩
  obtain ⟨b, o, ha, hB, hcell⟩ := hr hne
  refine ⟨b, o, ha, hB, fun i r hi => ?_⟩
  obtain ⟨av, cv, h1, h2⟩ := hcell i r hi
  exact ⟨av, cv, by rw [hb.cell hB]; exact h1, h2.later hb⟩

theorem RowsV.mono {w : World} {B B' : Nat} {v : Value} {rs : List (List ByteArray)} (h : RowsV w B v rs) (hB : B ≤ B') : RowsV w B' v rs := by
  obtain ⟨a, c, hv, hc, hn, hr⟩ := h
  refine ⟨a, c, hv, hc, hn, fun hne => ?_⟩
  obtain ⟨b, o, ha, hb, hcell⟩ := hr hne
  refine ⟨b, o, ha, by omega, fun i r hi => ?_⟩
  obtain ⟨av, cv, h1, h2⟩ := hcell i r hi
  exact ⟨av, cv, h1, h2.mono hB⟩

theorem RowsV.shape {w : World} {B : Nat} {v : Value} {rs : List (List ByteArray)} (h : RowsV w B v rs) : ∃ a c, v = .slice a rs.length c := by
  obtain ⟨a, c, hv, _⟩ := h
  exact ⟨a, c, hv⟩

theorem RowsV.cap {w : World} {B : Nat} {a : Option Addr} {n c : Nat} {rs : List (List ByteArray)} (h : RowsV w B (.slice a n c) rs) : n ≤ c ∧ c ≤ 9223372036854775807 := by
  obtain ⟨a', c', hv, hc, hn, hr⟩ := h
  simp only [Value.slice.injEq] at hv
  obtain ⟨rfl, rfl, rfl⟩ := hv
  exact hc

theorem RowsV.at {w : World} {B : Nat} {a : Option Addr} {n c : Nat} {rs : List (List ByteArray)} (h : RowsV w B (.slice a n c) rs) (i : Nat) (hi : i < n) :
    ∃ b o, a = some ⟨b, o, none⟩ ∧ b < B ∧ ∀ i r, rs[i]? = some r → ∃ av cv, w.cell? ⟨b, o + i, none⟩ = some (.slice av r.length cv) ∧ Strs w B (.slice av r.length cv) r := by
  obtain ⟨a', c', hv, hc, hn, hr⟩ := h
  simp only [Value.slice.injEq] at hv
  obtain ⟨rfl, rfl, rfl⟩ := hv
  exact hr (by intro e; subst e; simp at hi)

/-- a store outside its block turns no slice of strings -/
theorem Strs.setOther {w : World} {B : Nat} {v : Value} {ss : List ByteArray} (h : Strs w B v ss) {p : Addr} (hp : v.ownBlock ≠ some p.block) (u : Value) : Strs (w.setCell p u) B v ss := by
  obtain ⟨a, c, rfl, hc, hn, hr⟩ := h
  refine ⟨a, c, rfl, hc, hn, fun hne => ?_⟩
  obtain ⟨b, o, rfl, hB, hcell⟩ := hr hne
  refine ⟨b, o, rfl, hB, fun i s hi => ?_⟩
  rw [World.cell?_of_block (w := w) (Below.heap_setCell _ _ _ _ (show b ≠ p.block from fun e => hp (by rw [← e]; rfl)))]
  exact hcell i s hi

/-- what the guards count of rows -/
def totR (rs : List (List ByteArray)) : Nat := (rs.map fun r => r.length + lens r).sum

theorem totR_take (rs : List (List ByteArray)) (k : Nat) (h : k < rs.length) : totR (rs.take (k + 1)) = totR (rs.take k) + (rs[k].length + lens rs[k]) := by
  unfold totR
  rw [List.take_succ_eq_append_getElem h, List.map_append, List.sum_append]
  simp

/-- each row and each string fits -/
def Fits (rs : List (List ByteArray)) : Prop := ∀ r ∈ rs, r.length ≤ maxLen ∧ ∀ s ∈ r, s.size ≤ maxLen

theorem totR_cons (r : List ByteArray) (rs : List (List ByteArray)) : totR (r :: rs) = r.length + lens r + totR rs := by simp [totR]

theorem totR_mem {rs : List (List ByteArray)} {r : List ByteArray} (h : r ∈ rs) : r.length + lens r ≤ totR rs := by
  induction rs with
  | nil => cases h
  | cons x xs ih =>
    rw [totR_cons]
    rcases List.mem_cons.1 h with rfl | h
    · omega
    · have := ih h; omega

end Go.Proofs.Qxb6601670a
