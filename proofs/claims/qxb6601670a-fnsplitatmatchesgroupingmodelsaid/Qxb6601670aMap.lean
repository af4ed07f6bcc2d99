import Derived.Test.Qxb6601670aCopy
import Derived.Maps.OwnSet
import Derived.Maps.AppendAt
namespace Go.Proofs.Qxb6601670a
open Go.RowKit Go.Maps
set_option linter.unusedVariables false

theorem law9 : Keyed Try.prog 9 := string_keyed Try.underlying9
theorem zero28 (w : World) : (zeroValue 28).run Try.prog w = .ok (.slice none 0 0) w := by kernel_rfl

/-- an element of the map is held as the very value that it is -/
def rawElem (v : Value) : Option (DataW Value × List MemPlace) := some (.held v, [])

def kl (s : ByteArray) : Lit := .string s.data.toList
theorem kl_ne {s t : ByteArray} (h : s ≠ t) : kl s ≠ kl t := by
  intro e
  apply h
  unfold kl at e
  simp only [Lit.string.injEq] at e
  cases s with | mk s => cases t with | mk t => simp only at e; rw [Array.toList_inj.mp e]
theorem kl_key (s : ByteArray) : WideAt.IsKeyLit (kl s) := trivial

/-- block b of w is a map of at most n entries; it holds at s the value M s -/
def RMap (w : World) (b n : Nat) (M : ByteArray → Option Value) : Prop :=
  ∃ D : DataW Value, w.ownsMap Try.prog 9 rawElem b n D ∧ (∀ s, M s = none → Maps.has D (kl s) = false) ∧ ∀ s v, M s = some v → Maps.has D (kl s) = true ∧ ∀ z, D.atKey (kl s) z = .held v

theorem RMap.made (w : World) : RMap (w.alloc (.map #[] 0)) w.heap.size 0 (fun _ => none) :=
  ⟨.map [], World.ownsMap_made w Try.prog 9 rawElem, fun s _ => rfl, fun s v h => by cases h⟩

theorem RMap.kept {w w' : World} {b n : Nat} {M : ByteArray → Option Value} {row : Option Nat} (h : RMap w b n M) (hg : w.grownBy w' row) (hne : some b ≠ row) : RMap w' b n M := by
  obtain ⟨D, h1, h2⟩ := h
  exact ⟨D, h1.kept hg hne, h2⟩
theorem RMap.alloc {w : World} {b n : Nat} {M : ByteArray → Option Value} (h : RMap w b n M) (o : Obj) : RMap (w.alloc o) b n M := h.kept (World.grownBy_alloc w o none) (by simp)
theorem RMap.lt {w : World} {b n : Nat} {M : ByteArray → Option Value} (h : RMap w b n M) : b < w.heap.size := by
  obtain ⟨D, h1, _⟩ := h
  exact h1.lt
theorem RMap.congr {w : World} {b n : Nat} {M M' : ByteArray → Option Value} (h : RMap w b n M) (e : ∀ s, M s = M' s) : RMap w b n M' := by
  have : M = M' := funext e
  rw [← this]; exact h
theorem RMap.mono {w : World} {b n n' : Nat} {M : ByteArray → Option Value} (h : RMap w b n M) (hn : n ≤ n') : RMap w b n' M := by
  obtain ⟨D, h1, h2⟩ := h
  exact ⟨D, h1.mono hn, h2⟩

section
variable {w : World} {ops : Array Oper} {rest : List Oper} {o : Oper} {a : Act} {Q : Exit → Act → World → Prop}

theorem look_ok (hg : o.guard = none) (m x : Operand) (hop : o.op = Op.lookup 34 m x true) (b n : Nat) (M : ByteArray → Option Value) (hm : a.eval m = .map (some b)) (hR : RMap w b n M)
    (s : ByteArray) (hs : s.size ≤ maxLen) (hx : a.eval x = .string s) (v : Value) (ok : Bool) (hv : (M s).getD (.slice none 0 0) = v) (hok : (M s).isSome = ok)
    (hK : wpList Try.prog ops Q rest (a.put o.dst (.tuple #[v, .bool ok])) w) : wpList Try.prog ops Q (o :: rest) a w := by
  obtain ⟨D, hown, hno, hyes⟩ := hR
  refine wpList_lookup_own_ok w hg m x 34 hop 9 28 law9 Try.underlying34 rawElem (zero28 w) (.held (.slice none 0 0)) [] rfl b n D hm hown (.string s) (kl s) hx (Go.WideMaps.keyOf_string_mk Try.underlying9 hs) (fun v' ps hv' => ?_)
  cases hM : M s with
  | none =>
    have h1 := hno s hM
    rw [hM] at hv hok
    rw [atKey_of_not_has h1] at hv'
    simp only [rawElem, Option.some.injEq, Prod.mk.injEq, DataW.held.injEq] at hv'
    rw [h1, hv'.1]
    simp only [Option.getD_none, Option.isSome_none] at hv hok
    subst hv hok
    exact hK
  | some u =>
    have h1 := hyes s u hM
    rw [hM] at hv hok
    rw [h1.2] at hv'
    simp only [rawElem, Option.some.injEq, Prod.mk.injEq, DataW.held.injEq] at hv'
    rw [h1.1, hv'.1]
    simp only [Option.getD_some, Option.isSome_some] at hv hok
    subst hv hok
    exact hK

theorem look (hg : o.guard = none) (m x : Operand) (hop : o.op = Op.lookup 34 m x false) (b n : Nat) (M : ByteArray → Option Value) (hm : a.eval m = .map (some b)) (hR : RMap w b n M)
    (s : ByteArray) (hs : s.size ≤ maxLen) (hx : a.eval x = .string s) (v : Value) (hv : (M s).getD (.slice none 0 0) = v)
    (hK : wpList Try.prog ops Q rest (a.put o.dst v) w) : wpList Try.prog ops Q (o :: rest) a w := by
  obtain ⟨D, hown, hno, hyes⟩ := hR
  refine wpList_plain hg fun K' hK' => ?_
  obtain ⟨v', ps, hrun, hv'⟩ := hown.lookup law9 Try.underlying34 (zero28 w) (zd := .held (.slice none 0 0)) (zp := []) rfl (Go.WideMaps.keyOf_string_mk Try.underlying9 hs)
  have e : v' = v := by
    change rawElem v' = some (D.atKey (kl s) _, ps) at hv'
    cases hM : M s with
    | none =>
      rw [hM] at hv
      rw [atKey_of_not_has (hno s hM)] at hv'
      simp only [rawElem, Option.some.injEq, Prod.mk.injEq, DataW.held.injEq] at hv'
      rw [hv'.1]; simpa using hv
    | some u =>
      rw [hM] at hv
      rw [(hyes s u hM).2] at hv'
      simp only [rawElem, Option.some.injEq, Prod.mk.injEq, DataW.held.injEq] at hv'
      rw [hv'.1]; simpa using hv
  subst e
  unfold Oper.wp
  simp [execOp, hop, hm, hx, hrun, Result.andThen]
  exact hK' _ _ hK

theorem upd (hg : o.guard = none) (m x v : Operand) (hop : o.op = Op.mapUpdate 34 m x v) (b n : Nat) (M : ByteArray → Option Value) (hm : a.eval m = .map (some b)) (hR : RMap w b n M) (hn : n ≤ 8388608)
    (s : ByteArray) (hs : s.size ≤ maxLen) (hx : a.eval x = .string s) (u : Value) (hv : a.eval v = u)
    (hK : ∀ w', RMap w' b (n + 1) (fun t => if t = s then some u else M t) → w.grownBy w' (some b) → wpList Try.prog ops Q rest (a.put o.dst undef) w') : wpList Try.prog ops Q (o :: rest) a w := by
  obtain ⟨D, hown, hno, hyes⟩ := hR
  have hmap := hown.isMap
  refine wpList_mapUpdate_own w hg m x v 34 hop 9 28 law9 Try.underlying34 rawElem b n D hm hown (by unfold maxLen; omega) (.string s) u (kl s) hx hv (Go.WideMaps.keyOf_string_mk Try.underlying9 hs) (.held u) [] rfl (fun w' h1 h2 => hK w' ⟨_, h1, fun t ht => ?_, fun t z ht => ?_⟩ h2)
  · simp only at ht
    by_cases e : t = s
    · rw [if_pos e] at ht; cases ht
    · rw [if_neg e] at ht
      rw [has_put_other (kl_ne e)]
      exact hno t ht
  · simp only at ht
    by_cases e : t = s
    · subst e
      rw [if_pos rfl] at ht
      obtain rfl := Option.some.inj ht
      exact ⟨has_put_same hmap (kl_key t) _, fun z => atKey_put_same hmap (kl_key t) _ z⟩
    · rw [if_neg e] at ht
      rw [has_put_other (kl_ne e)]
      refine ⟨(hyes t z ht).1, fun z' => ?_⟩
      rw [atKey_put_other (kl_ne e)]
      exact (hyes t z ht).2 z'
end
end Go.Proofs.Qxb6601670a
