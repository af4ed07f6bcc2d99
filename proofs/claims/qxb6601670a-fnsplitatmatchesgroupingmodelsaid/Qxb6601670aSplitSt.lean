import Derived.Test.Qxb6601670aPlain
import Derived.Test.Qxb6601670aMap
namespace Go.Proofs.Qxb6601670a
open Go.RowKit Plain
set_option linter.unusedVariables false

theorem owns_grown {w w' : World} {base : Nat} {e : TypeId} {size : Nat} {v : Value} {n : Nat} {xs : List Value} {row : Option Nat} (h : w.ownsRow base e size v n xs) (hg : w.grownBy w' row)
    (hne : ∀ q, v.ownBlock = some q → row ≠ some q) : w'.ownsRow base e size v n xs :=
  owns_keep h fun q hq => hg.block q (h.lt q hq).2 (fun e => hne q hq e.symm)

theorem RMap.of_block {w w' : World} {b n : Nat} {M : ByteArray → Option Value} (h : RMap w b n M) (e : w'.heap[b]? = w.heap[b]?) : RMap w' b n M := by
  obtain ⟨D, ⟨es, clock, hb, r⟩, h2⟩ := h
  exact ⟨D, ⟨es, clock, by rw [e]; exact hb, r⟩, h2⟩

/-- splitAt, k members read: the map, the order of its keys, the groups: all in blocks of the call's own, no two in one block -/
structure St (w : World) (B : Nat) (X : Nat → Value) (key : Nat → Option ByteArray) (k : Nat) (vo : Value) (V : ByteArray → Value) : Prop where
  map : RMap w B k (entry (Plain.ord key k) V)
  order : w.ownsRow (B + 1) 9 1 vo (Plain.ord key k).length ((Plain.ord key k).map Value.string)
  group : ∀ e, e ∈ Plain.ord key k → w.ownsRow (B + 1) 32 1 (V e) (Plain.grp key e k).length ((Plain.grp key e k).map X)
  ap1 : ∀ e, e ∈ Plain.ord key k → ∀ q, (V e).ownBlock = some q → vo.ownBlock ≠ some q
  ap2 : ∀ e e', e ∈ Plain.ord key k → e' ∈ Plain.ord key k → e ≠ e' → ∀ q, (V e).ownBlock = some q → (V e').ownBlock ≠ some q

theorem St.skip {w : World} {B : Nat} {X : Nat → Value} {key : Nat → Option ByteArray} {k : Nat} {vo : Value} {V : ByteArray → Value} (h : St w B X key k vo V) (hk : key k = none) : St w B X key (k + 1) vo V := by
  have e1 := ord_none (key := key) hk
  have e2 : ∀ e, grp key e (k + 1) = grp key e k := fun e => grp_miss (by rw [hk]; simp)
  refine ⟨?_, ?_, ?_, ?_, ?_⟩
  · rw [e1]; exact h.map.mono (Nat.le_succ _)
  · rw [e1]; exact h.order
  · rw [e1]; intro e he; rw [e2]; exact h.group e he
  · rw [e1]; exact h.ap1
  · rw [e1]; exact h.ap2

/-- a key that is there already: its group grows by the member k -/
theorem St.old {w w1 w2 w3 : World} {B : Nat} {X : Nat → Value} {key : Nat → Option ByteArray} {k : Nat} {vo v' : Value} {V : ByteArray → Value} {e : ByteArray} (h : St w B X key k vo V) (hk : key k = some e) (he : e ∈ Plain.ord key k)
    (h1 : w.grownBy w1 none) (h2 : w1.grownBy w2 (V e).ownBlock) (ho : w2.ownsRow (B + 1) 32 1 v' ((Plain.grp key e k).length + 1) ((Plain.grp key e k).map X ++ [X k]))
    (hl : v'.ownBlock = (V e).ownBlock ∨ v'.ownBlock = some w1.heap.size)
    (h3 : RMap w3 B (k + 1) (fun t => if t = e then some v' else entry (Plain.ord key k) V t)) (h4 : w2.grownBy w3 (some B)) :
    St w3 B X key (k + 1) vo (fun t => if t = e then v' else V t) := by
  have e1 := ord_old (key := key) hk he
  have hz1 := h1.size
  have loc : ∀ q, v'.ownBlock = some q → (V e).ownBlock = some q ∨ w.heap.size ≤ q := by
    intro q hq
    rcases hl with hl | hl
    · left; rw [← hl]; exact hq
    · right; rw [hl] at hq; cases hq; exact hz1
  have keep : ∀ {t : TypeId} {v : Value} {n : Nat} {xs : List Value}, w.ownsRow (B + 1) t 1 v n xs → (∀ q, v.ownBlock = some q → (V e).ownBlock ≠ some q) → w3.ownsRow (B + 1) t 1 v n xs := by
    intro t v n xs hv hne
    refine owns_grown (owns_grown (owns_grown hv h1 (fun q hq => by simp)) h2 hne) h4 (fun q hq hB => ?_)
    have := (hv.lt q hq).1
    cases hB
    omega
  refine ⟨?_, ?_, ?_, ?_, ?_⟩
  · rw [e1]
    refine h3.congr fun t => ?_
    by_cases ht : t = e
    · subst ht; rw [if_pos rfl, entry_in he, if_pos rfl]
    · rw [if_neg ht]
      by_cases hm : t ∈ Plain.ord key k
      · rw [entry_in hm, entry_in hm, if_neg ht]
      · rw [entry_out hm, entry_out hm]
  · rw [e1]
    exact keep h.order fun q hq hq' => h.ap1 e he q hq' hq
  · rw [e1]
    intro t ht
    by_cases hte : t = e
    · subst hte
      simp only [if_true]
      rw [grp_hit hk, List.length_append, List.map_append]
      refine owns_grown ho h4 (fun q hq hB => ?_)
      have := (ho.lt q hq).1
      cases hB
      omega
    · simp only [if_neg hte]
      rw [grp_miss (by rw [hk]; simp; exact fun e' => hte e'.symm)]
      exact keep (h.group t ht) fun q hq => h.ap2 t e ht he hte q hq
  · rw [e1]
    intro t ht q hq
    by_cases hte : t = e
    · subst hte
      simp only [if_true] at hq
      rcases loc q hq with hq | hq
      · exact h.ap1 t ht q hq
      · intro hv
        have := (h.order.lt q hv).2
        omega
    · simp only [if_neg hte] at hq
      exact h.ap1 t ht q hq
  · rw [e1]
    intro t t' ht ht' hne q hq hq'
    by_cases hte : t = e
    · subst hte
      simp only [if_true] at hq
      have hte' : t' ≠ t := fun e' => hne e'.symm
      simp only [if_neg hte'] at hq'
      rcases loc q hq with hq | hq
      · exact h.ap2 t t' ht ht' hne q hq hq'
      · have := ((h.group t' ht').lt q hq').2
        omega
    · simp only [if_neg hte] at hq
      by_cases hte' : t' = e
      · subst hte'
        simp only [if_true] at hq'
        rcases loc q hq' with hq' | hq'
        · exact h.ap2 t t' ht ht' hne q hq hq'
        · have := ((h.group t ht).lt q hq).2
          omega
      · simp only [if_neg hte'] at hq'
        exact h.ap2 t t' ht ht' hne q hq hq'

/-- a new key: it joins the order; its group is the member k alone -/
theorem St.new {w w1 w2 w3 w4 w5 : World} {B : Nat} {X : Nat → Value} {key : Nat → Option ByteArray} {k : Nat} {vo vo' v' : Value} {V : ByteArray → Value} {e : ByteArray} (h : St w B X key k vo V) (hk : key k = some e) (he : e ∉ Plain.ord key k)
    (h1 : w.grownBy w1 none) (h2 : w1.grownBy w2 vo.ownBlock) (hov : w2.ownsRow (B + 1) 9 1 vo' ((Plain.ord key k).length + 1) ((Plain.ord key k).map Value.string ++ [.string e]))
    (hl : vo'.ownBlock = vo.ownBlock ∨ vo'.ownBlock = some w1.heap.size)
    (h3 : w2.grownBy w3 none) (h4 : w3.grownBy w4 none) (ho : w4.ownsRow (B + 1) 32 1 v' 1 [X k]) (hl2 : v'.ownBlock = none ∨ v'.ownBlock = some w3.heap.size)
    (h5 : RMap w5 B (k + 1) (fun t => if t = e then some v' else entry (Plain.ord key k) V t)) (h6 : w4.grownBy w5 (some B)) :
    St w5 B X key (k + 1) vo' (fun t => if t = e then v' else V t) := by
  have e1 := ord_new (key := key) hk he
  have hz1 := h1.size
  have hz2 := h2.size
  have hz3 := h3.size
  have loc : ∀ q, vo'.ownBlock = some q → vo.ownBlock = some q ∨ w.heap.size ≤ q := by
    intro q hq
    rcases hl with hl | hl
    · left; rw [← hl]; exact hq
    · right; rw [hl] at hq; cases hq; exact hz1
  have loc2 : ∀ q, v'.ownBlock = some q → w2.heap.size ≤ q := by
    intro q hq
    rcases hl2 with hl2 | hl2
    · rw [hl2] at hq; cases hq
    · rw [hl2] at hq; cases hq; exact hz3
  have last : ∀ {t : TypeId} {v : Value} {n : Nat} {xs : List Value}, w4.ownsRow (B + 1) t 1 v n xs → w5.ownsRow (B + 1) t 1 v n xs := by
    intro t v n xs hv
    refine owns_grown hv h6 (fun q hq hB => ?_)
    have := (hv.lt q hq).1
    cases hB
    omega
  have keep : ∀ {t : TypeId} {v : Value} {n : Nat} {xs : List Value}, w.ownsRow (B + 1) t 1 v n xs → (∀ q, v.ownBlock = some q → vo.ownBlock ≠ some q) → w5.ownsRow (B + 1) t 1 v n xs := by
    intro t v n xs hv hne
    exact last (owns_grown (owns_grown (owns_grown (owns_grown hv h1 (fun q hq => by simp)) h2 hne) h3 (fun q hq => by simp)) h4 (fun q hq => by simp))
  have mem : ∀ t, t ∈ Plain.ord key k ++ [e] → t ≠ e → t ∈ Plain.ord key k := by
    intro t ht hne
    rcases List.mem_append.1 ht with ht | ht
    · exact ht
    · simp at ht; exact absurd ht hne
  refine ⟨?_, ?_, ?_, ?_, ?_⟩
  · rw [e1]
    refine h5.congr fun t => ?_
    by_cases ht : t = e
    · subst ht; rw [if_pos rfl, entry_in (by simp), if_pos rfl]
    · rw [if_neg ht]
      by_cases hm : t ∈ Plain.ord key k
      · rw [entry_in hm, entry_in (List.mem_append_left _ hm), if_neg ht]
      · rw [entry_out hm, entry_out (fun h => hm (mem t h ht))]
  · rw [e1, List.length_append, List.map_append]
    exact last (owns_grown (owns_grown hov h3 (fun q hq => by simp)) h4 (fun q hq => by simp))
  · rw [e1]
    intro t ht
    by_cases hte : t = e
    · subst hte
      simp only [if_true]
      rw [grp_hit hk, grp_not_mem he]
      exact last ho
    · simp only [if_neg hte]
      rw [grp_miss (by rw [hk]; simp; exact fun e' => hte e'.symm)]
      exact keep (h.group t (mem t ht hte)) fun q hq => h.ap1 t (mem t ht hte) q hq
  · rw [e1]
    intro t ht q hq hv
    by_cases hte : t = e
    · subst hte
      simp only [if_true] at hq
      have := loc2 q hq
      have := (hov.lt q hv).2
      omega
    · simp only [if_neg hte] at hq
      rcases loc q hv with hv | hv
      · exact h.ap1 t (mem t ht hte) q hq hv
      · have := ((h.group t (mem t ht hte)).lt q hq).2
        omega
  · rw [e1]
    intro t t' ht ht' hne q hq hq'
    by_cases hte : t = e
    · subst hte
      simp only [if_true] at hq
      have hte' : t' ≠ t := fun e' => hne e'.symm
      simp only [if_neg hte'] at hq'
      have := loc2 q hq
      have := ((h.group t' (mem t' ht' hte')).lt q hq').2
      omega
    · simp only [if_neg hte] at hq
      by_cases hte' : t' = e
      · subst hte'
        simp only [if_true] at hq'
        have := loc2 q hq'
        have := ((h.group t (mem t ht hte)).lt q hq).2
        omega
      · simp only [if_neg hte'] at hq'
        exact h.ap2 t t' (mem t ht hte) (mem t' ht' hte') hne q hq hq'
end Go.Proofs.Qxb6601670a
