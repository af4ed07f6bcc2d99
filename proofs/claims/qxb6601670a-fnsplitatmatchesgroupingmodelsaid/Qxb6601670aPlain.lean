/-
  The plain mathematics of seat b6601670a: grouping indices by a key. No Go in sight.
-/
namespace Go.Proofs.Qxb6601670a.Plain

section
variable {K : Type} [DecidableEq K] (key : Nat → Option K)

/-- what stands at e, if e is on the list -/
def entry {A : Type} (l : List K) (V : K → A) (e : K) : Option A := if e ∈ l then some (V e) else none
theorem entry_in {A : Type} {l : List K} {V : K → A} {e : K} (h : e ∈ l) : entry l V e = some (V e) := if_pos h
theorem entry_out {A : Type} {l : List K} {V : K → A} {e : K} (h : e ∉ l) : entry l V e = none := if_neg h

/-- the keys of the first k members, in the order of their first occurrence -/
def ord : Nat → List K
  | 0 => []
  | k + 1 => match key k with
    | none => ord k
    | some e => if e ∈ ord k then ord k else ord k ++ [e]

/-- the members among the first k that bear the key e -/
def grp (e : K) (k : Nat) : List Nat := (List.range k).filter fun i => decide (key i = some e)

variable {key}

theorem ord_none {k : Nat} (h : key k = none) : ord key (k + 1) = ord key k := by rw [ord, h]
theorem ord_old {k : Nat} {e : K} (h : key k = some e) (hm : e ∈ ord key k) : ord key (k + 1) = ord key k := by simp [ord, h, hm]
theorem ord_new {k : Nat} {e : K} (h : key k = some e) (hm : e ∉ ord key k) : ord key (k + 1) = ord key k ++ [e] := by simp [ord, h, hm]

theorem grp_hit {k : Nat} {e : K} (h : key k = some e) : grp key e (k + 1) = grp key e k ++ [k] := by
  unfold grp
  rw [List.range_succ, List.filter_append]
  simp [h]
theorem grp_miss {k : Nat} {e : K} (h : key k ≠ some e) : grp key e (k + 1) = grp key e k := by
  unfold grp
  rw [List.range_succ, List.filter_append]
  simp [h]

theorem mem_ord {k : Nat} {e : K} : e ∈ ord key k ↔ ∃ i, i < k ∧ key i = some e := by
  induction k with
  | zero => simp [ord]
  | succ k ih =>
    cases hk : key k with
    | none =>
      rw [ord_none hk, ih]
      constructor
      · rintro ⟨i, hi, he⟩; exact ⟨i, by omega, he⟩
      · rintro ⟨i, hi, he⟩
        refine ⟨i, ?_, he⟩
        have : i ≠ k := by intro e'; subst e'; rw [hk] at he; cases he
        omega
    | some f =>
      by_cases hm : f ∈ ord key k
      · rw [ord_old hk hm, ih]
        constructor
        · rintro ⟨i, hi, he⟩; exact ⟨i, by omega, he⟩
        · rintro ⟨i, hi, he⟩
          by_cases e' : i = k
          · subst e'
            rw [hk] at he
            obtain rfl := Option.some.inj he
            exact ih.1 hm
          · exact ⟨i, by omega, he⟩
      · rw [ord_new hk hm, List.mem_append, ih]
        constructor
        · rintro (⟨i, hi, he⟩ | h)
          · exact ⟨i, by omega, he⟩
          · simp at h; subst h; exact ⟨k, by omega, hk⟩
        · rintro ⟨i, hi, he⟩
          by_cases e' : i = k
          · subst e'
            rw [hk] at he
            obtain rfl := Option.some.inj he
            exact Or.inr (by simp)
          · exact Or.inl ⟨i, by omega, he⟩

theorem grp_nil {k : Nat} {e : K} (h : ∀ i, i < k → key i ≠ some e) : grp key e k = [] := by
  unfold grp
  rw [List.filter_eq_nil_iff]
  intro i hi
  simpa using h i (List.mem_range.1 hi)

theorem grp_not_mem {k : Nat} {e : K} (h : e ∉ ord key k) : grp key e k = [] :=
  grp_nil fun i hi he => h (mem_ord.2 ⟨i, hi, he⟩)

theorem grp_len_le (e : K) (k : Nat) : (grp key e k).length ≤ k := by
  unfold grp
  have := List.length_filter_le (fun i => decide (key i = some e)) (List.range k)
  simpa using this

theorem ord_len_le (k : Nat) : (ord key k).length ≤ k := by
  induction k with
  | zero => simp [ord]
  | succ k ih =>
    rw [ord]
    split
    · omega
    · split
      · omega
      · simp; omega

theorem ord_nodup (k : Nat) : (ord key k).Nodup := by
  induction k with
  | zero => simp [ord]
  | succ k ih =>
    rw [ord]
    split
    · exact ih
    · split
      · exact ih
      · rename_i hm
        rw [List.nodup_append]
        refine ⟨ih, by simp, ?_⟩
        intro a ha b hb
        simp at hb
        subst hb
        intro e
        subst e
        exact hm ha

theorem ord_prefix {i j : Nat} (h : i ≤ j) : ord key i <+: ord key j := by
  induction j with
  | zero => have : i = 0 := by omega
            subst this; exact List.prefix_refl _
  | succ j ih =>
    by_cases e : i = j + 1
    · subst e; exact List.prefix_refl _
    · refine (ih (by omega)).trans ?_
      rw [ord]
      split
      · exact List.prefix_refl _
      · split
        · exact List.prefix_refl _
        · exact List.prefix_append _ _

/-- in the whole group, member j stands behind those ahead of it -/
theorem grp_at {N j : Nat} {e : K} (hj : j < N) (h : key j = some e) : (grp key e N)[(grp key e j).length]? = some j := by
  induction N with
  | zero => omega
  | succ N ih =>
    by_cases e' : j = N
    · subst e'
      rw [grp_hit h, List.getElem?_append_right (Nat.le_refl _)]
      simp
    · have h1 := ih (by omega)
      have hl := (List.getElem?_eq_some_iff.1 h1).1
      by_cases hN : key N = some e
      · rw [grp_hit hN, List.getElem?_append_left hl]; exact h1
      · rw [grp_miss hN]; exact h1

/-- the kept keys of the first k members, by a test p -/
def kept (key : Nat → Option K) (p : K → Bool) (k : Nat) : List K := (ord key k).filter p

theorem kept_prefix {p : K → Bool} {i j : Nat} (h : i ≤ j) : kept key p i <+: kept key p j := List.IsPrefix.filter p (ord_prefix h)

/-- a kept key that is new at i stands, among all kept ones, behind those of the first i members -/
theorem kept_at {p : K → Bool} {N i : Nat} {e : K} (hi : i < N) (h : key i = some e) (hf : ∀ t, t < i → key t ≠ some e) (hp : p e = true) : (kept key p N)[(kept key p i).length]? = some e := by
  have hm : e ∉ ord key i := fun hm => by
    obtain ⟨t, ht, he⟩ := mem_ord.1 hm
    exact hf t ht he
  have h1 : kept key p (i + 1) = kept key p i ++ [e] := by
    unfold kept
    rw [ord_new h hm, List.filter_append]
    simp [hp]
  obtain ⟨t, ht⟩ := kept_prefix (key := key) (p := p) (show i + 1 ≤ N by omega)
  rw [← ht, h1, List.append_assoc, List.getElem?_append_right (Nat.le_refl _)]
  simp

theorem kept_step_yes {p : K → Bool} {i : Nat} {e : K} (h : key i = some e) (hf : ∀ t, t < i → key t ≠ some e) (hp : p e = true) : (kept key p (i + 1)).length = (kept key p i).length + 1 := by
  have hm : e ∉ ord key i := fun hm => by
    obtain ⟨t, ht, he⟩ := mem_ord.1 hm
    exact hf t ht he
  unfold kept
  rw [ord_new h hm, List.filter_append]
  simp [hp]
theorem kept_step_no {p : K → Bool} {i : Nat} {e : K} (h : key i = some e) (hf : ∀ t, t < i → key t ≠ some e) (hp : p e = false) : kept key p (i + 1) = kept key p i := by
  have hm : e ∉ ord key i := fun hm => by
    obtain ⟨t, ht, he⟩ := mem_ord.1 hm
    exact hf t ht he
  unfold kept
  rw [ord_new h hm, List.filter_append]
  simp [hp]
theorem kept_step_old {p : K → Bool} {i t : Nat} {e : K} (h : key i = some e) (ht : t < i) (he : key t = some e) : kept key p (i + 1) = kept key p i := by
  unfold kept
  rw [ord_old h (mem_ord.2 ⟨t, ht, he⟩)]
theorem kept_step_none {p : K → Bool} {i : Nat} (h : key i = none) : kept key p (i + 1) = kept key p i := by
  unfold kept
  rw [ord_none h]
end
end Go.Proofs.Qxb6601670a.Plain
