/-
  The plain mathematics of seat b6602454a: no Go in sight. Byte strings as lists of bytes.
-/
namespace Go.Proofs.Qxb6602454a.Plain

/-- what 'walkBefore' computes -/
def wb : List UInt8 → List UInt8 → Bool
  | [], [] => false
  | [], _ :: _ => true
  | _ :: _, [] => false
  | x :: xs, y :: ys => if x = y then wb xs ys else if x = 47 ∨ y = 47 then decide (x = 47) else decide (x < y)

/-- the rank of a byte: the slash comes first -/
def rk (x : UInt8) : Nat := if x = 47 then 0 else x.toNat + 1

theorem rk_inj {x y : UInt8} (h : rk x = rk y) : x = y := by
  unfold rk at h
  split at h <;> split at h
  · simp_all
  · omega
  · omega
  · exact UInt8.toNat_inj.mp (by omega)

theorem wb_cons (x y : UInt8) (xs ys : List UInt8) :
    wb (x :: xs) (y :: ys) = if x = y then wb xs ys else decide (rk x < rk y) := by
  rw [wb]
  by_cases h : x = y
  · simp [h]
  · rw [if_neg h, if_neg h]
    unfold rk
    by_cases hx : x = 47
    · subst hx
      have : ¬ y = 47 := fun e => h e.symm
      simp [this]
    · by_cases hy : y = 47
      · subst hy; simp [hx]
      · simp [hx, hy, UInt8.lt_iff_toNat_lt]

theorem wb_irrefl (a : List UInt8) : wb a a = false := by
  induction a with
  | nil => rfl
  | cons x xs ih => rw [wb_cons, if_pos rfl, ih]

theorem wb_asymm (a b : List UInt8) (h : wb a b = true) : wb b a = false := by
  induction a generalizing b with
  | nil => cases b with
    | nil => rfl
    | cons y ys => rfl
  | cons x xs ih => cases b with
    | nil => cases h
    | cons y ys =>
      rw [wb_cons] at h ⊢
      by_cases e : x = y
      · subst e; rw [if_pos rfl] at h ⊢; exact ih _ h
      · rw [if_neg e] at h; rw [if_neg (fun e' => e e'.symm)]
        simp only [decide_eq_true_eq] at h
        simp only [decide_eq_false_iff_not]; omega

theorem wb_total (a b : List UInt8) (h : wb a b = false) (h' : wb b a = false) : a = b := by
  induction a generalizing b with
  | nil => cases b with
    | nil => rfl
    | cons y ys => cases h
  | cons x xs ih => cases b with
    | nil => cases h'
    | cons y ys =>
      rw [wb_cons] at h h'
      by_cases e : x = y
      · subst e; rw [if_pos rfl] at h h'; rw [ih _ h h']
      · rw [if_neg e] at h; rw [if_neg (fun e' => e e'.symm)] at h'
        simp only [decide_eq_false_iff_not] at h h'
        exact absurd (rk_inj (by omega)) e

theorem wb_trans (a b c : List UInt8) (h : wb a b = true) (h' : wb b c = true) : wb a c = true := by
  induction a generalizing b c with
  | nil => cases b with
    | nil => cases h
    | cons y ys => cases c with
      | nil => cases h'
      | cons z zs => rfl
  | cons x xs ih => cases b with
    | nil => cases h
    | cons y ys => cases c with
      | nil => cases h'
      | cons z zs =>
        rw [wb_cons] at h h' ⊢
        by_cases e : x = y
        · subst e; rw [if_pos rfl] at h
          by_cases e2 : x = z
          · subst e2; rw [if_pos rfl] at h' ⊢; exact ih _ _ h h'
          · rw [if_neg e2] at h' ⊢; exact h'
        · rw [if_neg e] at h
          by_cases e2 : y = z
          · subst e2; rw [if_neg e]; exact h
          · rw [if_neg e2] at h'
            simp only [decide_eq_true_eq] at h h'
            have : x ≠ z := by intro e3; subst e3; omega
            rw [if_neg this]; simp only [decide_eq_true_eq]; omega

/-- the subtree of a lies together: c is neither a nor below a/ -/
theorem wb_sub (a x c : List UInt8) (hne : c ≠ a) (hu : ∀ t, c ≠ a ++ 47 :: t) :
    wb (a ++ 47 :: x) c = wb a c ∧ wb c (a ++ 47 :: x) = wb c a := by
  induction a generalizing c with
  | nil =>
    cases c with
    | nil => exact absurd rfl hne
    | cons z zs =>
      have hz : z ≠ 47 := by intro e; subst e; exact hu zs rfl
      have hz' : (47 : UInt8) ≠ z := fun e => hz e.symm
      constructor
      · show wb (47 :: x) (z :: zs) = wb [] (z :: zs)
        rw [wb_cons, if_neg hz', wb]
        simp [rk, hz]
      · show wb (z :: zs) (47 :: x) = wb (z :: zs) []
        rw [wb_cons, if_neg hz, wb]
        simp [rk]
  | cons y ys ih =>
    cases c with
    | nil => exact ⟨rfl, rfl⟩
    | cons z zs =>
      show wb (y :: (ys ++ 47 :: x)) (z :: zs) = wb (y :: ys) (z :: zs) ∧ wb (z :: zs) (y :: (ys ++ 47 :: x)) = wb (z :: zs) (y :: ys)
      rw [wb_cons, wb_cons, wb_cons, wb_cons]
      by_cases e : y = z
      · subst e
        simp only [if_true]
        exact ih zs (fun e => hne (by rw [e])) (fun t e => hu t (by rw [e]; rfl))
      · simp only [if_neg e, if_neg (fun e' => e e'.symm : ¬ z = y), and_self]

/-! ### the component order -/

/-- the first component's length -/
def clen : List UInt8 → Nat
  | [] => 0
  | x :: xs => if x = 47 then 0 else clen xs + 1

theorem clen_le (l : List UInt8) : clen l ≤ l.length := by
  induction l with
  | nil => exact Nat.le_refl _
  | cons x xs ih => rw [clen]; split <;> simp <;> omega

/-- b1CompareRange as a function of two lists: -1, 0, 1 -/
def cmp : List UInt8 → List UInt8 → Int
  | [], [] => 0
  | [], _ :: _ => -1
  | _ :: _, [] => 1
  | x :: xs, y :: ys => if x = y then cmp xs ys else if x < y then -1 else 1

/-- b1ComponentBefore, with fuel -/
def cb : Nat → List UInt8 → List UInt8 → Bool
  | 0, _, _ => false
  | f + 1, a, b =>
    let ea := clen a
    let eb := clen b
    let c := cmp (a.take ea) (b.take eb)
    if c ≠ 0 then decide (c < 0)
    else if ea < a.length ∧ eb < b.length then cb f (a.drop (ea + 1)) (b.drop (eb + 1))
    else decide (¬ ea < a.length) && decide (eb < b.length)

theorem cb_step (f : Nat) (a b : List UInt8) : cb (f + 1) a b =
    (if cmp (a.take (clen a)) (b.take (clen b)) ≠ 0 then decide (cmp (a.take (clen a)) (b.take (clen b)) < 0)
     else if clen a < a.length ∧ clen b < b.length then cb f (a.drop (clen a + 1)) (b.drop (clen b + 1))
     else decide (¬ clen a < a.length) && decide (clen b < b.length)) := rfl

theorem clen_slash (xs : List UInt8) : clen (47 :: xs) = 0 := by simp [clen]
theorem clen_cons {x : UInt8} (h : x ≠ 47) (xs : List UInt8) : clen (x :: xs) = clen xs + 1 := by simp [clen, h]

/-- The component order is wb, whatever the fuel, so long as it exceeds the length. -/
theorem cb_eq (f : Nat) (a b : List UInt8) (h : a.length < f) : cb f a b = wb a b := by
  induction f generalizing a b with
  | zero => omega
  | succ f ihf =>
    -- within one round: induction on a
    have key : ∀ (a b : List UInt8), a.length < f + 1 → cb (f + 1) a b = wb a b := by
      intro a
      induction a with
      | nil =>
        intro b _
        cases b with
        | nil => rfl
        | cons y ys =>
          rw [cb_step]
          by_cases hy : y = 47
          · subst hy; simp [clen, cmp, wb]
          · simp [clen, hy, cmp, wb]
      | cons x xs ih =>
        intro b hl
        cases b with
        | nil =>
          rw [cb_step]
          by_cases hx : x = 47
          · subst hx; simp [clen, cmp, wb]
          · simp [clen, hx, cmp, wb]
        | cons y ys =>
          by_cases hx : x = 47
          · subst hx
            by_cases hy : y = 47
            · subst hy
              rw [cb_step, clen_slash, clen_slash]
              simp only [List.take_zero, cmp, List.length_cons, List.drop_succ_cons, List.drop_zero, ne_eq, not_true, if_false, Nat.zero_lt_succ, and_self, if_true]
              rw [ihf _ _ (by simp at hl; omega)]
              simp [wb]
            · rw [cb_step, clen_slash, clen_cons hy]
              have : ¬ (47 : UInt8) = y := fun e => hy e.symm
              simp [cmp, wb, this]
          · by_cases hy : y = 47
            · subst hy
              rw [cb_step, clen_slash, clen_cons hx]
              simp [cmp, wb, hx]
            · by_cases e : x = y
              · subst e
                have := ih ys (by simp at hl; omega)
                rw [cb_step] at this ⊢
                rw [clen_cons hx, clen_cons hx]
                simp only [List.take_succ_cons, cmp, if_true, List.length_cons, Nat.add_lt_add_iff_right, List.drop_succ_cons, wb]
                exact this
              · rw [cb_step, clen_cons hx, clen_cons hy]
                simp only [List.take_succ_cons, cmp, if_neg e, wb]
                by_cases hlt : x < y
                · simp [hlt, hx, hy]
                · simp [hlt, hx, hy]
    exact key a b h

theorem wb_step (a b : List UInt8) : wb a b =
    (if cmp (a.take (clen a)) (b.take (clen b)) ≠ 0 then decide (cmp (a.take (clen a)) (b.take (clen b)) < 0)
     else if clen a < a.length ∧ clen b < b.length then wb (a.drop (clen a + 1)) (b.drop (clen b + 1))
     else decide (¬ clen a < a.length) && decide (clen b < b.length)) := by
  rw [← cb_eq (a.length + 1 + 1) a b (by omega), cb_step]
  rw [cb_eq (a.length + 1) (a.drop (clen a + 1)) _ (by rw [List.length_drop]; omega)]

theorem cmp_range (a b : List UInt8) : -1 ≤ cmp a b ∧ cmp a b ≤ 1 := by
  induction a generalizing b with
  | nil => cases b <;> simp [cmp]
  | cons x xs ih => cases b with
    | nil => simp [cmp]
    | cons y ys =>
      rw [cmp]
      split
      · exact ih ys
      · split <;> simp

end Go.Proofs.Qxb6602454a.Plain
