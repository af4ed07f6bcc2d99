import Derived.Lib.Join
namespace Go.Proofs.Qxb6602459a
open Go

/-- cutting a byte string at every byte c -/
def splitL (c : UInt8) : List UInt8 → List (List UInt8)
  | [] => [[]]
  | x :: xs => if x = c then [] :: splitL c xs else match splitL c xs with
    | [] => [[x]]
    | y :: ys => (x :: y) :: ys

theorem splitL_ne (c : UInt8) (l : List UInt8) : splitL c l ≠ [] := by
  cases l with
  | nil => simp [splitL]
  | cons x xs =>
    rw [splitL]
    split
    · simp
    · split <;> simp

theorem splitL_none (c : UInt8) (l : List UInt8) (h : c ∉ l) : splitL c l = [l] := by
  induction l with
  | nil => rfl
  | cons x xs ih =>
    have hx : ¬ x = c := fun e => h (by rw [e]; exact List.mem_cons_self)
    rw [splitL, if_neg hx, ih (fun hm => h (List.mem_cons_of_mem _ hm))]

theorem splitL_cut (c : UInt8) (l r : List UInt8) (h : c ∉ l) : splitL c (l ++ c :: r) = l :: splitL c r := by
  induction l with
  | nil => rw [List.nil_append, splitL, if_pos rfl]
  | cons x xs ih =>
    have hx : ¬ x = c := fun e => h (by rw [e]; exact List.mem_cons_self)
    rw [List.cons_append, splitL, if_neg hx, ih (fun hm => h (List.mem_cons_of_mem _ hm))]

theorem splitL_length (c : UInt8) (l : List UInt8) : (splitL c l).length ≤ l.length + 1 := by
  induction l with
  | nil => simp [splitL]
  | cons x xs ih =>
    rw [splitL]
    split
    · simp; omega
    · split
      · simp
      · rename_i y ys he
        rw [he] at ih
        simp at ih ⊢
        omega

/-- fields joined by a comma, cut again -/
theorem split_join (c : UInt8) (row : List (List UInt8)) (hne : row ≠ []) (h : ∀ f ∈ row, c ∉ f) : splitL c (Lib.join row [c]) = row := by
  induction row with
  | nil => exact absurd rfl hne
  | cons x r ih =>
    cases r with
    | nil => rw [Lib.join_one]; exact splitL_none c x (h x (by simp))
    | cons y r =>
      have e : Lib.join (x :: y :: r) [c] = x ++ c :: Lib.join (y :: r) [c] := by
        rw [Lib.join_cons, Lib.join_cons]
        simp [Lib.joinTail]
      rw [e, splitL_cut c x _ (h x (by simp)), ih (by simp) (fun f hf => h f (List.mem_cons_of_mem _ hf))]

/-- rows with an 'or' between any two -/
def interl : List (List UInt8) → List (List UInt8)
  | [] => []
  | [x] => [x]
  | x :: y :: r => x :: [111, 114] :: interl (y :: r)

theorem split_or (rows : List (List UInt8)) (hne : rows ≠ []) (h : ∀ f ∈ rows, (32 : UInt8) ∉ f) : splitL 32 (Lib.join rows [32, 111, 114, 32]) = interl rows := by
  induction rows with
  | nil => exact absurd rfl hne
  | cons x r ih =>
    cases r with
    | nil => rw [Lib.join_one, interl]; exact splitL_none 32 x (h x (by simp))
    | cons y r =>
      have e : Lib.join (x :: y :: r) [32, 111, 114, 32] = x ++ 32 :: ([111, 114] ++ 32 :: Lib.join (y :: r) [32, 111, 114, 32]) := by
        rw [Lib.join_cons, Lib.join_cons]
        simp [Lib.joinTail]
      rw [e, splitL_cut 32 x _ (h x (by simp)), splitL_cut 32 [111, 114] _ (by decide), ih (by simp) (fun f hf => h f (List.mem_cons_of_mem _ hf)), interl]

theorem interl_length (rows : List (List UInt8)) (hne : rows ≠ []) : (interl rows).length = 2 * rows.length - 1 := by
  induction rows with
  | nil => exact absurd rfl hne
  | cons x r ih =>
    cases r with
    | nil => rfl
    | cons y r =>
      have := ih (by simp)
      rw [interl]
      simp only [List.length_cons] at this ⊢
      omega

theorem interl_even (rows : List (List UInt8)) (i : Nat) (h : i < rows.length) : (interl rows)[2 * i]? = some rows[i] := by
  induction rows generalizing i with
  | nil => simp at h
  | cons x r ih =>
    cases r with
    | nil =>
      have : i = 0 := by simp at h; omega
      subst this
      rfl
    | cons y r =>
      cases i with
      | zero => rfl
      | succ i =>
        rw [interl, show 2 * (i + 1) = 2 * i + 1 + 1 by omega, List.getElem?_cons_succ, List.getElem?_cons_succ, ih i (by simp at h ⊢; omega)]
        rfl

theorem interl_odd (rows : List (List UInt8)) (i : Nat) (h : 2 * i + 1 < (interl rows).length) : (interl rows)[2 * i + 1]? = some [111, 114] := by
  induction rows generalizing i with
  | nil => simp [interl] at h
  | cons x r ih =>
    cases r with
    | nil => simp [interl] at h
    | cons y r =>
      cases i with
      | zero => rfl
      | succ i =>
        rw [interl] at h ⊢
        rw [show 2 * (i + 1) + 1 = (2 * i + 1) + 1 + 1 by omega, List.getElem?_cons_succ, List.getElem?_cons_succ]
        exact ih i (by simp at h; omega)

theorem join_mem (rows : List (List UInt8)) (sep : List UInt8) (b : UInt8) (h : b ∈ Lib.join rows sep) : b ∈ sep ∨ ∃ r ∈ rows, b ∈ r := by
  cases rows with
  | nil => simp [Lib.join_nil] at h
  | cons x r =>
    rw [Lib.join_cons] at h
    rcases List.mem_append.1 h with h | h
    · exact Or.inr ⟨x, by simp, h⟩
    · unfold Lib.joinTail at h
      rw [List.mem_flatten] at h
      obtain ⟨l, hl, hb⟩ := h
      rw [List.mem_map] at hl
      obtain ⟨y, hy, rfl⟩ := hl
      rcases List.mem_append.1 hb with h | h
      · exact Or.inl h
      · exact Or.inr ⟨y, List.mem_cons_of_mem _ hy, h⟩
end Go.Proofs.Qxb6602459a
