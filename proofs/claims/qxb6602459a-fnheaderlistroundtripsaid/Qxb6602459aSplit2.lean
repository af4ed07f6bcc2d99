import Derived.Test.Qxb6602459aSplit
namespace Go.Proofs.Qxb6602459a
open Go.RowKit
set_option linter.unusedVariables false

def splitB (c : UInt8) (s : ByteArray) : List ByteArray := (splitL c s.data.toList).map fun l => ⟨l.toArray⟩

theorem append_str {w : World} {ops : Array Oper} {rest : List Oper} {o : Oper} {a : Act} {Q : Exit → Act → World → Prop} (hgd : o.guard = none) (s x : Operand)
    (ho : o.op = .call { callee := .builtin .append, args := #[s, x], argTypes := #[22, 22] }) (base : Nat) (v : Value) (n : Nat) (xs : List Value) (hs : a.eval s = v) (hown : w.ownsRow base 9 1 v n xs)
    (ad : Addr) (u : ByteArray) (hx : a.eval x = .slice (some ad) 1 1) (hc : w.cell? ad = some (.string u)) (hn : n + 1 ≤ 16777216) (hbase : base ≤ w.heap.size)
    (h : ∀ v' w', w'.ownsRow base 9 1 v' (n + 1) (xs ++ [.string u]) → w.grownBy w' v.ownBlock → wpList Try.prog ops Q rest (a.put o.dst v') w') : wpList Try.prog ops Q (o :: rest) a w := by
  obtain ⟨i, hi, hz0, hz1, hz2⟩ := info_parts Try.info9
  refine wpList_append_own w hgd s x 22 ho base 9 i (.string ByteArray.empty) 1 16 Try.underlying22 hi hz0 hz1 hz2 rfl (by decide) v n xs hs hown ad 1 1 [.string u] hx rfl ?_ ?_ (by unfold maxLen; omega) (by omega) hbase
    (fun v' w' h1 h2 _ => h v' w' h1 h2)
  · intro j u' hj
    cases j with
    | zero => simp at hj; subst hj; simpa [Addr.add] using hc
    | succ j => simp at hj
  · intro u' hu
    simp at hu
    subst hu
    rfl

/-- the pieces so far -/
structure Pieces (s : ByteArray) (c : UInt8) (st k : Nat) (P : List ByteArray) : Prop where
  eq : P.map (·.data.toList) ++ splitL c (s.data.toList.drop st) = splitL c s.data.toList
  free : c ∉ (s.data.toList.drop st).take (k - st)
  count : P.length ≤ st

theorem Pieces.start (s : ByteArray) (c : UInt8) : Pieces s c 0 0 [] := ⟨rfl, by simp, Nat.le_refl _⟩

theorem take_snoc (s : ByteArray) (st k : Nat) (h1 : st ≤ k) (h2 : k < s.size) : (s.data.toList.drop st).take (k + 1 - st) = (s.data.toList.drop st).take (k - st) ++ [s[k]] := by
  have hl : k - st < (s.data.toList.drop st).length := by rw [List.length_drop, len_data]; omega
  rw [show k + 1 - st = (k - st) + 1 by omega, List.take_succ_eq_append_getElem hl]
  congr 2
  rw [List.getElem_drop]
  have e : st + (k - st) = k := by omega
  simp only [e]
  rfl

theorem Pieces.skip {s : ByteArray} {c : UInt8} {st k : Nat} {P : List ByteArray} (h : Pieces s c st k P) (h1 : st ≤ k) (h2 : k < s.size) (hne : ¬ s[k] = c) : Pieces s c st (k + 1) P := by
  refine ⟨h.eq, ?_, h.count⟩
  rw [take_snoc s st k h1 h2]
  intro hm
  rcases List.mem_append.1 hm with hm | hm
  · exact h.free hm
  · simp at hm; exact hne hm.symm

theorem Pieces.cut {s : ByteArray} {c : UInt8} {st k : Nat} {P : List ByteArray} (h : Pieces s c st k P) (h1 : st ≤ k) (h2 : k < s.size) (he : s[k] = c) : Pieces s c (k + 1) (k + 1) (P ++ [s.extract st k]) := by
  refine ⟨?_, by simp, by rw [List.length_append]; have := h.count; simp; omega⟩
  have hd : s.data.toList.drop st = (s.data.toList.drop st).take (k - st) ++ c :: s.data.toList.drop (k + 1) := by
    have e1 : (s.data.toList.drop st).drop (k - st) = s.data.toList.drop k := by rw [List.drop_drop, show st + (k - st) = k by omega]
    have e2 : s.data.toList.drop k = c :: s.data.toList.drop (k + 1) := by rw [drop_at s k h2, he]
    have := (List.take_append_drop (k - st) (s.data.toList.drop st)).symm
    rw [e1, e2] at this
    exact this
  have h3 := h.eq
  rw [hd, splitL_cut c _ _ h.free] at h3
  rw [List.map_append, List.map_cons, List.map_nil, Lib.extract_data, List.append_assoc]
  exact h3

theorem Pieces.done {s : ByteArray} {c : UInt8} {st : Nat} {P : List ByteArray} (h : Pieces s c st s.size P) (h1 : st ≤ s.size) : P ++ [s.extract st s.size] = splitB c s := by
  have hall : (s.data.toList.drop st).take (s.size - st) = s.data.toList.drop st := List.take_of_length_le (by rw [List.length_drop, len_data]; exact Nat.le_refl _)
  have hf := h.free
  rw [hall] at hf
  have h3 := h.eq
  rw [splitL_none c _ hf] at h3
  unfold splitB
  rw [← h3, List.map_append, List.map_map]
  have e1 : (P.map ((fun l => (⟨l.toArray⟩ : ByteArray)) ∘ fun x => x.data.toList)) = P := by
    have : ((fun l => (⟨l.toArray⟩ : ByteArray)) ∘ fun (x : ByteArray) => x.data.toList) = id := by funext x; rfl
    rw [this, List.map_id]
  rw [e1]
  congr 1
  have e2 : s.extract st s.size = ⟨((s.extract st s.size).data.toList).toArray⟩ := rfl
  rw [e2, Lib.extract_data, hall]
  rfl

set_option maxHeartbeats 800000 in
theorem split_any (s : ByteArray) (c : UInt8) (n : Int) (hn : (c.toNat : Int) = n) (w : World) (hs : s.size ≤ 8388608) :
    Calls Try.prog 18 #[.string s, .int .u8 n] w fun e w' => ∃ v, e = .returned v ∧ Below w.heap.size w w' ∧ Strs w' w'.heap.size v (splitB c s) := by
  have HN : Hid ((c.toNat : Int) = n) := hn
  clear hn
  go_enter Try.func18, Try.ntmps18
  go_wp2_with fail
  go_loopw [5, 6, 7] (fun v t i wr => ∃ (st k : Nat) (P : List ByteArray), st ≤ k ∧ k ≤ s.size ∧ t = .int .i64 st ∧ i = .int .i64 k ∧ Hid (Pieces s c st k P) ∧ Hid (wr.ownsRow w.heap.size 9 1 v P.length (strVals P)) ∧ Hid (Below w.heap.size w wr)) (fun _ _ i _ => s.size - (intOf i).toNat)
  case atStart => exact ⟨0, 0, [], Nat.le_refl _, Nat.zero_le _, rfl, rfl, Pieces.start s c, World.ownsRow_nil _ _ _ _, Below.refl _ _⟩
  case round =>
    obtain ⟨st, k, P, hst, hk, rfl, rfl, HP, HO, HB⟩ := hrel
    by_cases hlt : k < s.size
    · by_cases e : s[k] = c
      · have hq : ((s[k].toNat : Int) == n) = true := by rw [← HN.out, u8_eq]; simp [e]
        have HP2 : Hid (Pieces s c (k + 1) (k + 1) (P ++ [s.extract st k])) := HP.out.cut hst hlt e
        have HO2 : Hid ((wr.alloc (.cells #[.string (s.extract st k)] 9)).ownsRow w.heap.size 9 1 u5 P.length (strVals P)) := HO.out.alloc _
        have HLT : Hid (∀ q, u5.ownBlock = some q → w.heap.size ≤ q) := fun q hq => (HO.out.lt q hq).1
        have hcnt := HP.out.count
        have hsz := HB.out.size
        clear e HP HO
        go_wp2_with (at_builtin; refine append_str rfl _ _ rfl w.heap.size u5 P.length (strVals P) rfl HO2.out ⟨wr.heap.size, 0, none⟩ (s.extract st k) rfl (by simp) (by omega) (by simp; omega) ?_; intro v' w2 hown2 hg2)
        have HN2 : Hid (w2.ownsRow w.heap.size 9 1 v' (P ++ [s.extract st k]).length (strVals (P ++ [s.extract st k]))) := by
          rw [List.length_append, strVals, List.map_append]
          exact hown2
        have HB2 : Hid (Below w.heap.size w w2) := (HB.out.alloc hsz _).grown hg2 (by simp; omega) (fun q hq => HLT.out q hq)
        clear hown2 hg2 HO2 HLT HB
        go_roundw
        case rel => exact ⟨k + 1, k + 1, _, Nat.le_refl _, by omega, by go_num, by go_num, HP2.out, HN2.out, HB2.out⟩
        case measure => simp [intOf]; omega
      · have hq : ((s[k].toNat : Int) == n) = false := by rw [← HN.out, u8_eq]; simp [e]
        have HP2 : Hid (Pieces s c st (k + 1) P) := HP.out.skip hst hlt e
        clear e HP
        go_wp2_with fail
        go_roundw
        case rel => exact ⟨st, k + 1, P, by omega, by omega, rfl, by go_num, HP2.out, HO.out, HB.out⟩
        case measure => simp [intOf]; omega
    · have hkk : k = s.size := by omega
      subst hkk
      have HD : Hid (P ++ [s.extract st s.size] = splitB c s) := HP.out.done hst
      have HO2 : Hid ((wr.alloc (.cells #[.string (s.extract st s.size)] 9)).ownsRow w.heap.size 9 1 u5 P.length (strVals P)) := HO.out.alloc _
      have HLT : Hid (∀ q, u5.ownBlock = some q → w.heap.size ≤ q) := fun q hq => (HO.out.lt q hq).1
      have hcnt := HP.out.count
      have hsz := HB.out.size
      clear HP HO hlt hk
      go_wp2_with (at_builtin; refine append_str rfl _ _ rfl w.heap.size u5 P.length (strVals P) rfl HO2.out ⟨wr.heap.size, 0, none⟩ (s.extract st s.size) rfl (by simp) (by omega) (by simp; omega) ?_; intro v' w2 hown2 hg2)
      have HN2 : Hid (Strs w2 w2.heap.size v' (splitB c s)) := by
        rw [← HD.out]
        refine Strs.of_owns (n := P.length + 1) (by simp) ?_ (base := w.heap.size)
        rw [strVals, List.map_append]
        exact hown2
      have HB2 : Hid (Below w.heap.size w w2) := (HB.out.alloc hsz _).grown hg2 (by simp; omega) (fun q hq => HLT.out q hq)
      clear hown2 hg2 HO2 HLT HB
      go_ret
      exact ⟨v', rfl, HB2.out, HN2.out⟩
end Go.Proofs.Qxb6602459a
