import Derived.Test.Qxb6602454aWb
namespace Go.Proofs.Qxb6602454a
open Go.RowKit Plain
set_option linter.unusedVariables false

theorem ret_int {k : IntKind} {a b : Int} (h : a = b) : Ending.returned (.int k a) = .returned (.int k b) := by rw [h]
theorem u8_ne (x : UInt8) : ((x.toNat : Int) != 47) = !decide (x = 47) := by rw [bne, u8_47]
theorem u8_neq (x y : UInt8) : ((x.toNat : Int) != (y.toNat : Int)) = !decide (x = y) := by rw [bne, u8_eq]

set_option maxHeartbeats 400000 in
theorem compEnd_any (s : ByteArray) (k0 : Nat) (w : World) (hs : s.size ≤ maxLen) (h0 : k0 ≤ s.size) :
    Calls Try.prog 19 #[.string s, .int .i64 k0] w fun e w' => e = .returned (.int .i64 ((k0 + clen (s.data.toList.drop k0) : Nat) : Int)) ∧ w' = w := by
  unfold maxLen at hs
  go_enter Try.func19, Try.ntmps19
  go_wp2
  go_loop [1] (fun i => ∃ k : Nat, k ≤ s.size ∧ i = .int .i64 k ∧ Hid (k + clen (s.data.toList.drop k) = k0 + clen (s.data.toList.drop k0))) (fun i => s.size - (intOf i).toNat)
  case atStart => exact ⟨k0, h0, rfl, rfl⟩
  case round =>
    obtain ⟨k, hk, rfl, HI⟩ := hrel
    by_cases h1 : k < s.size
    · have hd := drop_at s k h1
      by_cases e : s[k] = 47
      · have hq : ((s[k].toNat : Int) != 47) = false := by rw [u8_ne]; simp [e]
        have HE : Hid (k + 0 = k0 + clen (s.data.toList.drop k0)) := by have := HI.out; rw [hd, e, clen_slash] at this; exact this
        clear hd e
        go_wp2
        go_ret
        exact ⟨ret_int (by have := HE.out; omega), rfl⟩
      · have hq : ((s[k].toNat : Int) != 47) = true := by rw [u8_ne]; simp [e]
        have HE : Hid (k + 1 + clen (s.data.toList.drop (k + 1)) = k0 + clen (s.data.toList.drop k0)) := by have := HI.out; rw [hd, clen_cons e] at this; show k + 1 + clen (s.data.toList.drop (k + 1)) = k0 + clen (s.data.toList.drop k0); omega
        clear hd e
        go_wp2
        go_round
        case rel => exact ⟨k + 1, by omega, by go_num, HE.out⟩
        case measure => simp [intOf]; omega
    · have HE : Hid (k + 0 = k0 + clen (s.data.toList.drop k0)) := by have := HI.out; rw [List.drop_of_length_le (by rw [len_data]; omega), clen] at this; exact this
      go_wp2
      go_ret
      exact ⟨ret_int (by have := HE.out; omega), rfl⟩

/-- a[i:e] as a list -/
def seg (a : ByteArray) (i e : Nat) : List UInt8 := (a.data.toList.drop i).take (e - i)
theorem seg_cons (a : ByteArray) (i e : Nat) (h : i < e) (h2 : e ≤ a.size) : seg a i e = a[i] :: seg a (i + 1) e := by
  unfold seg
  rw [drop_at a i (by omega), show e - i = (e - (i + 1)) + 1 by omega, List.take_succ_cons]
theorem seg_nil (a : ByteArray) (i e : Nat) (h : ¬ i < e) : seg a i e = [] := by
  unfold seg; rw [show e - i = 0 by omega, List.take_zero]

set_option maxHeartbeats 400000 in
theorem compare_any (a b : ByteArray) (ia ea ib eb : Nat) (w : World) (ha : a.size ≤ maxLen) (hb : b.size ≤ maxLen)
    (h1 : ia ≤ ea) (h2 : ea ≤ a.size) (h3 : ib ≤ eb) (h4 : eb ≤ b.size) :
    Calls Try.prog 20 #[.string a, .int .i64 ia, .int .i64 ea, .string b, .int .i64 ib, .int .i64 eb] w fun e w' => e = .returned (.int .i64 (cmp (seg a ia ea) (seg b ib eb))) ∧ ∃ n, w' = w.drewN n := by
  unfold maxLen at ha hb
  go_enter Try.func20, Try.ntmps20
  go_wp2
  go_loopw [1, 4] (fun i j wr => ∃ k m : Nat, k ≤ ea ∧ m ≤ eb ∧ i = .int .i64 k ∧ j = .int .i64 m ∧ Hid (cmp (seg a k ea) (seg b m eb) = cmp (seg a ia ea) (seg b ib eb)) ∧ ∃ n, wr = w.drewN n) (fun i _ _ => a.size - (intOf i).toNat)
  case atStart => exact ⟨ia, ib, h1, h3, rfl, rfl, rfl, 0, rfl⟩
  case round =>
    obtain ⟨k, m, hk, hm, rfl, rfl, HI, n, rfl⟩ := hrel
    by_cases g1 : k < ea
    · by_cases g2 : m < eb
      · have ka : k < a.size := by omega
        have mb : m < b.size := by omega
        have HD : Hid (cmp (a[k] :: seg a (k + 1) ea) (b[m] :: seg b (m + 1) eb) = cmp (seg a ia ea) (seg b ib eb)) := by
          rw [← HI.out, seg_cons a k ea g1 h2, seg_cons b m eb g2 h4]; exact rfl
        clear HI
        by_cases e : a[k] = b[m]
        · have hq : ((a[k].toNat : Int) != (b[m].toNat : Int)) = false := by rw [u8_neq]; simpa using e
          have HE : Hid (a[k] = b[m]) := e
          clear e
          go_wp2
          go_quiet (fail)
          go_wp2
          go_roundw
          case rel => exact ⟨k + 1, m + 1, by omega, by omega, by go_num, by go_num, by have := HD.out; rw [cmp, if_pos HE.out] at this; exact this, _, rfl⟩
          case measure => simp [intOf]; omega
        · have hq : ((a[k].toNat : Int) != (b[m].toNat : Int)) = true := by rw [u8_neq]; simpa using e
          have HE : Hid (¬ a[k] = b[m]) := e
          clear e
          by_cases hl : a[k] < b[m]
          · have hq1 : (a[k].toNat : Int) < (b[m].toNat : Int) := by rw [UInt8.lt_iff_toNat_lt] at hl; omega
            have HL : Hid (a[k] < b[m]) := hl
            clear hl
            go_wp2
            go_quiet (fail)
            go_wp2
            go_quiet (fail)
            go_wp2
            go_ret
            exact ⟨ret_int (by have := HD.out; rw [cmp, if_neg HE.out, if_pos HL.out] at this; exact this), _, by rw [World.drewN_drewN, World.drewN_drewN]⟩
          · have hq1 : ¬ (a[k].toNat : Int) < (b[m].toNat : Int) := by rw [UInt8.lt_iff_toNat_lt] at hl; omega
            have HL : Hid (¬ a[k] < b[m]) := hl
            clear hl
            go_wp2
            go_quiet (fail)
            go_wp2
            go_quiet (fail)
            go_wp2
            go_ret
            exact ⟨ret_int (by have := HD.out; rw [cmp, if_neg HE.out, if_neg HL.out] at this; exact this), _, by rw [World.drewN_drewN, World.drewN_drewN]⟩
      · have HD : Hid (1 = cmp (seg a ia ea) (seg b ib eb)) := by
          rw [← HI.out, seg_cons a k ea g1 h2, seg_nil b m eb g2]; exact rfl
        clear HI
        go_wp2
        go_ret
        exact ⟨ret_int HD.out, _, rfl⟩
    · by_cases g2 : m < eb
      · have HD : Hid (-1 = cmp (seg a ia ea) (seg b ib eb)) := by
          rw [← HI.out, seg_nil a k ea g1, seg_cons b m eb g2 h4]; exact rfl
        clear HI
        go_wp2
        go_ret
        exact ⟨ret_int HD.out, _, rfl⟩
      · have HD : Hid (0 = cmp (seg a ia ea) (seg b ib eb)) := by
          rw [← HI.out, seg_nil a k ea g1, seg_nil b m eb g2]; exact rfl
        clear HI
        go_wp2
        go_ret
        exact ⟨ret_int HD.out, _, rfl⟩

theorem seg_drop (a : ByteArray) (i m : Nat) : seg a i (i + m) = (a.data.toList.drop i).take m := by
  unfold seg; rw [Nat.add_sub_cancel_left]

/-- one round of the component order, in the walk's own numbers -/
theorem comp_step (a b : ByteArray) (ia ib ea eb : Nat) (h1 : ia ≤ a.size) (h2 : ib ≤ b.size)
    (ha : ea = ia + clen (a.data.toList.drop ia)) (hb : eb = ib + clen (b.data.toList.drop ib)) :
    ea ≤ a.size ∧ eb ≤ b.size ∧ ia ≤ ea ∧ ib ≤ eb ∧ wb (a.data.toList.drop ia) (b.data.toList.drop ib) =
      (if cmp (seg a ia ea) (seg b ib eb) ≠ 0 then decide (cmp (seg a ia ea) (seg b ib eb) < 0)
       else if ea < a.size ∧ eb < b.size then wb (a.data.toList.drop (ea + 1)) (b.data.toList.drop (eb + 1))
       else decide (¬ ea < a.size) && decide (eb < b.size)) := by
  have ca := clen_le (a.data.toList.drop ia)
  have cb := clen_le (b.data.toList.drop ib)
  rw [List.length_drop, len_data] at ca cb
  have e1 : clen (a.data.toList.drop ia) = ea - ia := by omega
  have e2 : clen (b.data.toList.drop ib) = eb - ib := by omega
  refine ⟨by omega, by omega, by omega, by omega, ?_⟩
  rw [wb_step, e1, e2, List.length_drop, List.length_drop, len_data, len_data, List.drop_drop, List.drop_drop]
  unfold seg
  rw [show ia + (ea - ia + 1) = ea + 1 by omega, show ib + (eb - ib + 1) = eb + 1 by omega]
  have e3 : (ea - ia < a.size - ia) = (ea < a.size) := by apply propext; omega
  have e4 : (eb - ib < b.size - ib) = (eb < b.size) := by apply propext; omega
  simp only [e3, e4]

set_option maxHeartbeats 800000 in
theorem comp_any (a b : ByteArray) (w : World) (ha : a.size ≤ maxLen) (hb : b.size ≤ maxLen) :
    Calls Try.prog 10 #[.string a, .string b] w fun e w' => e = .returned (.bool (wb a.data.toList b.data.toList)) ∧ ∃ n, w' = w.drewN n := by
  have ha' := ha
  have hb' := hb
  unfold maxLen at ha' hb'
  go_enter Try.func10, Try.ntmps10
  go_wp2
  go_loopw [5, 6] (fun i j wr => ∃ k m : Nat, k ≤ a.size ∧ m ≤ b.size ∧ i = .int .i64 k ∧ j = .int .i64 m ∧ Hid (wb (a.data.toList.drop k) (b.data.toList.drop m) = wb a.data.toList b.data.toList) ∧ ∃ n, wr = w.drewN n) (fun i _ _ => a.size - (intOf i).toNat)
  case atStart => exact ⟨0, 0, Nat.zero_le _, Nat.zero_le _, rfl, rfl, rfl, 0, rfl⟩
  case round =>
    obtain ⟨k, m, hk, hm, rfl, rfl, HI, n, rfl⟩ := hrel
    obtain ⟨ea, hea⟩ : ∃ ea, ea = k + clen (a.data.toList.drop k) := ⟨_, rfl⟩
    obtain ⟨eb, heb⟩ : ∃ eb, eb = m + clen (b.data.toList.drop m) := ⟨_, rfl⟩
    obtain ⟨g1, g2, g3, g4, hst⟩ := comp_step a b k m ea eb hk hm hea heb
    have hce := compEnd_any a k
    have hcf := compEnd_any b m
    rw [← hea] at hce
    rw [← heb] at hcf
    have HC : Hid (∀ w, _) := fun w => hce w ha hk
    have HF : Hid (∀ w, _) := fun w => hcf w hb hm
    have HS : Hid (_ = _) := HI.out.symm.trans hst
    clear hst hce hcf hea heb HI
    go_wp2_with fail
    refine (HC.out _).mono ?_
    rintro e w' ⟨rfl, rfl⟩
    go_wp2_with fail
    refine (HF.out _).mono ?_
    rintro e w' ⟨rfl, rfl⟩
    go_wp2_with fail
    refine (compare_any a b k ea m eb _ ha hb g3 g1 g4 g2).mono ?_
    rintro e w' ⟨rfl, n1, rfl⟩
    generalize hc : cmp (seg a k ea) (seg b m eb) = c at HS
    clear hc HC HF
    by_cases hz : (c != 0) = true
    · go_wp2
      go_ret
      exact ⟨ret_bool (by have := HS.out; rw [if_pos (by simpa using hz)] at this; exact this.symm), _, rfl⟩
    · have hz' : (c != 0) = false := by simpa using hz
      have hzz : ¬ c ≠ 0 := by simpa using hz'
      have HZ : Hid (¬ c ≠ 0) := hzz
      clear hzz
      clear hz
      by_cases p1 : ea < a.size
      · by_cases p2 : eb < b.size
        · go_wp2
          go_roundw
          case rel => exact ⟨ea + 1, eb + 1, by omega, by omega, by go_num, by go_num, by have := HS.out; rw [if_neg HZ.out, if_pos ⟨p1, p2⟩] at this; exact this.symm, _, rfl⟩
          case measure => simp [intOf]; omega
        · go_wp2
          go_ret
          exact ⟨ret_bool (by have := HS.out; rw [if_neg HZ.out, if_neg (fun h => p2 h.2)] at this; rw [this]; simp [p1]), _, rfl⟩
      · by_cases p2 : eb < b.size
        · go_wp2
          go_ret
          exact ⟨ret_bool (by have := HS.out; rw [if_neg HZ.out, if_neg (fun h => p1 h.1)] at this; rw [this]; simp [p1, p2]), _, rfl⟩
        · go_wp2
          go_ret
          exact ⟨ret_bool (by have := HS.out; rw [if_neg HZ.out, if_neg (fun h => p1 h.1)] at this; rw [this]; simp [p1, p2]), _, rfl⟩
end Go.Proofs.Qxb6602454a
