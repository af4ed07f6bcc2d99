import Derived.Test.Qxb6602454aRows
import Derived.Test.Qxb6602454aPlain
import Derived.WalkKit
import Derived.WalkSpells
import Derived.WalkLawsBesides
import Derived.Deep.QuietTactic
import Derived.BigQuiet
namespace Go.Proofs.Qxb6602454a
open Go.RowKit Plain
set_option linter.unusedVariables false

theorem len_data (s : ByteArray) : s.data.toList.length = s.size := rfl

theorem drop_at (s : ByteArray) (k : Nat) (h : k < s.size) : s.data.toList.drop k = s[k] :: s.data.toList.drop (k + 1) := by
  rw [List.drop_eq_getElem_cons (by simpa using h)]; rfl

theorem wb_enda (a b : ByteArray) (k : Nat) (hka : k ≤ a.size) (h : ¬ k < a.size)
    (HI : wb (a.data.toList.drop k) (b.data.toList.drop k) = wb a.data.toList b.data.toList) : decide (a.size < b.size) = wb a.data.toList b.data.toList := by
  have e : k = a.size := by omega
  rw [← HI, e, List.drop_of_length_le (l := a.data.toList) (by rw [len_data]; exact Nat.le_refl _)]
  by_cases h2 : a.size < b.size
  · rw [drop_at b _ h2]; simp [wb, h2]
  · rw [List.drop_of_length_le (by rw [len_data]; omega)]; simp [wb, h2]

theorem wb_endb (a b : ByteArray) (k : Nat) (hka : k < a.size) (hkb : k ≤ b.size) (h : ¬ k < b.size)
    (HI : wb (a.data.toList.drop k) (b.data.toList.drop k) = wb a.data.toList b.data.toList) : decide (a.size < b.size) = wb a.data.toList b.data.toList := by
  rw [← HI, drop_at a k hka, List.drop_of_length_le (l := b.data.toList) (by rw [len_data]; omega)]
  have : ¬ a.size < b.size := by omega
  simp [wb, this]

theorem u8_eq (x y : UInt8) : ((x.toNat : Int) == (y.toNat : Int)) = decide (x = y) := by
  rw [Bool.eq_iff_iff]; simp only [beq_iff_eq, decide_eq_true_eq]
  exact ⟨fun h => UInt8.toNat_inj.mp (by omega), fun h => by rw [h]⟩
theorem u8_47 (x : UInt8) : ((x.toNat : Int) == 47) = decide (x = 47) := u8_eq x 47
theorem u8_lt (x y : UInt8) : decide ((x.toNat : Int) < (y.toNat : Int)) = decide (x < y) := by
  rw [Bool.eq_iff_iff]; simp only [decide_eq_true_eq, UInt8.lt_iff_toNat_lt]; omega

theorem ret_bool {a b : Bool} (h : a = b) : Ending.returned (.bool a) = .returned (.bool b) := by rw [h]

set_option maxHeartbeats 400000 in
theorem walkBefore_any (a b : ByteArray) (w : World) (ha : a.size ≤ maxLen) (hb : b.size ≤ maxLen) :
    Calls Try.prog 18 #[.string a, .string b] w fun e w' => e = .returned (.bool (wb a.data.toList b.data.toList)) ∧ ∃ n, w' = w.drewN n := by
  unfold maxLen at ha hb
  go_enter Try.func18, Try.ntmps18
  go_wp2
  go_loopw [5] (fun i wr => ∃ k : Nat, k ≤ a.size ∧ k ≤ b.size ∧ i = .int .i64 k ∧ Hid (wb (a.data.toList.drop k) (b.data.toList.drop k) = wb a.data.toList b.data.toList) ∧ ∃ n, wr = w.drewN n) (fun i _ => a.size - (intOf i).toNat)
  case atStart => exact ⟨0, Nat.zero_le _, Nat.zero_le _, rfl, rfl, 0, rfl⟩
  case round =>
    obtain ⟨k, hka, hkb, rfl, HI, n, rfl⟩ := hrel
    by_cases h1 : k < a.size
    · by_cases h2 : k < b.size
      · have HD : Hid (wb (a[k] :: a.data.toList.drop (k + 1)) (b[k] :: b.data.toList.drop (k + 1)) = wb a.data.toList b.data.toList) := by
          have := HI.out; rw [drop_at a k h1, drop_at b k h2] at this; exact this
        clear HI
        by_cases e : a[k] = b[k]
        · have hq : ((a[k].toNat : Int) == (b[k].toNat : Int)) = true := by rw [u8_eq]; simpa using e
          have HE : Hid (a[k] = b[k]) := e
          clear e
          go_wp2
          go_quiet (fail)
          go_wp2
          go_roundw
          case rel => exact ⟨k + 1, by omega, by omega, by go_num, by have := HD.out; rw [wb, if_pos HE.out] at this; exact this, _, rfl⟩
          case measure => simp [intOf]; omega
        · have hq : ((a[k].toNat : Int) == (b[k].toNat : Int)) = false := by rw [u8_eq]; simpa using e
          have HE : Hid (¬ a[k] = b[k]) := e
          clear e
          by_cases e1 : a[k] = 47
          · have hq1 : ((a[k].toNat : Int) == 47) = true := by rw [u8_47]; simpa using e1
            have HE1 : Hid (a[k] = 47) := e1
            clear e1
            go_wp2
            go_quiet (fail)
            go_wp2
            go_ret
            exact ⟨ret_bool (by have := HD.out; rw [wb, if_neg HE.out, if_pos (Or.inl HE1.out)] at this; rw [← this]; simp [HE1.out]), _, rfl⟩
          · have hq1 : ((a[k].toNat : Int) == 47) = false := by rw [u8_47]; simpa using e1
            have HE1 : Hid (¬ a[k] = 47) := e1
            clear e1
            by_cases e2 : b[k] = 47
            · have hq2 : ((b[k].toNat : Int) == 47) = true := by rw [u8_47]; simpa using e2
              have HE2 : Hid (b[k] = 47) := e2
              clear e2
              go_wp2
              go_quiet (fail)
              go_wp2
              go_ret
              exact ⟨ret_bool (by have := HD.out; rw [wb, if_neg HE.out, if_pos (Or.inr HE2.out)] at this; rw [← this]; simp [HE1.out]), _, rfl⟩
            · have hq2 : ((b[k].toNat : Int) == 47) = false := by rw [u8_47]; simpa using e2
              have HE2 : Hid (¬ b[k] = 47) := e2
              clear e2
              go_wp2
              go_quiet (fail)
              go_wp2
              go_quiet (fail)
              go_wp2
              go_ret
              refine ⟨ret_bool (by have := HD.out; rw [wb, if_neg HE.out, if_neg (not_or.mpr ⟨HE1.out, HE2.out⟩)] at this; rw [← this, ← u8_lt]; simp), _, by rw [World.drewN_drewN]⟩
      · go_wp2
        go_ret
        exact ⟨ret_bool (wb_endb a b k h1 hkb h2 HI.out), _, rfl⟩
    · go_wp2
      go_ret
      exact ⟨ret_bool (wb_enda a b k hka h1 HI.out), _, rfl⟩

/-- 'ZZwalkBefore' is 'walkBefore'. -/
theorem zzwb_any (a b : ByteArray) (w : World) (ha : a.size ≤ maxLen) (hb : b.size ≤ maxLen) :
    Calls Try.prog 9 #[.string a, .string b] w fun e w' => e = .returned (.bool (wb a.data.toList b.data.toList)) ∧ ∃ n, w' = w.drewN n := by
  go_enter Try.func9, Try.ntmps9
  go_wp2_with (go_at_call 18; refine (walkBefore_any _ _ _ ha hb).mono ?_; rintro e w' ⟨rfl, n, rfl⟩)
  go_ret
  exact ⟨rfl, _, rfl⟩

theorem drewN_grown (w : World) (n : Nat) : Grown w (w.drewN n) :=
  ⟨(World.keptBut_refl _ _).alike (World.drewN_alike _ _), fun _ => rfl, Nat.le_refl _⟩
theorem str_ne {a b : ByteArray} (h : a.data.toList ≠ b.data.toList) : (a.toList == b.toList) = false := by
  rw [ByteArray.toList_eq, ByteArray.toList_eq]; simpa using h
theorem str_eq_inj {a b : ByteArray} (h : a.data.toList = b.data.toList) : a = b := by
  cases a with | mk a => cases b with | mk b => simp only at h; rw [Array.toList_inj.mp h]
end Go.Proofs.Qxb6602454a
