/-
  THE SHELL OF A PROOF OF 'Rows.FnWalkBeforeKeepsSubtreeTogetherSaid' ('example.com/holdfast/holdfast/zzlaws_internal_snapshot_b1.FnWalkBeforeKeepsSubtreeTogether'), WRITTEN BY PROGRAM (proof-skeleton.mjs) off the guide's own print for that function. Not trusted: Lean checks it.
  THE WALK IS FILLED. ALL ELSE IS THE GUIDE's TEMPLATE (howto/template/XProofs.lean) at this function's number and types: leave it.
-/
import Derived.Test.Qxb6602454aRows
import Derived.WalkKit
import Derived.ProofKit
import Derived.OpenShut
import Derived.ShutString
import Derived.Lib.Strings
import Derived.Test.Qxb6602454aWb
namespace Go.Proofs.Qxb6602454a.fnWalkBeforeKeepsSubtreeTogether
open Go.ChangeShapes Go.WideShapes Go.ChangeAt Go.RowKit
open Go.ChangeMaps (open_string shut_string)
set_option linter.unusedVariables false      -- a walk need not use every 'w<i>' (that an integer argument fits its kind)

theorem own : ownKnob Try.prog.godebug = none := by kernel_rfl

open Plain
theorem small_yes (a b c : ByteArray) (w : World) (h : a.size + b.size + c.size ≤ 1048576) :
    Calls Try.prog 12 #[.string a, .string b, .string c] w fun e w' => e = .returned (.bool true) ∧ w' = w := by
  go_enter Try.func12, Try.ntmps12
  go_wp2
  go_ret
  exact ⟨rfl, rfl⟩
theorem small_no (a b c : ByteArray) (w : World) (ha : a.size ≤ maxLen) (hb : b.size ≤ maxLen) (hc : c.size ≤ maxLen) (h : ¬ a.size + b.size + c.size ≤ 1048576) :
    Calls Try.prog 12 #[.string a, .string b, .string c] w fun e w' => e = .returned (.bool false) ∧ w' = w := by
  unfold maxLen at ha hb hc
  go_enter Try.func12, Try.ntmps12
  go_wp2
  all_goals
    go_ret
    exact ⟨rfl, rfl⟩

theorem under_len (c a : ByteArray) (h : c.size ≤ a.size) (t : List UInt8) : c.data.toList ≠ a.data.toList ++ 47 :: t := by
  intro e
  have := congrArg List.length e
  simp only [List.length_append, List.length_cons, len_data] at this
  omega
theorem under_byte (c a : ByteArray) (hlt : a.size < c.size) (h : ((c[a.size].toNat : Int) != 47) = true) (t : List UInt8) : c.data.toList ≠ a.data.toList ++ 47 :: t := by
  intro e
  have h1 : c.data.toList.drop a.size = 47 :: t := by rw [e, List.drop_append_of_le_length (by rw [len_data]; exact Nat.le_refl _), List.drop_of_length_le (by rw [len_data]; exact Nat.le_refl _)]; rfl
  rw [drop_at c _ hlt] at h1
  have h2 : c[a.size] = 47 := (List.cons.inj h1).1
  rw [bne, u8_47] at h
  simp [h2] at h
theorem under_ext (c a : ByteArray) (h : ((c.extract 0 a.size).toList == a.toList) = false) (t : List UInt8) : c.data.toList ≠ a.data.toList ++ 47 :: t := by
  intro e
  rw [ByteArray.toList_eq, ByteArray.toList_eq, Lib.extract_data] at h
  rw [e, List.drop_zero, Nat.sub_zero, List.take_append_of_le_length (by rw [len_data]; exact Nat.le_refl _), List.take_of_length_le (by rw [len_data]; exact Nat.le_refl _)] at h
  simp at h
theorem cat_data (a x : ByteArray) : (a ++ { data := #[47] } ++ x).data.toList = a.data.toList ++ 47 :: x.data.toList := by
  simp

theorem under_any (c a : ByteArray) (w : World) (ha : a.size ≤ maxLen) (hc : c.size ≤ maxLen) :
    Calls Try.prog 13 #[.string c, .string a] w fun e w' => ∃ r : Bool, Hid (r = false → ∀ t, c.data.toList ≠ a.data.toList ++ 47 :: t) ∧ e = .returned (.bool r) ∧ w' = w := by
  unfold maxLen at ha hc
  go_enter Try.func13, Try.ntmps13
  go_wp2
  · go_ret
    exact ⟨false, fun _ => under_len c a (by assumption), rfl, rfl⟩
  · go_ret
    exact ⟨false, fun _ => under_byte c a (by omega) (by assumption), rfl, rfl⟩
  · go_ret
    exact ⟨((c.extract 0 a.size).toList == a.toList), fun h => under_ext c a h, rfl, rfl⟩

theorem walk (a0 : ByteArray) (a1 : ByteArray) (a2 : ByteArray) (w0 : a0.size ≤ maxLen) (w1 : a1.size ≤ maxLen) (w2 : a2.size ≤ maxLen) (w : World) :
    Calls Try.prog 5 #[.string a0, .string a1, .string a2] w fun e w' => e = .returned (.bool true) ∧ Grown w w' := by
  by_cases hs : a0.size + a1.size + a2.size ≤ 1048576
  · go_enter Try.func5, Try.ntmps5
    go_wp2_with (first | (go_at_call 12; refine (small_yes _ _ _ _ hs).mono ?_; rintro e w' ⟨rfl, rfl⟩) | (go_at_call 13; refine (under_any _ _ _ w0 w2).mono ?_; rintro e w' ⟨r, hr, rfl, rfl⟩))
    all_goals first | (go_ret; exact ⟨rfl, Grown.refl _⟩) | skip
    have h5 : (a2.toList == a0.toList) = false ∧ r = false := by assumption
    have hr' := hr.out h5.2
    have hne : a2.data.toList ≠ a0.data.toList := by
      have := h5.1
      rw [ByteArray.toList_eq, ByteArray.toList_eq] at this
      simpa using this
    have hsub := wb_sub a0.data.toList a1.data.toList a2.data.toList hne hr'
    have hz : (a0 ++ { data := #[47] } ++ a1).size ≤ maxLen := by rw [← len_data, cat_data]; simp only [List.length_append, List.length_cons, len_data]; unfold maxLen; omega
    cases hac : wb a0.data.toList a2.data.toList with
    | true =>
      have hb := hsub.1.trans hac
      clear hsub hr' hne hr
      refine (zzwb_any _ _ _ w0 w2).mono ?_
      rintro e w'' ⟨rfl, n, rfl⟩
      go_wp2_with fail
      refine (zzwb_any _ _ _ hz w2).mono ?_
      rintro e w'' ⟨rfl, n, rfl⟩
      go_wp2_with fail
      go_ret
      exact ⟨rfl, drewN_grown _ _⟩
    | false =>
      have hb : wb a2.data.toList a0.data.toList = true := by
        cases h : wb a2.data.toList a0.data.toList with
        | true => rfl
        | false => exact absurd (wb_total _ _ h hac) hne
      have hb := hsub.2.trans hb
      clear hsub hr' hne hr
      refine (zzwb_any _ _ _ w0 w2).mono ?_
      rintro e w'' ⟨rfl, n, rfl⟩
      go_wp2_with fail
      refine (zzwb_any _ _ _ w2 hz).mono ?_
      rintro e w'' ⟨rfl, n, rfl⟩
      go_wp2_with fail
      go_ret
      exact ⟨rfl, drewN_grown _ _⟩
  · go_enter Try.func5, Try.ntmps5
    go_wp2_with (first | (go_at_call 12; refine (small_no _ _ _ _ w0 w1 w2 hs).mono ?_; rintro e w' ⟨rfl, rfl⟩))
    go_ret
    exact ⟨rfl, Grown.refl _⟩

/-! ### THE ROW's STEP: WRITTEN OUT: LEAVE IT -/
set_option maxRecDepth 100000 in
theorem lifted (os : Os) (started : os.Started) (H : Type) (enc : TypeId × Value → H) :
    ReturnsInHanded {} Try.checked os 5 .any (Rows.fnWalkBeforeKeepsSubtreeTogetherSpec.pre6 enc Try.prog Try.f5 Rows.fnWalkBeforeKeepsSubtreeTogetherRow.domain false) (Rows.fnWalkBeforeKeepsSubtreeTogetherSpec.post enc Try.prog Try.f5 false true false false) := by
  refine returnsInHanded_of_change (C := Try.checked) own started (by kernel_rfl) Try.func5
    (ChangeSpec.witness6 (enc := enc) (C := Try.checked) false ⟨#[], #[.string ByteArray.empty, .string ByteArray.empty, .string ByteArray.empty], []⟩ 8 (by kernel_rfl) (by kernel_rfl) (by kernel_rfl) (by kernel_rfl)) ?_
  intro W base args ds gs before hval0 hW hcnd _
  have hval : ∀ (j : Nat) t v, Try.f5.params[j]? = some t → args[j]? = some v → Value.okWide Try.prog W .any base t v := hval0
  have hW' := hW
  obtain ⟨p, q, hA0, hV, rfl, hfz, hnd⟩ := hW
  have hA : DataW.TrodAll enc Try.prog W 0 (fun _ => true) true Try.f5.params.toList args.toList ds p := hA0
  rw [Try.params5] at hA hval
  obtain ⟨v0, vs0, d0, ds0, p0, q0, hargs, rfl, rfl, h0, r0⟩ := trodAll_cons hA
  obtain ⟨v1, vs1, d1, ds1, p1, q1, rfl, rfl, rfl, h1, r1⟩ := trodAll_cons r0
  obtain ⟨v2, vs2, d2, ds2, p2, q2, rfl, rfl, rfl, h2, r2⟩ := trodAll_cons r1
  obtain ⟨rfl, rfl, rfl⟩ := trodAll_nil r2
  obtain rfl : args = #[v0, v1, v2] := by cases args; simp_all
  obtain ⟨rfl, rfl⟩ := trodVars_none hV
  obtain ⟨a0, rfl, rfl, rfl, w0⟩ := open_string Try.underlying9 (hval 0 9 v0 rfl rfl) h0
  obtain ⟨a1, rfl, rfl, rfl, w1⟩ := open_string Try.underlying9 (hval 1 9 v1 rfl rfl) h1
  obtain ⟨a2, rfl, rfl, rfl, w2⟩ := open_string Try.underlying9 (hval 2 9 v2 rfl rfl) h2
  clear hA0 hval0
  simp only [List.append_nil] at hW'
  refine (walk a0 a1 a2 w0 w1 w2 W).mono fun e W' ⟨he, hg⟩ => ?_
  subst he
  exact ⟨_, rfl, post_of_same (pa := []) (pv := []) hW' (fun _ _ _ => (trodAll_cons_mk (shut_bool Try.underlying4 _) trodAll_mk0)) (fun sp _ => (trodAll_cons_mk (shut_string Try.underlying9 w0) (trodAll_cons_mk (shut_string Try.underlying9 w1) (trodAll_cons_mk (shut_string Try.underlying9 w2) trodAll_mk0)))) (fun _ _ => rfl) rfl
    (hg.frame _) hg.2.1 (ok_one (by kernel_rfl) rfl (okWide_bool_mk Try.underlying4 _))⟩

theorem over : Rows.fnWalkBeforeKeepsSubtreeTogetherRow.holds Try.pinned (OpenSpec.ofChange Rows.fnWalkBeforeKeepsSubtreeTogetherSpec) :=
  OpenClaim.holds_of_wide 5 Try.f5 rfl rfl rfl rfl rfl rfl rfl ⟨rfl, rfl, rfl, rfl, rfl⟩ rfl rfl rfl rfl rfl (by kernel_rfl) Try.func5 (by kernel_rfl)
    (of_decide_eq_true (by kernel_rfl)) (by unfold Func.isWrapper; first | (rw [if_pos (by decide +kernel)]; kernel_rfl) | (rw [if_neg (by decide +kernel)]; exact ⟨rfl, rfl⟩))
    (fun os started H enc _ => lifted os started H enc)

/-- ████ THE STATEMENT ████ -/
theorem proved : Rows.FnWalkBeforeKeepsSubtreeTogetherSaid :=
  over
#print axioms proved
end Go.Proofs.Qxb6602454a.fnWalkBeforeKeepsSubtreeTogether
