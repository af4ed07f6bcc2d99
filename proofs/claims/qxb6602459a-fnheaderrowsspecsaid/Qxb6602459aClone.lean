import Derived.Test.Qxb6602459aMem
namespace Go.Proofs.Qxb6602459a
open Go.RowKit
set_option linter.unusedVariables false

set_option maxHeartbeats 400000 in
theorem clone_some (x : Addr) (c : Nat) (ss : List ByteArray) (w : World) (hs : ss.length ≤ 1048576) (hc : ss.length ≤ c)
    (hr : ss ≠ [] → ∃ b o, some x = some ⟨b, o, none⟩ ∧ b < w.heap.size ∧ ∀ i s, ss[i]? = some s → w.cell? ⟨b, o + i, none⟩ = some (.string s)) :
    Calls Try.prog 9 #[.slice (some x) ss.length c] w fun e w' => e = .returned (.slice (some ⟨w.heap.size, 0, none⟩) ss.length ss.length) ∧
      Below w.heap.size w w' ∧ w'.heap.size = w.heap.size + 1 ∧ w'.rowIs w.heap.size 9 ss.length (fill ss ss.length) := by
  have hnil := fun w a n c => Lib.run_eql_slice_nil (P := Try.prog) w 22 9 a n c 0 0 Try.underlying22
  have hmk := fun w => run_make_row' (P := Try.prog) 22 9 _ 16 Try.underlying22 Try.info9 rfl .i64 .i64 ss.length (by omega) (by omega) w
  have HR : Hid (ss ≠ [] → ∃ b o, some x = some ⟨b, o, none⟩ ∧ b < w.heap.size ∧ ∀ i s, ss[i]? = some s → w.cell? ⟨b, o + i, none⟩ = some (.string s)) := hr
  clear hr
  go_enter Try.func9, Try.ntmps9
  go_wp2
  go_loopw [4] (fun i wr => ∃ k : Nat, k ≤ ss.length ∧ i = .int .i64 k ∧ Below w.heap.size w wr ∧ wr.heap.size = w.heap.size + 1 ∧ wr.rowIs w.heap.size 9 ss.length (fill ss k)) (fun i _ => ss.length - (intOf i).toNat)
  case atStart => exact ⟨0, Nat.zero_le _, rfl, (Below.refl _ _).alloc (Nat.le_refl _) _, by simp, (World.rowIs_made w _ _ 9).congr (fun i hi => by simp [fill])⟩
  case round =>
    obtain ⟨k, hk, rfl, hbel, hsz, hrow⟩ := hrel
    by_cases hlt : k < ss.length
    · obtain ⟨b, o, hx, hb, hcell⟩ := HR.out (by intro e; rw [e] at hlt; simp at hlt)
      obtain rfl := Option.some.inj hx
      have hck : wr.cell? ⟨b, o + k, none⟩ = some (.string ss[k]) := by rw [hbel.cell hb]; exact hcell k _ (List.getElem?_eq_getElem hlt)
      have hfz := hrow.frozen k
      have hcg := hrow.cell hlt
      have HN : Hid (∀ u, Below w.heap.size w (wr.setCell ⟨w.heap.size, k, none⟩ u) ∧ (wr.setCell ⟨w.heap.size, k, none⟩ u).heap.size = w.heap.size + 1) := fun u => ⟨hbel.setCell (Nat.le_refl _) u, by simp [hsz]⟩
      have HW : Hid (wr.rowIs w.heap.size 9 ss.length (fill ss k)) := hrow
      clear hcell hrow hbel HR
      go_wp2
      go_roundw
      case rel => exact ⟨k + 1, by omega, by go_num, (HN.out _).1, (HN.out _).2, (HW.out.set k _).congr fun j _ => fill_step ss k hlt j⟩
      case measure => simp [intOf]; omega
    · go_wp2
      go_ret
      have e : k = ss.length := by omega
      subst e
      exact ⟨rfl, hbel, hsz, hrow⟩

theorem clone_nil (w : World) : Calls Try.prog 9 #[.slice none 0 0] w fun e w' => e = .returned (.slice none 0 0) ∧ w' = w := by
  have hnil := fun w a n c => Lib.run_eql_slice_nil (P := Try.prog) w 22 9 a n c 0 0 Try.underlying22
  go_enter Try.func9, Try.ntmps9
  go_wp2
  go_ret
  exact ⟨rfl, rfl⟩

/-- zzCloneStrs: a slice of the same strings, in new memory; nothing old is touched. -/
theorem clone_any2 (v : Value) (ss : List ByteArray) (w : World) (hs : ss.length ≤ 1048576) (h : Strs w w.heap.size v ss) :
    Calls Try.prog 9 #[v] w fun e w' => ∃ v', e = .returned v' ∧ Below w.heap.size w w' ∧ Strs w' w'.heap.size v' ss ∧ ∀ q, v'.ownBlock = some q → w.heap.size ≤ q := by
  obtain ⟨a, c, rfl, hc, hn, hr⟩ := h
  cases a with
  | none =>
    have h0 := hn rfl
    subst h0
    have hl : ss.length = 0 := by omega
    have hss : ss = [] := List.length_eq_zero_iff.1 hl
    subst hss
    refine (clone_nil w).mono ?_
    rintro e w' ⟨rfl, rfl⟩
    exact ⟨_, rfl, Below.refl _ _, Strs.nil _ _, fun q hq => by cases hq⟩
  | some x =>
    refine (clone_some x c ss w hs hc.1 hr).mono ?_
    rintro e w' ⟨rfl, hb, hz, hrow⟩
    exact ⟨_, rfl, hb, by rw [hz]; exact Strs.of_row (by omega) rfl hrow, fun q hq => by cases hq; exact Nat.le_refl _⟩

theorem clone_any (v : Value) (ss : List ByteArray) (w : World) (hs : ss.length ≤ 1048576) (h : Strs w w.heap.size v ss) :
    Calls Try.prog 9 #[v] w fun e w' => ∃ v', e = .returned v' ∧ Below w.heap.size w w' ∧ Strs w' w'.heap.size v' ss := by
  refine (clone_any2 v ss w hs h).mono ?_
  rintro e w' ⟨v', h1, h2, h3, _⟩
  exact ⟨v', h1, h2, h3⟩
end Go.Proofs.Qxb6602459a
