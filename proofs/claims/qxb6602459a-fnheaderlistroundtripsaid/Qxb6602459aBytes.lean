import Derived.Test.Qxb6602459aMem
namespace Go.Proofs.Qxb6602459a
open Go.RowKit
set_option linter.unusedVariables false

/-- what a size guard answers: a bool; where it is true, N is small -/
def Guard (N : Nat) (w : World) (e : Ending) (w' : World) : Prop := ∃ r : Bool, e = .returned (.bool r) ∧ w' = w ∧ (r = true → N ≤ 1048576)
theorem Guard.no {N : Nat} {w : World} : Guard N w (.returned (.bool false)) w := ⟨false, rfl, rfl, fun h => by cases h⟩
theorem Guard.yes {N : Nat} {w : World} (h : N ≤ 1048576) : Guard N w (.returned (.bool true)) w := ⟨true, rfl, rfl, fun _ => h⟩

/-- the sum of the lengths -/
def lens (ss : List ByteArray) : Nat := (ss.map ByteArray.size).sum

theorem lens_take (ss : List ByteArray) (k : Nat) (h : k < ss.length) : lens (ss.take (k + 1)) = lens (ss.take k) + ss[k].size := by
  unfold lens
  rw [List.take_succ_eq_append_getElem h, List.map_append, List.sum_append]
  simp

set_option maxHeartbeats 400000 in
theorem strsBytes_slice (t : Int) (a : Option Addr) (c : Nat) (ss : List ByteArray) (w : World) (h0 : 0 ≤ t) (h1 : t ≤ 1099511627776) (hsz : ∀ s ∈ ss, s.size ≤ maxLen) (hc : ss.length ≤ c)
    (hr : ss ≠ [] → ∃ b o, a = some ⟨b, o, none⟩ ∧ b < w.heap.size ∧ ∀ i s, ss[i]? = some s → w.cell? ⟨b, o + i, none⟩ = some (.string s)) :
    Calls Try.prog 8 #[.int .i64 t, .slice a ss.length c] w fun e w' => ∃ r : Int, e = .returned (.int .i64 r) ∧ 0 ≤ r ∧ r ≤ t + 34359738368 ∧ w' = w := by
  by_cases hbig : 1048576 < ss.length
  · go_enter Try.func8, Try.ntmps8
    go_wp2
    go_ret
    exact ⟨_, rfl, by omega, by omega, rfl⟩
  · go_enter Try.func8, Try.ntmps8
    go_wp2
    go_loop [0, 5] (fun t' i => ∃ (k : Nat) (r : Int), k ≤ ss.length ∧ i = .int .i64 k ∧ t' = .int .i64 r ∧ 0 ≤ r ∧ r ≤ t + 34359738368) (fun _ i => ss.length - (intOf i).toNat)
    case atStart => exact ⟨0, _, Nat.zero_le _, rfl, rfl, by omega, by omega⟩
    case round =>
      obtain ⟨k, r, hk, rfl, rfl, g0, g1⟩ := hrel
      by_cases hlt : k < ss.length
      · obtain ⟨b, o, rfl, hb, hcell⟩ := hr (by intro e; rw [e] at hlt; simp at hlt)
        have hck : w.cell? ⟨b, o + k, none⟩ = some (.string ss[k]) := hcell k _ (List.getElem?_eq_getElem hlt)
        have hm := hsz _ (List.getElem_mem hlt)
        unfold maxLen at hm
        clear hcell hsz hr
        by_cases q1 : 1048576 < r
        · go_wp2
          go_ret
          exact ⟨_, rfl, g0, g1, rfl⟩
        · by_cases q2 : 1048576 < ss[k].size
          · go_wp2
            go_ret
            exact ⟨_, rfl, by omega, by omega, rfl⟩
          · go_wp2
            go_round
            case rel => exact ⟨k + 1, r + ss[k].size, by omega, by go_num, rfl, by omega, by omega⟩
            case measure => simp [intOf]; omega
      · go_wp2
        go_ret
        exact ⟨_, rfl, g0, g1, rfl⟩

/-- zzStrsBytes returns some number; nothing is touched. -/
theorem strsBytes_any (t : Int) (v : Value) (ss : List ByteArray) (w : World) (h0 : 0 ≤ t) (h1 : t ≤ 1099511627776) (hsz : ∀ s ∈ ss, s.size ≤ maxLen) (h : Strs w w.heap.size v ss) :
    Calls Try.prog 8 #[.int .i64 t, v] w fun e w' => ∃ r : Int, e = .returned (.int .i64 r) ∧ 0 ≤ r ∧ r ≤ t + 34359738368 ∧ w' = w := by
  obtain ⟨a, c, rfl, hc, hn, hr⟩ := h
  exact strsBytes_slice t a c ss w h0 h1 hsz hc.1 hr
end Go.Proofs.Qxb6602459a
