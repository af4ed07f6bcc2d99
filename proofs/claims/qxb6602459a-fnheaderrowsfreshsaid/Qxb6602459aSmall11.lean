import Derived.Test.Qxb6602459aBytes
namespace Go.Proofs.Qxb6602459a
open Go.RowKit
set_option linter.unusedVariables false

set_option maxHeartbeats 800000 in
theorem small11_slice (a1 : Option Addr) (c1 : Nat) (ss1 : List ByteArray) (a2 : Option Addr) (c2 : Nat) (ss2 : List ByteArray) (w : World)
    (z1 : ∀ s ∈ ss1, s.size ≤ maxLen) (z2 : ∀ s ∈ ss2, s.size ≤ maxLen) (l1 : ss1.length ≤ c1) (l2 : ss2.length ≤ c2) (m1 : ss1.length ≤ maxLen) (m2 : ss2.length ≤ maxLen)
    (hr1 : ss1 ≠ [] → ∃ b o, a1 = some ⟨b, o, none⟩ ∧ b < w.heap.size ∧ ∀ i s, ss1[i]? = some s → w.cell? ⟨b, o + i, none⟩ = some (.string s))
    (hr2 : ss2 ≠ [] → ∃ b o, a2 = some ⟨b, o, none⟩ ∧ b < w.heap.size ∧ ∀ i s, ss2[i]? = some s → w.cell? ⟨b, o + i, none⟩ = some (.string s)) :
    Calls Try.prog 11 #[.slice a1 ss1.length c1, .slice a2 ss2.length c2] w (Guard (ss1.length + lens ss1 + ss2.length + lens ss2) w) := by
  unfold maxLen at m1 m2
  by_cases b1 : 1048576 < ss1.length
  · go_enter Try.func11, Try.ntmps11
    go_wp2
    go_ret
    exact Guard.no
  · go_enter Try.func11, Try.ntmps11
    go_wp2
    go_loop [5, 6] (fun t i => ∃ k : Nat, k ≤ ss1.length ∧ i = .int .i64 k ∧ t = .int .i64 ((ss1.length + lens (ss1.take k) : Nat) : Int) ∧ ss1.length + lens (ss1.take k) ≤ 1048576) (fun _ i => ss1.length - (intOf i).toNat)
    case atStart => exact ⟨0, Nat.zero_le _, rfl, by simp [lens], by simp [lens]; omega⟩
    case round =>
      obtain ⟨k, hk, rfl, rfl, g1⟩ := hrel
      by_cases hlt : k < ss1.length
      · obtain ⟨b, o, rfl, hb, hcell⟩ := hr1 (by intro e; rw [e] at hlt; simp at hlt)
        have hck : w.cell? ⟨b, o + k, none⟩ = some (.string ss1[k]) := hcell k _ (List.getElem?_eq_getElem hlt)
        have hm := z1 _ (List.getElem_mem hlt)
        unfold maxLen at hm
        have HT : Hid (lens (ss1.take (k + 1)) = lens (ss1.take k) + ss1[k].size) := lens_take ss1 k hlt
        generalize lens (ss1.take k) = T at HT g1 ⊢
        clear hcell z1 hr1 hr2 z2
        by_cases q1 : 1048576 < ss1[k].size
        · go_wp2
          go_ret
          exact Guard.no
        · by_cases q2 : 1048576 < ss1.length + T + ss1[k].size
          · go_wp2
            go_ret
            exact Guard.no
          · go_wp2
            go_round
            case rel => exact ⟨k + 1, by omega, by go_num, by rw [HT.out]; go_num, by have := HT.out; omega⟩
            case measure => simp [intOf]; omega
      · have hkk : k = ss1.length := by omega
        subst hkk
        rw [List.take_length] at g1 ⊢
        generalize hT1 : lens ss1 = T1 at g1 ⊢
        have HT1 : Hid (lens ss1 = T1) := hT1
        clear hT1
        clear hlt hk hr1 z1
        by_cases b2 : 1048576 < ss2.length
        · go_wp2
          go_ret
          exact Guard.no
        · by_cases b3 : 1048576 < ss1.length + T1 + ss2.length
          · go_wp2
            go_ret
            exact Guard.no
          · go_wp2
            go_loop [5, 7] (fun t i => ∃ k : Nat, k ≤ ss2.length ∧ i = .int .i64 k ∧ t = .int .i64 ((ss1.length + T1 + ss2.length + lens (ss2.take k) : Nat) : Int) ∧ ss1.length + T1 + ss2.length + lens (ss2.take k) ≤ 1048576) (fun _ i => ss2.length - (intOf i).toNat)
            case atStart => exact ⟨0, Nat.zero_le _, rfl, by simp [lens], by simp [lens]; omega⟩
            case round =>
              obtain ⟨k, hk, rfl, rfl, g2⟩ := hrel
              by_cases hlt : k < ss2.length
              · obtain ⟨b, o, rfl, hb, hcell⟩ := hr2 (by intro e; rw [e] at hlt; simp at hlt)
                have hck : w.cell? ⟨b, o + k, none⟩ = some (.string ss2[k]) := hcell k _ (List.getElem?_eq_getElem hlt)
                have hm := z2 _ (List.getElem_mem hlt)
                unfold maxLen at hm
                have HT : Hid (lens (ss2.take (k + 1)) = lens (ss2.take k) + ss2[k].size) := lens_take ss2 k hlt
                generalize lens (ss2.take k) = T at HT g2 ⊢
                clear hcell z2 hr2
                by_cases q1 : 1048576 < ss2[k].size
                · go_wp2
                  go_ret
                  exact Guard.no
                · by_cases q2 : 1048576 < ss1.length + T1 + ss2.length + T + ss2[k].size
                  · go_wp2
                    go_ret
                    exact Guard.no
                  · go_wp2
                    go_round
                    case rel => exact ⟨k + 1, by omega, by go_num, by rw [HT.out]; go_num, by have := HT.out; omega⟩
                    case measure => simp [intOf]; omega
              · have hkk : k = ss2.length := by omega
                subst hkk
                rw [List.take_length] at g2 ⊢
                generalize hT2 : lens ss2 = T2 at g2 ⊢
                have HT2 : Hid (lens ss2 = T2) := hT2
                clear hT2
                go_wp2
                go_ret
                exact Guard.yes (by rw [HT1.out, HT2.out]; exact g2)

/-- the guard of the law: where it says yes, the lengths add up to at most 1048576 -/
theorem small11_any (v1 v2 : Value) (ss1 ss2 : List ByteArray) (w : World) (z1 : ∀ s ∈ ss1, s.size ≤ maxLen) (z2 : ∀ s ∈ ss2, s.size ≤ maxLen) (m1 : ss1.length ≤ maxLen) (m2 : ss2.length ≤ maxLen)
    (h1 : Strs w w.heap.size v1 ss1) (h2 : Strs w w.heap.size v2 ss2) :
    Calls Try.prog 11 #[v1, v2] w (Guard (ss1.length + lens ss1 + ss2.length + lens ss2) w) := by
  obtain ⟨a1, c1, rfl, l1, _, hr1⟩ := h1
  obtain ⟨a2, c2, rfl, l2, _, hr2⟩ := h2
  exact small11_slice a1 c1 ss1 a2 c2 ss2 w z1 z2 l1.1 l2.1 m1 m2 hr1 hr2
end Go.Proofs.Qxb6602459a
