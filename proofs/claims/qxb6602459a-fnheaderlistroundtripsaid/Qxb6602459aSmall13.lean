import Derived.Test.Qxb6602459aRowsV
namespace Go.Proofs.Qxb6602459a
open Go.RowKit
set_option linter.unusedVariables false

/-- what the guards count of rows -/
def totR (rs : List (List ByteArray)) : Nat := (rs.map fun r => r.length + lens r).sum
theorem totR_take (rs : List (List ByteArray)) (k : Nat) (h : k < rs.length) : totR (rs.take (k + 1)) = totR (rs.take k) + (rs[k].length + lens rs[k]) := by
  unfold totR
  rw [List.take_succ_eq_append_getElem h, List.map_append, List.sum_append]
  simp

/-- each row and each string fits -/
def Fits (rs : List (List ByteArray)) : Prop := ∀ r ∈ rs, r.length ≤ maxLen ∧ ∀ s ∈ r, s.size ≤ maxLen

set_option maxHeartbeats 2000000 in
theorem small13_any (v : Value) (rs : List (List ByteArray)) (w : World) (z : Fits rs) (m : rs.length ≤ maxLen) (h : RowsV w w.heap.size v rs) :
    Calls Try.prog 13 #[v] w (Guard (rs.length + totR rs) w) := by
  unfold maxLen at m
  obtain ⟨a, c, rfl⟩ := h.shape
  have HR : Hid (RowsV w w.heap.size (.slice a rs.length c) rs) := h
  have HZ : Hid (Fits rs) := z
  have hcap := h.cap
  clear h z
  go_enter Try.func13, Try.ntmps13
  by_cases brs : 1048576 < rs.length
  · go_wp2_with fail
    go_ret
    exact Guard.no
  go_wp2_with fail
  go_loop [3, 4] (fun t i => ∃ k : Nat, k ≤ rs.length ∧ i = .int .i64 k ∧ t = .int .i64 ((0 + rs.length + totR (rs.take k) : Nat) : Int) ∧ 0 + rs.length + totR (rs.take k) ≤ 1048576) (fun _ i => rs.length - (intOf i).toNat)
  case atStart => exact ⟨0, Nat.zero_le _, rfl, by simp [totR], by simp [totR]; omega⟩
  case round =>
    obtain ⟨k, hk, rfl, rfl, g1⟩ := hrel
    by_cases hlt : k < rs.length
    · obtain ⟨b, o, rfl, hb, hcell⟩ := HR.out.at k hlt
      obtain ⟨av, cv, hck, hSk⟩ := hcell k _ (List.getElem?_eq_getElem hlt)
      have HSk : Hid (Strs w w.heap.size (.slice av rs[k].length cv) rs[k]) := hSk
      have HZk : Hid (∀ s ∈ rs[k], s.size ≤ maxLen) := (HZ.out _ (List.getElem_mem hlt)).2
      have hm := (HZ.out _ (List.getElem_mem hlt)).1
      unfold maxLen at hm
      have HT : Hid (totR (rs.take (k + 1)) = totR (rs.take k) + (rs[k].length + lens rs[k])) := totR_take rs k hlt
      generalize totR (rs.take k) = T at HT g1 ⊢
      generalize hrow : rs[k] = r at HT HSk HZk hm hck
      have HRW : Hid (rs[k] = r) := hrow
      clear hcell hSk hrow
      by_cases q1 : 1048576 < r.length
      · go_wp2_with fail
        go_ret
        exact Guard.no
      by_cases q2 : 1048576 < 0 + rs.length + T + r.length
      · go_wp2_with fail
        go_ret
        exact Guard.no
      go_wp2_with fail
      go_loop [3, 5] (fun t i => ∃ j : Nat, j ≤ r.length ∧ i = .int .i64 j ∧ t = .int .i64 ((0 + rs.length + T + r.length + lens (r.take j) : Nat) : Int) ∧ 0 + rs.length + T + r.length + lens (r.take j) ≤ 1048576) (fun _ i => r.length - (intOf i).toNat)
      case atStart => exact ⟨0, Nat.zero_le _, rfl, by simp [lens], by simp [lens]; omega⟩
      case round =>
        obtain ⟨j, hj, rfl, rfl, g2⟩ := hrel
        by_cases hjl : j < r.length
        · obtain ⟨b', o', rfl, hb', hcell'⟩ := HSk.out.at j hjl
          have hcj : w.cell? ⟨b', o' + j, none⟩ = some (.string r[j]) := hcell' j _ (List.getElem?_eq_getElem hjl)
          have hmj := HZk.out _ (List.getElem_mem hjl)
          unfold maxLen at hmj
          have HL : Hid (lens (r.take (j + 1)) = lens (r.take j) + r[j].size) := lens_take r j hjl
          generalize lens (r.take j) = L at HL g2 ⊢
          clear hcell'
          by_cases q3 : 1048576 < r[j].size
          · go_wp2_with fail
            go_ret
            exact Guard.no
          by_cases q4 : 1048576 < 0 + rs.length + T + r.length + L + r[j].size
          · go_wp2_with fail
            go_ret
            exact Guard.no
          go_wp2_with fail
          go_round
          case rel => exact ⟨j + 1, by omega, by go_num, by rw [HL.out]; go_num, by have := HL.out; omega⟩
          case measure => simp [intOf]; omega
        · have hjj : j = r.length := by omega
          subst hjj
          rw [List.take_length] at g2 ⊢
          go_wp2_with fail
          go_round
          case rel => exact ⟨k + 1, by omega, by go_num, by rw [HT.out]; go_num, by have := HT.out; omega⟩
          case measure => simp [intOf]; omega
    · have hkk : k = rs.length := by omega
      subst hkk
      rw [List.take_length] at g1 ⊢
      generalize hTrs : totR rs = Trs at g1 ⊢
      have HTrs : Hid (totR rs = Trs) := hTrs
      clear hTrs hlt hk
      go_wp2_with fail
      go_ret
      exact Guard.yes (by rw [HTrs.out]; omega)

end Go.Proofs.Qxb6602459a
