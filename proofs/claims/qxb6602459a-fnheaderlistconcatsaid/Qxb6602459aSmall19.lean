import Derived.Test.Qxb6602459aSmall13
namespace Go.Proofs.Qxb6602459a
open Go.RowKit
set_option linter.unusedVariables false

set_option maxHeartbeats 4000000 in
set_option maxRecDepth 100000 in
theorem small19_any (v1 v2 : Value) (ra rb : List (List ByteArray)) (w : World) (za : Fits ra) (zb : Fits rb) (ma : ra.length ≤ maxLen) (mb : rb.length ≤ maxLen) (h1 : RowsV w w.heap.size v1 ra) (h2 : RowsV w w.heap.size v2 rb) :
    Calls Try.prog 19 #[v1, v2] w (Guard (ra.length + totR ra + rb.length + totR rb) w) := by
  unfold maxLen at ma mb
  obtain ⟨a, c, rfl⟩ := h1.shape
  obtain ⟨a2, c2, rfl⟩ := h2.shape
  have HRa : Hid (RowsV w w.heap.size (.slice a ra.length c) ra) := h1
  have HRb : Hid (RowsV w w.heap.size (.slice a2 rb.length c2) rb) := h2
  have HZa : Hid (Fits ra) := za
  have HZb : Hid (Fits rb) := zb
  have hcap := h1.cap
  have hcap2 := h2.cap
  clear h1 h2 za zb
  go_enter Try.func19, Try.ntmps19
  by_cases bra : 1048576 < ra.length
  · go_wp2_with fail
    go_ret
    exact Guard.no
  go_wp2_with fail
  go_loop [5, 6] (fun t i => ∃ k : Nat, k ≤ ra.length ∧ i = .int .i64 k ∧ t = .int .i64 ((0 + ra.length + totR (ra.take k) : Nat) : Int) ∧ 0 + ra.length + totR (ra.take k) ≤ 1048576) (fun _ i => ra.length - (intOf i).toNat)
  case atStart => exact ⟨0, Nat.zero_le _, rfl, by simp [totR], by simp [totR]; omega⟩
  case round =>
    obtain ⟨k, hk, rfl, rfl, g1⟩ := hrel
    by_cases hlt : k < ra.length
    · obtain ⟨b, o, rfl, hb, hcell⟩ := HRa.out.at k hlt
      obtain ⟨av, cv, hck, hSk⟩ := hcell k _ (List.getElem?_eq_getElem hlt)
      have HSk : Hid (Strs w w.heap.size (.slice av ra[k].length cv) ra[k]) := hSk
      have HZk : Hid (∀ s ∈ ra[k], s.size ≤ maxLen) := (HZa.out _ (List.getElem_mem hlt)).2
      have hm := (HZa.out _ (List.getElem_mem hlt)).1
      unfold maxLen at hm
      have HT : Hid (totR (ra.take (k + 1)) = totR (ra.take k) + (ra[k].length + lens ra[k])) := totR_take ra k hlt
      generalize totR (ra.take k) = T at HT g1 ⊢
      generalize hrow : ra[k] = r at HT HSk HZk hm hck
      have HRW : Hid (ra[k] = r) := hrow
      clear hcell hSk hrow
      by_cases q1 : 1048576 < r.length
      · go_wp2_with fail
        go_ret
        exact Guard.no
      by_cases q2 : 1048576 < 0 + ra.length + T + r.length
      · go_wp2_with fail
        go_ret
        exact Guard.no
      go_wp2_with fail
      go_loop [5, 7] (fun t i => ∃ j : Nat, j ≤ r.length ∧ i = .int .i64 j ∧ t = .int .i64 ((0 + ra.length + T + r.length + lens (r.take j) : Nat) : Int) ∧ 0 + ra.length + T + r.length + lens (r.take j) ≤ 1048576) (fun _ i => r.length - (intOf i).toNat)
      case atStart => exact ⟨0, Nat.zero_le _, rfl, by simp [lens], by simp [lens]; omega⟩
      case round =>
        obtain ⟨j, hj, rfl, rfl, g2⟩ := hrel
        by_cases hjl : j < r.length
        · obtain ⟨b', o', rfl, hb', hcell'⟩ := HSk.out.at j hjl
          have hcj : w.cell? ⟨b', o' + j, none⟩ = some (.string r[j]) := hcell' j _ (List.getElem?_eq_getElem hjl)
          have hmj := HZk.out _ (List.getElem_mem hjl)
          unfold maxLen at hmj
          have HL : Hid (lens (r.take (j + 1)) = lens (r.take j) + r[j].size) := lens_take r j hjl
          generalize lens (r.take j) = L at HL g2 ⊢
          clear hcell'
          by_cases q3 : 1048576 < r[j].size
          · go_wp2_with fail
            go_ret
            exact Guard.no
          by_cases q4 : 1048576 < 0 + ra.length + T + r.length + L + r[j].size
          · go_wp2_with fail
            go_ret
            exact Guard.no
          go_wp2_with fail
          go_round
          case rel => exact ⟨j + 1, by omega, by go_num, by rw [HL.out]; go_num, by have := HL.out; omega⟩
          case measure => simp [intOf]; omega
        · have hjj : j = r.length := by omega
          subst hjj
          rw [List.take_length] at g2 ⊢
          go_wp2_with fail
          go_round
          case rel => exact ⟨k + 1, by omega, by go_num, by rw [HT.out]; go_num, by have := HT.out; omega⟩
          case measure => simp [intOf]; omega
    · have hkk : k = ra.length := by omega
      subst hkk
      rw [List.take_length] at g1 ⊢
      generalize hTra : totR ra = Tra at g1 ⊢
      have HTra : Hid (totR ra = Tra) := hTra
      clear hTra hlt hk
      by_cases brb : 1048576 < rb.length
      · go_wp2_with fail
        go_ret
        exact Guard.no
      by_cases brb2 : 1048576 < (0 + ra.length + Tra) + rb.length
      · go_wp2_with fail
        go_ret
        exact Guard.no
      go_wp2_with fail
      go_loop [5, 8] (fun t i => ∃ k : Nat, k ≤ rb.length ∧ i = .int .i64 k ∧ t = .int .i64 (((0 + ra.length + Tra) + rb.length + totR (rb.take k) : Nat) : Int) ∧ (0 + ra.length + Tra) + rb.length + totR (rb.take k) ≤ 1048576) (fun _ i => rb.length - (intOf i).toNat)
      case atStart => exact ⟨0, Nat.zero_le _, rfl, by simp [totR], by simp [totR]; omega⟩
      case round =>
        obtain ⟨k, hk, rfl, rfl, g1⟩ := hrel
        by_cases hlt : k < rb.length
        · obtain ⟨b, o, rfl, hb, hcell⟩ := HRb.out.at k hlt
          obtain ⟨av, cv, hck, hSk⟩ := hcell k _ (List.getElem?_eq_getElem hlt)
          have HSk : Hid (Strs w w.heap.size (.slice av rb[k].length cv) rb[k]) := hSk
          have HZk : Hid (∀ s ∈ rb[k], s.size ≤ maxLen) := (HZb.out _ (List.getElem_mem hlt)).2
          have hm := (HZb.out _ (List.getElem_mem hlt)).1
          unfold maxLen at hm
          have HT : Hid (totR (rb.take (k + 1)) = totR (rb.take k) + (rb[k].length + lens rb[k])) := totR_take rb k hlt
          generalize totR (rb.take k) = T at HT g1 ⊢
          generalize hrow : rb[k] = r at HT HSk HZk hm hck
          have HRW : Hid (rb[k] = r) := hrow
          clear hcell hSk hrow
          by_cases q1 : 1048576 < r.length
          · go_wp2_with fail
            go_ret
            exact Guard.no
          by_cases q2 : 1048576 < (0 + ra.length + Tra) + rb.length + T + r.length
          · go_wp2_with fail
            go_ret
            exact Guard.no
          go_wp2_with fail
          go_loop [5, 9] (fun t i => ∃ j : Nat, j ≤ r.length ∧ i = .int .i64 j ∧ t = .int .i64 (((0 + ra.length + Tra) + rb.length + T + r.length + lens (r.take j) : Nat) : Int) ∧ (0 + ra.length + Tra) + rb.length + T + r.length + lens (r.take j) ≤ 1048576) (fun _ i => r.length - (intOf i).toNat)
          case atStart => exact ⟨0, Nat.zero_le _, rfl, by simp [lens], by simp [lens]; omega⟩
          case round =>
            obtain ⟨j, hj, rfl, rfl, g2⟩ := hrel
            by_cases hjl : j < r.length
            · obtain ⟨b', o', rfl, hb', hcell'⟩ := HSk.out.at j hjl
              have hcj : w.cell? ⟨b', o' + j, none⟩ = some (.string r[j]) := hcell' j _ (List.getElem?_eq_getElem hjl)
              have hmj := HZk.out _ (List.getElem_mem hjl)
              unfold maxLen at hmj
              have HL : Hid (lens (r.take (j + 1)) = lens (r.take j) + r[j].size) := lens_take r j hjl
              generalize lens (r.take j) = L at HL g2 ⊢
              clear hcell'
              by_cases q3 : 1048576 < r[j].size
              · go_wp2_with fail
                go_ret
                exact Guard.no
              by_cases q4 : 1048576 < (0 + ra.length + Tra) + rb.length + T + r.length + L + r[j].size
              · go_wp2_with fail
                go_ret
                exact Guard.no
              go_wp2_with fail
              go_round
              case rel => exact ⟨j + 1, by omega, by go_num, by rw [HL.out]; go_num, by have := HL.out; omega⟩
              case measure => simp [intOf]; omega
            · have hjj : j = r.length := by omega
              subst hjj
              rw [List.take_length] at g2 ⊢
              go_wp2_with fail
              go_round
              case rel => exact ⟨k + 1, by omega, by go_num, by rw [HT.out]; go_num, by have := HT.out; omega⟩
              case measure => simp [intOf]; omega
        · have hkk : k = rb.length := by omega
          subst hkk
          rw [List.take_length] at g1 ⊢
          generalize hTrb : totR rb = Trb at g1 ⊢
          have HTrb : Hid (totR rb = Trb) := hTrb
          clear hTrb hlt hk
          go_wp2_with fail
          go_ret
          exact Guard.yes (by rw [HTra.out, HTrb.out]; omega)

end Go.Proofs.Qxb6602459a
