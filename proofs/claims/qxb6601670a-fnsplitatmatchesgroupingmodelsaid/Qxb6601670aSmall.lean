import Derived.Test.Qxb6601670aMem
namespace Go.Proofs.Qxb6601670a
open Go.RowKit
set_option linter.unusedVariables false

set_option maxHeartbeats 2000000 in
set_option maxRecDepth 100000 in
theorem small6_any (v : Value) (d kk : Int) (rs : List (List ByteArray)) (w : World) (z : Fits rs) (m : rs.length ≤ maxLen) (h : RowsV w w.heap.size v rs) :
    Calls Try.prog 6 #[v, .int .i64 d, .int .i64 kk] w (Guard (rs.length + totR rs) w) := by
  unfold maxLen at m
  obtain ⟨a, c, rfl⟩ := h.shape
  have HR : Hid (RowsV w w.heap.size (.slice a rs.length c) rs) := h
  have HZ : Hid (Fits rs) := z
  have hcap := h.cap
  clear h z
  go_enter Try.func6, Try.ntmps6
  by_cases brs : 1048576 < rs.length
  · go_wp2_with fail
    go_ret
    exact Guard.no
  go_wp2_with fail
  go_loop [7, 8] (fun t i => ∃ k : Nat, k ≤ rs.length ∧ i = .int .i64 k ∧ t = .int .i64 ((0 + rs.length + totR (rs.take k) : Nat) : Int) ∧ 0 + rs.length + totR (rs.take k) ≤ 1048576) (fun _ i => rs.length - (intOf i).toNat)
  case atStart => exact ⟨0, Nat.zero_le _, rfl, by simp [totR], by simp [totR]; omega⟩
  case round =>
    obtain ⟨k, hk, rfl, rfl, g1⟩ := hrel
    by_cases hlt : k < rs.length
    · obtain ⟨b, o, rfl, hb, hcell⟩ := HR.out.at k hlt
      obtain ⟨av, cv, hck, hSk⟩ := hcell k _ (List.getElem?_eq_getElem hlt)
      have HSk : Hid (Strs w w.heap.size (.slice av rs[k].length cv) rs[k]) := hSk
      have HZk : Hid (∀ s ∈ rs[k], s.size ≤ maxLen) := (HZ.out _ (List.getElem_mem hlt)).2
      have hm := (HZ.out _ (List.getElem_mem hlt)).1
      unfold maxLen at hm
      have HT : Hid (totR (rs.take (k + 1)) = totR (rs.take k) + (rs[k].length + lens rs[k])) := totR_take rs k hlt
      generalize totR (rs.take k) = T at HT g1 ⊢
      generalize hrow : rs[k] = r at HT HSk HZk hm hck
      have HRW : Hid (rs[k] = r) := hrow
      clear hcell hSk hrow
      by_cases q1 : 1048576 < r.length
      · go_wp2_with fail
        go_ret
        exact Guard.no
      by_cases q2 : 1048576 < 0 + rs.length + T + r.length
      · go_wp2_with fail
        go_ret
        exact Guard.no
      go_wp2_with fail
      go_loop [7, 9] (fun t i => ∃ j : Nat, j ≤ r.length ∧ i = .int .i64 j ∧ t = .int .i64 ((0 + rs.length + T + r.length + lens (r.take j) : Nat) : Int) ∧ 0 + rs.length + T + r.length + lens (r.take j) ≤ 1048576) (fun _ i => r.length - (intOf i).toNat)
      case atStart => exact ⟨0, Nat.zero_le _, rfl, by simp [lens], by simp [lens]; omega⟩
      case round =>
        obtain ⟨j, hj, rfl, rfl, g2⟩ := hrel
        by_cases hjl : j < r.length
        · obtain ⟨b', o', rfl, hb', hcell'⟩ := HSk.out.at j hjl
          have hcj : w.cell? ⟨b', o' + j, none⟩ = some (.string r[j]) := hcell' j _ (List.getElem?_eq_getElem hjl)
          have hmj := HZk.out _ (List.getElem_mem hjl)
          unfold maxLen at hmj
          have HL : Hid (lens (r.take (j + 1)) = lens (r.take j) + r[j].size) := lens_take r j hjl
          generalize lens (r.take j) = L at HL g2 ⊢
          clear hcell'
          by_cases q3 : 1048576 < r[j].size
          · go_wp2_with fail
            go_ret
            exact Guard.no
          by_cases q4 : 1048576 < 0 + rs.length + T + r.length + L + r[j].size
          · go_wp2_with fail
            go_ret
            exact Guard.no
          go_wp2_with fail
          go_round
          case rel => exact ⟨j + 1, by omega, by go_num, by rw [HL.out]; go_num, by have := HL.out; omega⟩
          case measure => simp [intOf]; omega
        · have hjj : j = r.length := by omega
          subst hjj
          rw [List.take_length] at g2 ⊢
          go_wp2_with fail
          go_round
          case rel => exact ⟨k + 1, by omega, by go_num, by rw [HT.out]; go_num, by have := HT.out; omega⟩
          case measure => simp [intOf]; omega
    · have hkk : k = rs.length := by omega
      subst hkk
      rw [List.take_length] at g1 ⊢
      generalize hTrs : totR rs = Trs at g1 ⊢
      have HTrs : Hid (totR rs = Trs) := hTrs
      clear hTrs hlt hk
      go_wp2_with fail
      go_ret
      exact Guard.yes (by rw [HTrs.out]; omega)


theorem lens_mem {ss : List ByteArray} {s : ByteArray} (h : s ∈ ss) : s.size ≤ lens ss := by
  induction ss with
  | nil => cases h
  | cons x xs ih =>
    have e : lens (x :: xs) = x.size + lens xs := by simp [lens]
    rcases List.mem_cons.1 h with rfl | h
    · omega
    · have := ih h; omega

/-- what a test answers: some bool, nothing touched -/
def SomeBool (w : World) (e : Ending) (w' : World) : Prop := ∃ r : Bool, e = .returned (.bool r) ∧ w' = w
theorem SomeBool.mk {w : World} (r : Bool) : SomeBool w (.returned (.bool r)) w := ⟨r, rfl, rfl⟩

set_option maxHeartbeats 2000000 in
theorem tooBig_any (v : Value) (rs : List (List ByteArray)) (w : World) (hs : rs.length + totR rs ≤ 1048576) (h : RowsV w w.heap.size v rs) :
    Calls Try.prog 7 #[v] w (SomeBool w) := by
  obtain ⟨a, c, rfl⟩ := h.shape
  have HR : Hid (RowsV w w.heap.size (.slice a rs.length c) rs) := h
  have HT : Hid (∀ r ∈ rs, r.length + lens r ≤ totR rs) := fun r hr => totR_mem hr
  have hcap := h.cap
  clear h
  by_cases q0 : 4096 < rs.length
  · go_enter Try.func7, Try.ntmps7
    go_wp2_with fail
    go_ret
    exact SomeBool.mk _
  go_enter Try.func7, Try.ntmps7
  go_wp2_with fail
  go_loop [3, 4] (fun t i => ∃ (k : Nat) (T : Int), k ≤ rs.length ∧ i = .int .i64 k ∧ t = .int .i64 T ∧ 0 ≤ T ∧ T ≤ 1048576) (fun _ i => rs.length - (intOf i).toNat)
  case atStart => exact ⟨0, 0, Nat.zero_le _, rfl, rfl, by omega, by omega⟩
  case round =>
    obtain ⟨k, T, hk, rfl, rfl, t0, t1⟩ := hrel
    by_cases hlt : k < rs.length
    · obtain ⟨b, o, rfl, hb, hcell⟩ := HR.out.at k hlt
      obtain ⟨av, cv, hck, hSk⟩ := hcell k _ (List.getElem?_eq_getElem hlt)
      have hrl := HT.out _ (List.getElem_mem hlt)
      have HSk : Hid (Strs w w.heap.size (.slice av rs[k].length cv) rs[k]) := hSk
      have hck2 := hSk.cap
      generalize hrow : rs[k] = r at hrl HSk hck hck2
      clear hcell hSk hrow
      have HL : Hid (∀ s ∈ r, s.size ≤ lens r) := fun s hs => lens_mem hs
      by_cases q1 : 1048576 < T + (24 + 16 * (r.length : Int))
      · go_wp2_with fail
        go_ret
        exact SomeBool.mk _
      go_wp2_with fail
      go_loop [3, 6] (fun t i => ∃ (j : Nat) (T : Int), j ≤ r.length ∧ i = .int .i64 j ∧ t = .int .i64 T ∧ 0 ≤ T ∧ T ≤ 1048576) (fun _ i => r.length - (intOf i).toNat)
      case atStart => exact ⟨0, _, Nat.zero_le _, rfl, rfl, by omega, by omega⟩
      case round =>
        obtain ⟨j, T', hj, rfl, rfl, u0, u1⟩ := hrel
        by_cases hjl : j < r.length
        · obtain ⟨b', o', rfl, hb', hcell'⟩ := HSk.out.at j hjl
          have hcj : w.cell? ⟨b', o' + j, none⟩ = some (.string r[j]) := hcell' j _ (List.getElem?_eq_getElem hjl)
          have hmj := HL.out _ (List.getElem_mem hjl)
          clear hcell'
          by_cases q3 : 1048576 < T' + (r[j].size : Int)
          · go_wp2_with fail
            go_ret
            exact SomeBool.mk _
          go_wp2_with fail
          go_round
          case rel => exact ⟨j + 1, _, by omega, by go_num, rfl, by omega, by omega⟩
          case measure => simp [intOf]; omega
        · go_wp2_with fail
          go_round
          case rel => exact ⟨k + 1, _, by omega, by go_num, rfl, u0, u1⟩
          case measure => simp [intOf]; omega
    · go_wp2_with fail
      go_ret
      exact SomeBool.mk _
end Go.Proofs.Qxb6601670a
