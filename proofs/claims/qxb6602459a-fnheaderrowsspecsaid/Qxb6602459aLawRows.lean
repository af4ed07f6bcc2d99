import Derived.Test.Qxb6602459aHrows
import Derived.Test.Qxb6602459aSmall7
import Derived.Test.Qxb6602459aClone
namespace Go.Proofs.Qxb6602459a
open Go.RowKit
set_option linter.unusedVariables false

set_option maxHeartbeats 2000000 in
theorem walkRows (v1 v2 : Value) (hdr opt : List ByteArray) (w : World) (z1 : ∀ s ∈ hdr, s.size ≤ maxLen) (z2 : ∀ s ∈ opt, s.size ≤ maxLen) (m1 : hdr.length ≤ maxLen) (m2 : opt.length ≤ maxLen)
    (h1 : Strs w w.heap.size v1 hdr) (h2 : Strs w w.heap.size v2 opt) :
    Calls Try.prog 3 #[v1, v2] w fun e w' => e = .returned (.bool true) ∧ Below w.heap.size w w' := by
  obtain ⟨a1, c1, rfl, hc1, _, _⟩ := id h1
  obtain ⟨a2, c2, rfl, hc2, _, _⟩ := id h2
  have m1' := m1
  have m2' := m2
  unfold maxLen at m1' m2'
  have Hz1 : Hid (∀ s ∈ hdr, s.size ≤ maxLen) := z1
  have Hz2 : Hid (∀ s ∈ opt, s.size ≤ maxLen) := z2
  clear z1 z2
  go_enter Try.func3, Try.ntmps3
  go_wp2_with fail
  refine (small7_any _ _ hdr opt w Hz1.out Hz2.out m1 m2 h1 h2).mono ?_
  rintro e w' ⟨r, rfl, hw, hg⟩
  replace hw := hw.symm
  subst hw
  cases r with
  | false =>
    go_wp2_with fail
    go_ret
    exact ⟨rfl, Below.refl _ _⟩
  | true =>
    have hsm := hg rfl
    clear hg
    by_cases q1 : 4096 < hdr.length
    · go_wp2_with fail
      go_ret
      exact ⟨rfl, Below.refl _ _⟩
    by_cases q2 : 1024 < opt.length
    · go_wp2_with fail
      go_ret
      exact ⟨rfl, Below.refl _ _⟩
    go_wp2_with fail
    refine (strsBytes_any 0 _ hdr _ (by omega) (by omega) Hz1.out h1).mono ?_
    rintro e w' ⟨r, rfl, g0, g1, hw⟩
    replace hw := hw.symm
    subst hw
    go_wp2_with fail
    refine (strsBytes_any r _ opt _ g0 (by omega) Hz2.out h2).mono ?_
    rintro e w' ⟨r2, rfl, g2, g3, hw⟩
    replace hw := hw.symm
    subst hw
    by_cases q3 : 1048576 < r2
    · go_wp2_with fail
      go_ret
      exact ⟨rfl, Below.refl _ _⟩
    go_wp2_with fail
    · go_ret
      exact ⟨rfl, Below.refl _ _⟩
    have e1 := @Nat.le_refl 0
    refine (clone_any _ hdr w (by omega) h1).mono ?_
    rintro e wa ⟨va, rfl, hba, hSa⟩
    obtain ⟨aa, ca, rfl, _, _, _⟩ := id hSa
    go_wp2_with fail
    have hza := hba.size
    refine (clone_any _ opt wa (by omega) ((h2.later hba).mono hza)).mono ?_
    rintro e wb ⟨vb, rfl, hbb, hSb⟩
    obtain ⟨ab, cb, rfl, _, _, _⟩ := id hSb
    have hzb := hbb.size
    have hSa2 := (hSa.later hbb).mono hzb
    go_wp2_with fail
    refine (zzhrows_any aa ab ca cb hdr opt wb (by omega) (by omega) hSa2 hSb).mono ?_
    rintro e wc ⟨rfl, hbc, V, hV⟩
    have hzc := hbc.size
    have HA : Hid (Strs wc wc.heap.size (.slice aa hdr.length ca) hdr) := (hSa2.later hbc).mono hzc
    have HO : Hid (Strs wc wc.heap.size (.slice ab opt.length cb) opt) := (hSb.later hbc).mono hzc
    have HV : Hid (HRows wc wb.heap.size V hdr opt (opt.length + 1)) := hV
    have HBel : Hid (Below w.heap.size w wc) := (hba.trans (hbb.mono hza)).trans (hbc.mono (Nat.le_trans hza hzb))
    clear hba hSa hbb hSb hSa2 hbc hV hza hzb hzc h1 h2 Hz1 Hz2 g0 g1 g2 g3 q3 e1 hc1 hc2 m1 m2 m1' m2'
    go_wp2_with fail
    go_loopw [6] (fun i wr => ∃ k nq : Nat, k ≤ opt.length + 1 ∧ i = .int .i64 k ∧ wr = wc.drewN nq) (fun i _ => opt.length + 1 - (intOf i).toNat)
    case atStart => exact ⟨0, 0, Nat.zero_le _, rfl, rfl⟩
    case round =>
      obtain ⟨k, nq, hk, rfl, rfl⟩ := hrel
      by_cases hlt : k < opt.length + 1
      · have hcg : wc.cell? ⟨wb.heap.size, k, none⟩ = some (V k) := by
          have := HV.out.row.cell hlt
          simpa [hlt] using this
        obtain ⟨av, cv, hvk⟩ := owns_slice (HV.out.own k hlt)
        have HR : Hid (Strs wc wc.heap.size (.slice av (hdr.length + k) cv) (hdr ++ opt.take k)) := by
          have := HV.out.own k hlt
          rw [hvk] at this
          exact Strs.of_owns (by rw [List.length_append, List.length_take_of_le (by omega)]) this
        rw [hvk] at hcg
        clear hvk HV
        go_wp2_with fail
        go_loopw [8] (fun i wr => ∃ j nq : Nat, j ≤ hdr.length ∧ i = .int .i64 j ∧ wr = wc.drewN nq) (fun i _ => hdr.length - (intOf i).toNat)
        case atStart => exact ⟨0, nq, Nat.zero_le _, rfl, rfl⟩
        case round =>
          obtain ⟨j, nq, hj, rfl, rfl⟩ := hrel
          by_cases hjl : j < hdr.length
          · obtain ⟨b1, o1, rfl, hB1, hC1⟩ := HR.out.at j (by omega)
            obtain ⟨b2, o2, rfl, hB2, hC2⟩ := HA.out.at j hjl
            have hx1 : wc.cell? ⟨b1, o1 + j, none⟩ = some (.string hdr[j]) := hC1 j _ (by rw [List.getElem?_append_left hjl]; exact List.getElem?_eq_getElem hjl)
            have hx2 : wc.cell? ⟨b2, o2 + j, none⟩ = some (.string hdr[j]) := hC2 j _ (List.getElem?_eq_getElem hjl)
            have hjk : j < hdr.length + k := by omega
            clear hC1 hC2 hB1 hB2 HA HR HO HBel hcg
            go_wp2_with fail
            go_quiet (fail)
            go_wp2_with fail
            go_roundw
            case rel => exact ⟨j + 1, _, by omega, by go_num, rfl⟩
            case measure => simp [intOf]; omega
          · go_wp2_with fail
            go_loopw [9] (fun i wr => ∃ j nq : Nat, j ≤ k ∧ i = .int .i64 j ∧ wr = wc.drewN nq) (fun i _ => k - (intOf i).toNat)
            case atStart => exact ⟨0, nq, Nat.zero_le _, rfl, rfl⟩
            case round =>
              obtain ⟨j', nq, hj', rfl, rfl⟩ := hrel
              by_cases hjl' : j' < k
              · obtain ⟨b1, o1, rfl, hB1, hC1⟩ := HR.out.at 0 (by omega)
                obtain ⟨b2, o2, rfl, hB2, hC2⟩ := HO.out.at j' (by omega)
                have hjo : j' < opt.length := by omega
                have hx1 : wc.cell? ⟨b1, o1 + (hdr.length + j'), none⟩ = some (.string opt[j']) := hC1 (hdr.length + j') _ (by
                  rw [List.getElem?_append_right (by omega), Nat.add_sub_cancel_left, List.getElem?_take, if_pos hjl']; exact List.getElem?_eq_getElem hjo)
                have hx2 : wc.cell? ⟨b2, o2 + j', none⟩ = some (.string opt[j']) := hC2 j' _ (List.getElem?_eq_getElem hjo)
                have hjk : hdr.length + j' < hdr.length + k := by omega
                clear hC1 hC2 hB1 hB2 HA HR HO HBel hcg
                go_wp2_with fail
                go_quiet (fail)
                go_wp2_with fail
                go_roundw
                case rel => exact ⟨j' + 1, _, by omega, by go_num, rfl⟩
                case measure => simp [intOf]; omega
              · go_wp2_with fail
                go_roundw
                case rel => exact ⟨k + 1, _, by omega, by go_num, rfl⟩
                case measure => simp [intOf]; omega
      · go_wp2_with fail
        go_ret
        exact ⟨rfl, below_drewN HBel.out nq⟩
end Go.Proofs.Qxb6602459a
