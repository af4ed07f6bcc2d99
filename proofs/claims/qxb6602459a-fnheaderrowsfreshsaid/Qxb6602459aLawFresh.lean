import Derived.Test.Qxb6602459aMarks
import Derived.Test.Qxb6602459aSmall11
import Derived.Test.Qxb6602459aClone
namespace Go.Proofs.Qxb6602459a
open Go.RowKit
set_option linter.unusedVariables false

set_option maxHeartbeats 4000000 in
set_option maxRecDepth 100000 in
theorem walkFresh (v1 v2 : Value) (hdr opt : List ByteArray) (w : World) (z1 : ∀ s ∈ hdr, s.size ≤ maxLen) (z2 : ∀ s ∈ opt, s.size ≤ maxLen) (m1 : hdr.length ≤ maxLen) (m2 : opt.length ≤ maxLen)
    (h1 : Strs w w.heap.size v1 hdr) (h2 : Strs w w.heap.size v2 opt) :
    Calls Try.prog 4 #[v1, v2] w fun e w' => e = .returned (.bool true) ∧ Below w.heap.size w w' := by
  obtain ⟨a1, c1, rfl⟩ := h1.shape
  obtain ⟨a2, c2, rfl⟩ := h2.shape
  have m1' := m1
  have m2' := m2
  unfold maxLen at m1' m2'
  have Hz1 : Hid (∀ s ∈ hdr, s.size ≤ maxLen) := z1
  have Hz2 : Hid (∀ s ∈ opt, s.size ≤ maxLen) := z2
  clear z1 z2
  go_enter Try.func4, Try.ntmps4
  go_wp2_with fail
  refine (small11_any _ _ hdr opt w Hz1.out Hz2.out m1 m2 h1 h2).mono ?_
  rintro e w' ⟨r, rfl, hw, hg⟩
  replace hw := hw.symm
  subst hw
  cases r with
  | false =>
    go_wp2_with fail
    go_ret
    exact ⟨rfl, Below.refl _ _⟩
  | true =>
    have hsm := hg rfl
    clear hg
    by_cases q1 : 4096 < hdr.length
    · go_wp2_with fail
      go_ret
      exact ⟨rfl, Below.refl _ _⟩
    by_cases q2 : 1024 < opt.length
    · go_wp2_with fail
      go_ret
      exact ⟨rfl, Below.refl _ _⟩
    go_wp2_with fail
    refine (strsBytes_any 0 _ hdr _ (by omega) (by omega) Hz1.out h1).mono ?_
    rintro e w' ⟨r, rfl, g0, g1, hw⟩
    replace hw := hw.symm
    subst hw
    go_wp2_with fail
    refine (strsBytes_any r _ opt _ g0 (by omega) Hz2.out h2).mono ?_
    rintro e w' ⟨r2, rfl, g2, g3, hw⟩
    replace hw := hw.symm
    subst hw
    by_cases q3 : 1048576 < r2
    · go_wp2_with fail
      go_ret
      exact ⟨rfl, Below.refl _ _⟩
    go_wp2_with fail
    · go_ret
      exact ⟨rfl, Below.refl _ _⟩
    refine (clone_any _ hdr w (by omega) h1).mono ?_
    rintro e wa ⟨va, rfl, hba, hSa⟩
    obtain ⟨aa, ca, rfl⟩ := hSa.shape
    go_wp2_with fail
    have hza := hba.size
    refine (clone_any _ opt wa (by omega) ((h2.later hba).mono hza)).mono ?_
    rintro e wb ⟨vb, rfl, hbb, hSb⟩
    obtain ⟨ab, cb, rfl⟩ := hSb.shape
    have hzb := hbb.size
    have hSa2 := (hSa.later hbb).mono hzb
    go_wp2_with fail
    refine (clone_any _ hdr wb (by omega) hSa2).mono ?_
    rintro e wd ⟨vd, rfl, hbd, hSd⟩
    obtain ⟨ad, cd, rfl⟩ := hSd.shape
    have hzd := hbd.size
    have hSa3 := (hSa2.later hbd).mono hzd
    have hSb3 := (hSb.later hbd).mono hzd
    go_wp2_with fail
    refine (clone_any _ opt wd (by omega) hSb3).mono ?_
    rintro e we ⟨ve, rfl, hbe, hSe⟩
    obtain ⟨ae, ce, rfl⟩ := hSe.shape
    have hze := hbe.size
    have hSa4 := (hSa3.later hbe).mono hze
    have hSb4 := (hSb3.later hbe).mono hze
    have hSd4 := (hSd.later hbe).mono hze
    go_wp2_with fail
    refine (zzhrows_any aa ab ca cb hdr opt we (by omega) (by omega) hSa4 hSb4).mono ?_
    rintro e wc ⟨rfl, hbc, V, hV⟩
    have hbe0 : Below w.heap.size w we := ((hba.trans (hbb.mono hza)).trans (hbd.mono (by omega))).trans (hbe.mono (by omega))
    have hwe : w.heap.size ≤ we.heap.size := by omega
    have HA : Hid (Strs we we.heap.size (.slice aa hdr.length ca) hdr) := hSa4
    have HO : Hid (Strs we we.heap.size (.slice ab opt.length cb) opt) := hSb4
    have HA' : Hid (Strs we we.heap.size (.slice ad hdr.length cd) hdr) := hSd4
    have HO' : Hid (Strs we we.heap.size (.slice ae opt.length ce) opt) := hSe
    have HM0 : Hid (Marks wc we.heap.size V hdr.length opt.length 0 0) := Marks.start hV
    have HAp : Hid (∀ i j, i < j → j < opt.length + 1 → ∀ q, (V i).ownBlock = some q → (V j).ownBlock ≠ some q) := hV.apart
    have HBe : Hid (Below w.heap.size w we) := hbe0
    have HBc : Hid (Below we.heap.size we wc) := hbc
    generalize hG : we.heap.size = G at HA HO HA' HO' HM0 HBc hwe ⊢
    clear hba hSa hbb hSb hSa2 hbc hV hza hzb h1 h2 Hz1 Hz2 g0 g1 g2 g3 q3 m1 m2 m1' m2' hbd hSd hzd hSa3 hSb3 hbe hSe hze hSa4 hSb4 hSd4 hbe0
    have HG : Hid (we.heap.size = G) := hG
    clear hG
    go_wp2_with fail
    go_loop [8] (fun i => ∃ k : Nat, k ≤ opt.length + 1 ∧ i = .int .i64 k) (fun i => opt.length + 1 - (intOf i).toNat)
    case atStart => exact ⟨0, Nat.zero_le _, rfl⟩
    case round =>
      obtain ⟨k, hk, rfl⟩ := hrel
      by_cases hlt : k < opt.length + 1
      · obtain ⟨av, cv, hvk, _⟩ := HM0.out.at hlt
        have hcg : wc.cell? ⟨G, k, none⟩ = some (.slice av (hdr.length + k) cv) := by rw [← hvk]; exact HM0.out.row.cell hlt
        clear hvk
        go_wp2_with fail
        go_round
        case rel => exact ⟨k + 1, by omega, by go_num⟩
        case measure => simp [intOf]; omega
      · have hkk : k = opt.length + 1 := by omega
        subst hkk
        clear hlt hk
        go_wp2_with fail
        go_loopw [9] (fun i wr => ∃ k : Nat, k ≤ opt.length + 1 ∧ i = .int .i64 k ∧ Hid (Marks wr G V hdr.length opt.length k 0) ∧ Hid (Below G we wr)) (fun i _ => opt.length + 1 - (intOf i).toNat)
        case atStart => exact ⟨0, Nat.zero_le _, rfl, HM0.out, HBc.out⟩
        case round =>
          obtain ⟨k, hk, rfl, HM, HB⟩ := hrel
          by_cases hlt : k < opt.length + 1
          · clear HM0 HBc
            go_wp2_with fail
            refine (itoa_any k wr (by omega)).mono ?_
            rintro e wi ⟨rfl, hbi⟩
            have HM1 : Hid (Marks wi G V hdr.length opt.length k 0) := HM.out.below hbi
            have HB1 : Hid (Below G we wi) := HB.out.trans (hbi.mono (Nat.le_of_lt HM.out.row.lt))
            clear hbi HM HB
            go_wp2_with fail
            go_loopw [11] (fun i wr => ∃ j : Nat, j ≤ hdr.length + k ∧ i = .int .i64 j ∧ Hid (Marks wr G V hdr.length opt.length k j) ∧ Hid (Below G we wr)) (fun i _ => hdr.length + k - (intOf i).toNat)
            case atStart => exact ⟨0, Nat.zero_le _, rfl, HM1.out, HB1.out⟩
            case round =>
              obtain ⟨j, hj, rfl, HM, HB⟩ := hrel
              clear HM1 HB1
              obtain ⟨av, cv, hvk, hav⟩ := HM.out.at hlt
              have hcg : wr.cell? ⟨G, k, none⟩ = some (.slice av (hdr.length + k) cv) := by rw [← hvk]; exact HM.out.row.cell hlt
              by_cases hjl : j < hdr.length + k
              · obtain ⟨q, rfl, hq⟩ := hav (by omega)
                obtain ⟨⟨u, hu⟩, hfz, _⟩ := HM.out.cell hlt hvk hjl
                have HN : Hid (Marks (wr.setCell ⟨q, j, none⟩ (.string (mark k))) G V hdr.length opt.length k (j + 1)) := HM.out.store hlt hvk hjl HAp.out
                have HB2 : Hid (Below G we (wr.setCell ⟨q, j, none⟩ (.string (mark k)))) := HB.out.setCell (show G ≤ q by omega) _
                clear hvk HM HB
                go_wp2_with fail
                go_roundw
                case rel => exact ⟨j + 1, by omega, by go_num, HN.out, HB2.out⟩
                case measure => simp [intOf]; omega
              · have hjj : j = hdr.length + k := by omega
                subst hjj
                clear hvk hav hjl hj
                go_wp2_with fail
                go_roundw
                case rel => exact ⟨k + 1, by omega, by go_num, HM.out.next, HB.out⟩
                case measure => simp [intOf]; omega
          · have hkk : k = opt.length + 1 := by omega
            subst hkk
            clear hlt hk HM0 HBc
            go_wp2_with fail
            go_loopw [12] (fun i wr => ∃ k : Nat, k ≤ opt.length + 1 ∧ i = .int .i64 k ∧ Hid (Marks wr G V hdr.length opt.length (opt.length + 1) 0) ∧ Hid (Below G we wr)) (fun i _ => opt.length + 1 - (intOf i).toNat)
            case atStart => exact ⟨0, Nat.zero_le _, rfl, HM.out, HB.out⟩
            case round =>
              clear HM HB
              obtain ⟨k, hk, rfl, HM, HB⟩ := hrel
              by_cases hlt : k < opt.length + 1
              · go_wp2_with fail
                refine (itoa_any k wr (by omega)).mono ?_
                rintro e wi ⟨rfl, hbi⟩
                have HM1 : Hid (Marks wi G V hdr.length opt.length (opt.length + 1) 0) := HM.out.below hbi
                have HB1 : Hid (Below G we wi) := HB.out.trans (hbi.mono (Nat.le_of_lt HM.out.row.lt))
                clear hbi HM HB
                obtain ⟨av, cv, hvk, hav⟩ := HM1.out.at hlt
                have hcg : wi.cell? ⟨G, k, none⟩ = some (.slice av (hdr.length + k) cv) := by rw [← hvk]; exact HM1.out.row.cell hlt
                have HVK : Hid (V k = .slice av (hdr.length + k) cv) := hvk
                have HAV : Hid (0 < hdr.length + k → ∃ q, av = some ⟨q, 0, none⟩ ∧ G + 1 ≤ q) := hav
                clear hvk hav
                go_wp2_with fail
                go_loop [14] (fun i => ∃ j : Nat, j ≤ hdr.length + k ∧ i = .int .i64 j) (fun i => hdr.length + k - (intOf i).toNat)
                case atStart => exact ⟨0, Nat.zero_le _, rfl⟩
                case round =>
                  obtain ⟨j, hj, rfl⟩ := hrel
                  by_cases hjl : j < hdr.length + k
                  · obtain ⟨q, rfl, hq⟩ := HAV.out (by omega)
                    have hu := (HM1.out.cell hlt HVK.out hjl).2.2 hlt
                    clear HVK HAV
                    go_wp2_with fail
                    go_round
                    case rel => exact ⟨j + 1, by omega, by go_num⟩
                    case measure => simp [intOf]; omega
                  · go_wp2_with fail
                    go_roundw
                    case rel => exact ⟨k + 1, by omega, by omega⟩
                    case measure => simp [intOf]; omega
              · have hkk : k = opt.length + 1 := by omega
                subst hkk
                clear hlt hk HM
                have hsz := HB.out.size
                have HA1 : Hid (Strs wr G (.slice aa hdr.length ca) hdr) := HA.out.later HB.out
                have HO1 : Hid (Strs wr G (.slice ab opt.length cb) opt) := HO.out.later HB.out
                have HA2 : Hid (Strs wr G (.slice ad hdr.length cd) hdr) := HA'.out.later HB.out
                have HO2 : Hid (Strs wr G (.slice ae opt.length ce) opt) := HO'.out.later HB.out
                have HBf : Hid (Below w.heap.size w wr) := HBe.out.trans (HB.out.mono hwe)
                clear HA HO HA' HO' HB HBe HAp hsz
                go_wp2_with fail
                go_loopw [15] (fun i wx => ∃ j nq : Nat, j ≤ hdr.length ∧ i = .int .i64 j ∧ wx = wr.drewN nq) (fun i _ => hdr.length - (intOf i).toNat)
                case atStart => exact ⟨0, 0, Nat.zero_le _, rfl, rfl⟩
                case round =>
                  obtain ⟨j, nq, hj, rfl, rfl⟩ := hrel
                  by_cases hjl : j < hdr.length
                  · obtain ⟨b1, o1, rfl, hB1, hC1⟩ := HA1.out.at j hjl
                    obtain ⟨b2, o2, rfl, hB2, hC2⟩ := HA2.out.at j hjl
                    have hx1 := hC1 j _ (List.getElem?_eq_getElem hjl)
                    have hx2 := hC2 j _ (List.getElem?_eq_getElem hjl)
                    clear hC1 hC2 hB1 hB2 HA1 HA2 HO1 HO2 HBf
                    go_wp2_with fail
                    go_quiet (fail)
                    go_wp2_with fail
                    go_roundw
                    case rel => exact ⟨j + 1, _, by omega, by go_num, rfl⟩
                    case measure => simp [intOf]; omega
                  · go_wp2_with fail
                    go_loopw [16] (fun i wx => ∃ j nq : Nat, j ≤ opt.length ∧ i = .int .i64 j ∧ wx = wr.drewN nq) (fun i _ => opt.length - (intOf i).toNat)
                    case atStart => exact ⟨0, nq, Nat.zero_le _, rfl, rfl⟩
                    case round =>
                      obtain ⟨j', nq, hj', rfl, rfl⟩ := hrel
                      by_cases hjl' : j' < opt.length
                      · obtain ⟨b1, o1, rfl, hB1, hC1⟩ := HO1.out.at j' hjl'
                        obtain ⟨b2, o2, rfl, hB2, hC2⟩ := HO2.out.at j' hjl'
                        have hx1 := hC1 j' _ (List.getElem?_eq_getElem hjl')
                        have hx2 := hC2 j' _ (List.getElem?_eq_getElem hjl')
                        clear hC1 hC2 hB1 hB2 HA1 HA2 HO1 HO2 HBf
                        go_wp2_with fail
                        go_quiet (fail)
                        go_wp2_with fail
                        go_roundw
                        case rel => exact ⟨j' + 1, _, by omega, by go_num, rfl⟩
                        case measure => simp [intOf]; omega
                      · go_wp2_with fail
                        go_ret
                        exact ⟨rfl, below_drewN HBf.out nq⟩
end Go.Proofs.Qxb6602459a
