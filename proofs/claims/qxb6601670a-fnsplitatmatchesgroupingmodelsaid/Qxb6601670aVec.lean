import Derived.Test.Qxb6601670aCopy
namespace Go.Proofs.Qxb6601670a
open Go.RowKit
set_option linter.unusedVariables false

/-- a made row, filled with X up to k -/
def fillX (X : Nat → Value) (k : Nat) (j : Nat) : Value := if j < k then X j else .slice none 0 0
theorem fillX_step (X : Nat → Value) (k : Nat) (v : Value) (hv : X k = v) (j : Nat) : (if j = k then v else fillX X k j) = fillX X (k + 1) j := by
  unfold fillX
  by_cases e : j = k
  · subst e; simp [hv]
  · by_cases l : j < k
    · have : j < k + 1 := by omega
      simp [e, l, this]
    · have : ¬ j < k + 1 := by omega
      simp [e, l, this]

set_option maxHeartbeats 800000 in
/-- splitVectors: a new row of the very members -/
theorem vec_any (a : Option Addr) (c : Nat) (X : Nat → Value) (rs : List (List ByteArray)) (w : World) (hs : rs.length ≤ 1048576) (hR : RowsX w w.heap.size (.slice a rs.length c) X rs) :
    Calls Try.prog 10 #[.slice a rs.length c] w fun e w' => e = .returned (.slice (some ⟨w.heap.size, 0, none⟩) rs.length rs.length) ∧ Below w.heap.size w w' ∧ w'.rowIs w.heap.size 32 rs.length X := by
  have hmk := fun w => run_make_row' (P := Try.prog) 28 32 _ 24 Try.underlying28 Try.info32 rfl .i64 .i64 rs.length (by omega) (by omega) w
  have HR : Hid (RowsX w w.heap.size (.slice a rs.length c) X rs) := hR
  have hcap := hR.cap
  clear hR
  go_enter Try.func10, Try.ntmps10
  go_wp2_with fail
  go_loopw [4] (fun i wr => ∃ k : Nat, k ≤ rs.length ∧ i = .int .i64 k ∧ Hid (Below w.heap.size w wr) ∧ Hid (wr.rowIs w.heap.size 32 rs.length (fillX X k))) (fun i _ => rs.length - (intOf i).toNat)
  case atStart => exact ⟨0, Nat.zero_le _, rfl, (Below.refl _ _).alloc (Nat.le_refl _) _, (World.rowIs_made w _ _ 32).congr (fun i hi => by simp [fillX])⟩
  case round =>
    obtain ⟨k, hk, rfl, HB, HW⟩ := hrel
    by_cases hlt : k < rs.length
    · obtain ⟨b, o, rfl, hb, hcell⟩ := HR.out.at k hlt
      obtain ⟨av, cv, hxk⟩ := (HR.out.strs k hlt).shape
      have hck : wr.cell? ⟨b, o + k, none⟩ = some (.slice av rs[k].length cv) := by rw [HB.out.cell hb, hcell k hlt, hxk]
      have hfz := HW.out.frozen k
      have hcg := HW.out.cell hlt
      have HN : Hid ((wr.setCell ⟨w.heap.size, k, none⟩ (.slice av rs[k].length cv)).rowIs w.heap.size 32 rs.length (fillX X (k + 1))) := (HW.out.set k _).congr fun t _ => fillX_step X k _ hxk t
      have HB2 : Hid (Below w.heap.size w (wr.setCell ⟨w.heap.size, k, none⟩ (.slice av rs[k].length cv))) := HB.out.setCell (Nat.le_refl _) _
      clear hcell HB HW hxk hmk
      go_wp2_with fail
      go_roundw
      case rel => exact ⟨k + 1, by omega, by go_num, HB2.out, HN.out⟩
      case measure => simp [intOf]; omega
    · have hkk : k = rs.length := by omega
      subst hkk
      have HX : Hid (wr.rowIs w.heap.size 32 rs.length X) := HW.out.congr fun j hj => by simp [fillX, hj]
      clear HW
      go_wp2_with fail
      go_ret
      exact ⟨rfl, HB.out, HX.out⟩

set_option maxHeartbeats 800000 in
/-- splitSameVector on two slices of the same strings: true -/
theorem same_any (v1 v2 : Value) (ss : List ByteArray) (w : World) (hs : ss.length ≤ 1048576) (B1 B2 : Nat) (h1 : Strs w B1 v1 ss) (h2 : Strs w B2 v2 ss) :
    Calls Try.prog 11 #[v1, v2] w fun e w' => e = .returned (.bool true) ∧ ∃ n, w' = w.drewN n := by
  obtain ⟨a1, c1, rfl⟩ := h1.shape
  obtain ⟨a2, c2, rfl⟩ := h2.shape
  have H1 : Hid (Strs w B1 (.slice a1 ss.length c1) ss) := h1
  have H2 : Hid (Strs w B2 (.slice a2 ss.length c2) ss) := h2
  clear h1 h2
  go_enter Try.func11, Try.ntmps11
  go_wp2_with fail
  go_loopw [5] (fun i wx => ∃ j nq : Nat, j ≤ ss.length ∧ i = .int .i64 j ∧ wx = w.drewN nq) (fun i _ => ss.length - (intOf i).toNat)
  case atStart => exact ⟨0, 0, Nat.zero_le _, rfl, rfl⟩
  case round =>
    obtain ⟨j, nq, hj, rfl, rfl⟩ := hrel
    by_cases hjl : j < ss.length
    · obtain ⟨b1, o1, rfl, hB1, hC1⟩ := H1.out.at j hjl
      obtain ⟨b2, o2, rfl, hB2, hC2⟩ := H2.out.at j hjl
      have hx1 := hC1 j _ (List.getElem?_eq_getElem hjl)
      have hx2 := hC2 j _ (List.getElem?_eq_getElem hjl)
      clear hC1 hC2 hB1 hB2 H1 H2
      go_wp2_with fail
      go_quiet (fail)
      go_wp2_with fail
      go_roundw
      case rel => exact ⟨j + 1, _, by omega, by go_num, rfl⟩
      case measure => simp [intOf]; omega
    · go_wp2_with fail
      go_ret
      exact ⟨rfl, _, rfl⟩
end Go.Proofs.Qxb6601670a
