import Derived.Test.Qxb6601670aSmall
namespace Go.Proofs.Qxb6601670a
open Go.RowKit
set_option linter.unusedVariables false

/-- v is a slice whose cells are X; cell i reads as the strings rs[i]; all below B -/
def RowsX (w : World) (B : Nat) (v : Value) (X : Nat → Value) (rs : List (List ByteArray)) : Prop :=
  ∃ a c, v = .slice a rs.length c ∧ (rs.length ≤ c ∧ c ≤ 9223372036854775807) ∧
    (rs ≠ [] → ∃ b o, a = some ⟨b, o, none⟩ ∧ b < B ∧ ∀ i, i < rs.length → w.cell? ⟨b, o + i, none⟩ = some (X i)) ∧ ∀ i r, rs[i]? = some r → Strs w B (X i) r

theorem RowsX.later {w w' : World} {B : Nat} {v : Value} {X : Nat → Value} {rs : List (List ByteArray)} (h : RowsX w B v X rs) (hb : Below B w w') : RowsX w' B v X rs := by
  obtain ⟨a, c, hv, hc, hr, hs⟩ := h
  refine ⟨a, c, hv, hc, fun hne => ?_, fun i r hi => (hs i r hi).later hb⟩
  obtain ⟨b, o, ha, hB, hcell⟩ := hr hne
  exact ⟨b, o, ha, hB, fun i hi => by rw [hb.cell hB]; exact hcell i hi⟩

theorem RowsX.mono {w : World} {B B' : Nat} {v : Value} {X : Nat → Value} {rs : List (List ByteArray)} (h : RowsX w B v X rs) (hB : B ≤ B') : RowsX w B' v X rs := by
  obtain ⟨a, c, hv, hc, hr, hs⟩ := h
  refine ⟨a, c, hv, hc, fun hne => ?_, fun i r hi => (hs i r hi).mono hB⟩
  obtain ⟨b, o, ha, hb, hcell⟩ := hr hne
  exact ⟨b, o, ha, by omega, hcell⟩

theorem RowsX.shape {w : World} {B : Nat} {v : Value} {X : Nat → Value} {rs : List (List ByteArray)} (h : RowsX w B v X rs) : ∃ a c, v = .slice a rs.length c := by
  obtain ⟨a, c, hv, _⟩ := h
  exact ⟨a, c, hv⟩

theorem RowsX.cap {w : World} {B : Nat} {a : Option Addr} {n c : Nat} {X : Nat → Value} {rs : List (List ByteArray)} (h : RowsX w B (.slice a n c) X rs) : n ≤ c ∧ c ≤ 9223372036854775807 := by
  obtain ⟨a', c', hv, hc, _⟩ := h
  simp only [Value.slice.injEq] at hv
  obtain ⟨rfl, rfl, rfl⟩ := hv
  exact hc

theorem RowsX.at {w : World} {B : Nat} {a : Option Addr} {n c : Nat} {X : Nat → Value} {rs : List (List ByteArray)} (h : RowsX w B (.slice a n c) X rs) (i : Nat) (hi : i < n) :
    ∃ b o, a = some ⟨b, o, none⟩ ∧ b < B ∧ ∀ i, i < rs.length → w.cell? ⟨b, o + i, none⟩ = some (X i) := by
  obtain ⟨a', c', hv, hc, hr, _⟩ := h
  simp only [Value.slice.injEq] at hv
  obtain ⟨rfl, rfl, rfl⟩ := hv
  exact hr (by intro e; subst e; simp at hi)

theorem RowsX.strs {w : World} {B : Nat} {v : Value} {X : Nat → Value} {rs : List (List ByteArray)} (h : RowsX w B v X rs) (i : Nat) (hi : i < rs.length) : Strs w B (X i) rs[i] := by
  obtain ⟨a', c', hv, hc, hr, hs⟩ := h
  exact hs i _ (List.getElem?_eq_getElem hi)

/-- the copy so far -/
structure CRows (w : World) (g : Nat) (V : Nat → Value) (rs : List (List ByteArray)) (k : Nat) : Prop where
  row : w.rowIs g 30 rs.length (fun j => if j < k then V j else .slice none 0 0)
  each : ∀ j r, j < k → rs[j]? = some r → Strs w w.heap.size (V j) r ∧ ∀ q, (V j).ownBlock = some q → g + 1 ≤ q

/-- a member that is nil stays nil -/
theorem CRows.nilStep {wr : World} {g : Nat} {V : Nat → Value} {rs : List (List ByteArray)} {k : Nat} (h : CRows wr g V rs k) (hk : k < rs.length) (h0 : rs[k] = []) :
    CRows wr g (fun j => if j = k then .slice none 0 0 else V j) rs (k + 1) := by
  refine ⟨h.row.congr fun j hj => ?_, fun j r hj hr => ?_⟩
  · by_cases e : j = k
    · subst e; simp
    · by_cases l : j < k
      · have : j < k + 1 := by omega
        simp [e, l, this]
      · have : ¬ j < k + 1 := by omega
        simp [l, this]
  · by_cases e : j = k
    · subst e
      simp only [if_true]
      rw [List.getElem?_eq_getElem hk] at hr
      obtain rfl := Option.some.inj hr
      rw [h0]
      exact ⟨Strs.nil _ _, fun q hq => by cases hq⟩
    · simp only [if_neg e]
      exact h.each j r (by omega) hr

theorem CRows.step {wr w2 : World} {g : Nat} {V : Nat → Value} {rs : List (List ByteArray)} {k : Nat} {v : Value} (h : CRows wr g V rs k) (hk : k < rs.length)
    (h2 : Below wr.heap.size wr w2) (hv : Strs w2 w2.heap.size v rs[k]) (hq : ∀ q, v.ownBlock = some q → wr.heap.size ≤ q) :
    CRows (w2.setCell ⟨g, k, none⟩ v) g (fun j => if j = k then v else V j) rs (k + 1) := by
  have hgw := h.row.lt
  have hs := h2.size
  refine ⟨?_, ?_⟩
  · have hr : w2.rowIs g 30 rs.length (fun j => if j < k then V j else .slice none 0 0) := h.row.of_block (h2.block g hgw)
    refine (hr.set k v).congr fun j hj => ?_
    by_cases e : j = k
    · subst e; simp
    · by_cases l : j < k
      · have : j < k + 1 := by omega
        simp [e, l, this]
      · have : ¬ j < k + 1 := by omega
        simp [e, l, this]
  · intro j r hj hr
    have hsz : (w2.setCell ⟨g, k, none⟩ v).heap.size = w2.heap.size := by simp
    rw [hsz]
    by_cases e : j = k
    · subst e
      simp only [if_true]
      rw [List.getElem?_eq_getElem hk] at hr
      obtain rfl := Option.some.inj hr
      refine ⟨hv.setOther (fun hb => ?_) _, fun q hq' => ?_⟩
      · have := hq g hb; omega
      · have := hq q hq'; omega
    · simp only [if_neg e]
      obtain ⟨h3, h4⟩ := h.each j r (by omega) hr
      refine ⟨((h3.later h2).mono hs).setOther (fun hb => ?_) _, h4⟩
      have := h4 g hb
      omega

theorem CRows.done {w : World} {g : Nat} {V : Nat → Value} {rs : List (List ByteArray)} (h : CRows w g V rs rs.length) (hm : rs.length ≤ 1048576) : RowsX w w.heap.size (.slice (some ⟨g, 0, none⟩) rs.length rs.length) V rs := by
  refine ⟨some ⟨g, 0, none⟩, rs.length, rfl, ⟨Nat.le_refl _, by omega⟩, fun _ => ⟨g, 0, rfl, h.row.lt, fun i hi => ?_⟩, fun i r hi => ?_⟩
  · rw [Nat.zero_add, h.row.cell hi]
    simp [hi]
  · exact (h.each i r (List.getElem?_eq_some_iff.1 hi).1 hi).1

set_option maxHeartbeats 1000000 in
theorem copy_some (x : Addr) (c : Nat) (rs : List (List ByteArray)) (w : World) (hs : rs.length ≤ 1048576) (hl : ∀ r ∈ rs, r.length ≤ 1048576)
    (hR : RowsV w w.heap.size (.slice (some x) rs.length c) rs) :
    Calls Try.prog 8 #[.slice (some x) rs.length c] w fun e w' => e = .returned (.slice (some ⟨w.heap.size, 0, none⟩) rs.length rs.length) ∧
      Below w.heap.size w w' ∧ ∃ X, RowsX w' w'.heap.size (.slice (some ⟨w.heap.size, 0, none⟩) rs.length rs.length) X rs := by
  have hnil := fun w a n c => Lib.run_eql_slice_nil (P := Try.prog) w 22 30 a n c 0 0 Try.underlying22
  have hnil2 := fun w a n c => Lib.run_eql_slice_nil (P := Try.prog) w 30 9 a n c 0 0 Try.underlying30
  have hmk := fun w => run_make_row' (P := Try.prog) 22 30 _ 24 Try.underlying22 Try.info30 rfl .i64 .i64 rs.length (by omega) (by omega) w
  have HR : Hid (RowsV w w.heap.size (.slice (some x) rs.length c) rs) := hR
  have HL : Hid (∀ r ∈ rs, r.length ≤ 1048576) := hl
  clear hR hl
  go_enter Try.func8, Try.ntmps8
  go_wp2_with fail
  go_loopw [4] (fun i wr => ∃ k : Nat, k ≤ rs.length ∧ i = .int .i64 k ∧ Hid (Below w.heap.size w wr) ∧ Hid (∃ V, CRows wr w.heap.size V rs k)) (fun i _ => rs.length - (intOf i).toNat)
  case atStart => exact ⟨0, Nat.zero_le _, rfl, (Below.refl _ _).alloc (Nat.le_refl _) _, fun _ => .slice none 0 0, (World.rowIs_made w _ _ 30).congr (fun i hi => by simp), fun j r hj => by omega⟩
  case round =>
    obtain ⟨k, hk, rfl, HB, HV⟩ := hrel
    by_cases hlt : k < rs.length
    · obtain ⟨V, hV⟩ := HV.out
      have hsz := HB.out.size
      obtain ⟨b, o, hx, hb, hcell⟩ := (HR.out.later HB.out).at k hlt
      obtain rfl := Option.some.inj hx
      obtain ⟨av, cv, hck, hSk⟩ := hcell k _ (List.getElem?_eq_getElem hlt)
      have hrl := HL.out _ (List.getElem_mem hlt)
      have HH : Hid (CRows wr w.heap.size V rs k) := hV
      have HSk : Hid (Strs wr wr.heap.size (.slice av rs[k].length cv) rs[k]) := hSk.mono hsz
      clear hV HV hcell hSk
      cases av with
      | none =>
        have h0 : rs[k] = [] := by
          obtain ⟨a', c', hv, hc, hn, _⟩ := HSk.out
          simp only [Value.slice.injEq] at hv
          obtain ⟨rfl, _, rfl⟩ := hv
          have := hn rfl
          exact List.length_eq_zero_iff.1 (by omega)
        have HN : Hid (CRows wr w.heap.size (fun j => if j = k then .slice none 0 0 else V j) rs (k + 1)) := HH.out.nilStep hlt h0
        clear HH HSk h0
        go_wp2_with fail
        go_roundw
        case rel => exact ⟨k + 1, by omega, by go_num, HB.out, _, HN.out⟩
        case measure => simp [intOf]; omega
      | some y =>
        rename World => wo
        have hmk2 := fun w => run_make_row' (P := Try.prog) 30 9 _ 16 Try.underlying30 Try.info9 rfl .i64 .i64 rs[k].length (by omega) (by omega) w
        generalize hrow : rs[k] = r at HSk hck hrl hmk2
        have HRW : Hid (rs[k] = r) := hrow
        clear hrow
        go_wp2_with fail
        go_loopw [7] (fun i WX => ∃ j : Nat, j ≤ r.length ∧ i = .int .i64 j ∧ Hid (Below wo.heap.size wo WX) ∧ Hid (WX.rowIs wo.heap.size 9 r.length (fill r j)) ∧ WX.heap.size = wo.heap.size + 1) (fun i _ => r.length - (intOf i).toNat)
        case atStart => exact ⟨0, Nat.zero_le _, rfl, (Below.refl _ _).alloc (Nat.le_refl _) _, (World.rowIs_made wo _ _ 9).congr (fun i hi => by simp [fill]), by simp⟩
        case round =>
          obtain ⟨j, hj, rfl, HBx, HW, hzx⟩ := hrel
          by_cases hjl : j < r.length
          · obtain ⟨b', o', hy, hb', hcell'⟩ := HSk.out.at j hjl
            obtain rfl := Option.some.inj hy
            have hcj : wr.cell? ⟨b', o' + j, none⟩ = some (.string r[j]) := by rw [HBx.out.cell hb']; exact hcell' j _ (List.getElem?_eq_getElem hjl)
            have hfz := HW.out.frozen j
            have hcg := HW.out.cell hjl
            have HN : Hid ((wr.setCell ⟨wo.heap.size, j, none⟩ (.string r[j])).rowIs wo.heap.size 9 r.length (fill r (j + 1))) := (HW.out.set j _).congr fun t _ => fill_step r j hjl t
            have HB2 : Hid (Below wo.heap.size wo (wr.setCell ⟨wo.heap.size, j, none⟩ (.string r[j]))) := HBx.out.setCell (Nat.le_refl _) _
            clear hcell' HBx HW
            go_wp2_with fail
            go_roundw
            case rel => exact ⟨j + 1, by omega, by go_num, HB2.out, HN.out, by simp [hzx]⟩
            case measure => simp [intOf]; omega
          · have hjj : j = r.length := by omega
            subst hjj
            have hgw := HH.out.row.lt
            have hfz2 : wr.frozen? ⟨w.heap.size, k, none⟩ = false := by rw [HBx.out.frozen hgw]; exact HH.out.row.frozen k
            have hcg2 : wr.cell? ⟨w.heap.size, k, none⟩ = some (.slice none 0 0) := by rw [HBx.out.cell hgw, HH.out.row.cell hlt]; simp
            have HSn : Hid (Strs wr wr.heap.size (.slice (some ⟨wo.heap.size, 0, none⟩) r.length r.length) r) := by rw [hzx]; exact Strs.of_row (by omega) rfl HW.out
            have HN : Hid (CRows (wr.setCell ⟨w.heap.size, k, none⟩ (.slice (some ⟨wo.heap.size, 0, none⟩) r.length r.length)) w.heap.size (fun j => if j = k then .slice (some ⟨wo.heap.size, 0, none⟩) r.length r.length else V j) rs (k + 1)) :=
              HH.out.step hlt HBx.out (by rw [HRW.out]; exact HSn.out) (fun q hq => by cases hq; exact Nat.le_refl _)
            have HB2 : Hid (Below w.heap.size w (wr.setCell ⟨w.heap.size, k, none⟩ (.slice (some ⟨wo.heap.size, 0, none⟩) r.length r.length))) := (HB.out.trans (HBx.out.mono hsz)).setCell (Nat.le_refl _) _
            clear HBx HW HSn HH HB HSk HR HL hmk hmk2 hnil hnil2 hck hgw
            go_wp2_with fail
            go_roundw
            case rel => exact ⟨k + 1, by omega, by go_num, HB2.out, _, HN.out⟩
            case measure => simp [intOf]; omega
    · have hkk : k = rs.length := by omega
      subst hkk
      obtain ⟨V, hV⟩ := HV.out
      have HD : Hid (RowsX wr wr.heap.size (.slice (some ⟨w.heap.size, 0, none⟩) rs.length rs.length) V rs) := hV.done hs
      clear hV HV
      go_wp2_with fail
      go_ret
      exact ⟨rfl, HB.out, V, HD.out⟩

theorem copy_nil (w : World) : Calls Try.prog 8 #[.slice none 0 0] w fun e w' => e = .returned (.slice none 0 0) ∧ w' = w := by
  have hnil := fun w a n c => Lib.run_eql_slice_nil (P := Try.prog) w 22 30 a n c 0 0 Try.underlying22
  go_enter Try.func8, Try.ntmps8
  go_wp2
  go_ret
  exact ⟨rfl, rfl⟩

theorem copy_any (v : Value) (rs : List (List ByteArray)) (w : World) (hs : rs.length ≤ 1048576) (hl : ∀ r ∈ rs, r.length ≤ 1048576) (h : RowsV w w.heap.size v rs) :
    Calls Try.prog 8 #[v] w fun e w' => ∃ v', e = .returned v' ∧ Below w.heap.size w w' ∧ ∃ X, RowsX w' w'.heap.size v' X rs := by
  obtain ⟨a, c, rfl, hc, hn, hr⟩ := id h
  cases a with
  | none =>
    have h0 := hn rfl
    subst h0
    have hl : rs.length = 0 := by omega
    have hss : rs = [] := List.length_eq_zero_iff.1 hl
    subst hss
    refine (copy_nil w).mono ?_
    rintro e w' ⟨rfl, rfl⟩
    exact ⟨_, rfl, Below.refl _ _, fun _ => .slice none 0 0, none, 0, rfl, ⟨Nat.le_refl _, by omega⟩, fun h => absurd rfl h, fun i r hi => by simp at hi⟩
  | some x =>
    refine (copy_some x c rs w hs hl h).mono ?_
    rintro e w' ⟨rfl, hb, hR⟩
    exact ⟨_, rfl, hb, hR⟩
end Go.Proofs.Qxb6601670a
