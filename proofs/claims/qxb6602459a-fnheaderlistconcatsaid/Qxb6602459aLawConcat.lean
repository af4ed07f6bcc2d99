import Derived.Test.Qxb6602459aList
import Derived.Test.Qxb6602459aSmall19
namespace Go.Proofs.Qxb6602459a
open Go.RowKit
set_option linter.unusedVariables false

/-! ### the plain law -/
theorem join_append (xs ys : List (List UInt8)) (sep : List UInt8) (h1 : xs ≠ []) (h2 : ys ≠ []) : Lib.join (xs ++ ys) sep = Lib.join xs sep ++ sep ++ Lib.join ys sep := by
  cases xs with
  | nil => exact absurd rfl h1
  | cons x xs =>
    cases ys with
    | nil => exact absurd rfl h2
    | cons y ys =>
      rw [List.cons_append, Lib.join_cons, Lib.join_cons, Lib.join_cons]
      simp [Lib.joinTail]

theorem hlist_data (rs : List (List ByteArray)) : (hlist rs).data.toList = Lib.join (rs.map fun r => (joinB r comma).data.toList) orSep.data.toList := by
  unfold hlist
  rw [joinB]
  simp only [List.map_map]
  rfl

theorem hlist_append (ra rb : List (List ByteArray)) (h1 : ra ≠ []) (h2 : rb ≠ []) :
    ((hlist (ra ++ rb)).toList == (hlist ra ++ { data := #[32, 111, 114, 32] } ++ hlist rb).toList) = true := by
  rw [ByteArray.toList_eq, ByteArray.toList_eq, beq_iff_eq, hlist_data, List.map_append, join_append _ _ _ (by simpa using h1) (by simpa using h2), ← hlist_data, ← hlist_data]
  simp [orSep]

theorem hlist_size (rs : List (List ByteArray)) : (hlist rs).size ≤ 4 * rs.length + totR rs := by
  have h := joinB_size (rs.map fun r => joinB r comma) orSep
  have h2 := lens_joined rs
  have h3 : orSep.size = 4 := rfl
  rw [h3, List.length_map] at h
  unfold hlist
  omega

/-! ### appending a row -/
theorem append_one {w : World} {ops : Array Oper} {rest : List Oper} {o : Oper} {a : Act} {Q : Exit → Act → World → Prop} (hgd : o.guard = none) (s x : Operand)
    (ho : o.op = .call { callee := .builtin .append, args := #[s, x], argTypes := #[26, 26] }) (base : Nat) (v : Value) (n : Nat) (xs : List Value) (hs : a.eval s = v) (hown : w.ownsRow base 22 1 v n xs)
    (ad : Addr) (u : Value) (hx : a.eval x = .slice (some ad) 1 1) (hc : w.cell? ad = some u) (h1 : u.oneCell' = true) (hn : n + 1 ≤ 8388608) (hbase : base ≤ w.heap.size)
    (h : ∀ v' w', w'.ownsRow base 22 1 v' (n + 1) (xs ++ [u]) → w.grownBy w' v.ownBlock → wpList Try.prog ops Q rest (a.put o.dst v') w') : wpList Try.prog ops Q (o :: rest) a w := by
  obtain ⟨i, hi, hz0, hz1, hz2⟩ := info_parts Try.info22
  refine wpList_append_own w hgd s x 26 ho base 22 i (.slice none 0 0) 1 24 Try.underlying26 hi hz0 hz1 hz2 rfl (by decide) v n xs hs hown ad 1 1 [u] hx rfl ?_ ?_ (by unfold maxLen; omega) (by omega) hbase
    (fun v' w' h1 h2 _ => h v' w' h1 h2)
  · intro j u' hj
    cases j with
    | zero => simp at hj; subst hj; simpa [Addr.add] using hc
    | succ j => simp at hj
  · intro u' hu
    simp at hu
    subst hu
    exact h1

/-- v owns a row of the rows rs, whose own cells lie below B -/
def Acc (w : World) (base B : Nat) (v : Value) (rs : List (List ByteArray)) : Prop :=
  ∃ xs : List Value, w.ownsRow base 22 1 v rs.length xs ∧ ∀ (j : Nat) r, rs[j]? = some r → ∃ av cv, xs[j]? = some (Value.slice av r.length cv) ∧ Strs w B (.slice av r.length cv) r

theorem Acc.snoc {w w2 : World} {base B : Nat} {v' : Value} {rs : List (List ByteArray)} {r : List ByteArray} {xs : List Value} {av : Option Addr} {cv : Nat}
    (hx : ∀ (j : Nat) r, rs[j]? = some r → ∃ av cv, xs[j]? = some (Value.slice av r.length cv) ∧ Strs w B (.slice av r.length cv) r) (hl : xs.length = rs.length)
    (hr : Strs w B (.slice av r.length cv) r) (hb : Below B w w2) (ho : w2.ownsRow base 22 1 v' (rs.length + 1) (xs ++ [Value.slice av r.length cv])) : Acc w2 base B v' (rs ++ [r]) := by
  refine ⟨_, by rw [List.length_append]; exact ho, fun j r' hj => ?_⟩
  by_cases hjl : j < rs.length
  · rw [List.getElem?_append_left hjl] at hj
    obtain ⟨av', cv', h1, h2⟩ := hx j r' hj
    exact ⟨av', cv', by rw [List.getElem?_append_left (by omega)]; exact h1, h2.later hb⟩
  · rw [List.getElem?_append_right (by omega)] at hj
    have hj0 : j - rs.length = 0 := by
      apply Classical.byContradiction
      intro hne
      rw [List.getElem?_eq_none (by simp; omega)] at hj
      cases hj
    rw [hj0] at hj
    simp at hj
    subst hj
    exact ⟨av, cv, by rw [List.getElem?_append_right (by omega), hl, hj0]; rfl, hr.later hb⟩

theorem Acc.done {w : World} {base B : Nat} {v : Value} {rs : List (List ByteArray)} (h : Acc w base B v rs) (hB : B ≤ w.heap.size) : RowsV w w.heap.size v rs := by
  obtain ⟨xs, ho, hx⟩ := h
  have hlt := ho.lt
  have hcell := fun g cap => World.ownsRow.cellAt (w := w) (base := base) (e := 22) (size := 1) (g := g) (n := rs.length) (cap := cap) (xs := xs)
  rcases ho.2 with ⟨rfl, h0⟩ | ⟨g, cap, cur, rfl, hb, hg, hnc, hcm, hcs, htake⟩
  · have : rs = [] := List.length_eq_zero_iff.1 h0
    subst this
    exact RowsV.nil _ _
  · refine ⟨some ⟨g, 0, none⟩, cap, rfl, ⟨hnc, by unfold maxLen at hcm; omega⟩, (fun h => by cases h), fun _ => ⟨g, 0, rfl, (hlt g rfl).2, fun i r hi => ?_⟩⟩
    have hil := (List.getElem?_eq_some_iff.1 hi).1
    obtain ⟨av, cv, h1, h2⟩ := hx i r hi
    exact ⟨av, cv, by rw [Nat.zero_add, hcell g cap ho i (by omega)]; exact h1, h2.mono hB⟩

theorem totR_append (ra rb : List (List ByteArray)) : totR (ra ++ rb) = totR ra + totR rb := by simp [totR]

set_option maxHeartbeats 4000000 in
set_option maxRecDepth 100000 in
theorem walkConcat (v1 v2 : Value) (ra rb : List (List ByteArray)) (w : World) (za : Fits ra) (zb : Fits rb) (ma : ra.length ≤ maxLen) (mb : rb.length ≤ maxLen)
    (h1 : RowsV w w.heap.size v1 ra) (h2 : RowsV w w.heap.size v2 rb) :
    Calls Try.prog 6 #[v1, v2] w fun e w' => e = .returned (.bool true) ∧ Below w.heap.size w w' := by
  obtain ⟨a1, c1, rfl⟩ := h1.shape
  obtain ⟨a2, c2, rfl⟩ := h2.shape
  have m1' := ma
  have m2' := mb
  unfold maxLen at m1' m2'
  have Hza : Hid (Fits ra) := za
  have Hzb : Hid (Fits rb) := zb
  clear za zb
  go_enter Try.func6, Try.ntmps6
  go_wp2_with fail
  refine (small19_any _ _ ra rb w Hza.out Hzb.out ma mb h1 h2).mono ?_
  rintro e w' ⟨r, rfl, hw, hg⟩
  replace hw := hw.symm
  subst hw
  cases r with
  | false =>
    go_wp2_with fail
    go_ret
    exact ⟨rfl, Below.refl _ _⟩
  | true =>
    have hsm := hg rfl
    clear hg
    go_wp2_with fail
    refine (rowsBytes_any 0 _ ra _ (by omega) (by omega) (fun r hr => (Hza.out r hr).2) h1).mono ?_
    rintro e w' ⟨r, rfl, g0, g1, hw⟩
    replace hw := hw.symm
    subst hw
    go_wp2_with fail
    refine (rowsBytes_any r _ rb _ g0 (by omega) (fun r hr => (Hzb.out r hr).2) h2).mono ?_
    rintro e w' ⟨r2, rfl, g2, g3, hw⟩
    replace hw := hw.symm
    subst hw
    by_cases q3 : 1048576 < r2
    · go_wp2_with fail
      go_ret
      exact ⟨rfl, Below.refl _ _⟩
    by_cases q1 : ((ra.length : Int) == 0) = true
    · go_wp2_with fail
      go_ret
      exact ⟨rfl, Below.refl _ _⟩
    by_cases q2 : ((rb.length : Int) == 0) = true
    · have q1' : ((ra.length : Int) == 0) = false := by simpa using q1
      clear q1
      go_wp2_with fail
      go_ret
      exact ⟨rfl, Below.refl _ _⟩
    have q1' : ((ra.length : Int) == 0) = false := by simpa using q1
    have q2' : ((rb.length : Int) == 0) = false := by simpa using q2
    have HNa : Hid (ra ≠ []) := by intro e; subst e; simp at q1'
    have HNb : Hid (rb ≠ []) := by intro e; subst e; simp at q2'
    clear q1 q2
    go_wp2_with fail
    have HLa : Hid (∀ r ∈ ra, r.length ≤ 1048576) := fun r hr => by have := totR_mem hr; omega
    have HLb : Hid (∀ r ∈ rb, r.length ≤ 1048576) := fun r hr => by have := totR_mem hr; omega
    refine (cloneRows_any _ ra w (by omega) HLa.out h1).mono ?_
    rintro e wa ⟨va, rfl, hba, hRa⟩
    obtain ⟨aa, ca, rfl⟩ := hRa.shape
    have hza := hba.size
    go_wp2_with fail
    refine (cloneRows_any _ rb wa (by omega) HLb.out ((h2.later hba).mono hza)).mono ?_
    rintro e wb ⟨vb, rfl, hbb, hRb⟩
    obtain ⟨ab, cb, rfl⟩ := hRb.shape
    have hzb := hbb.size
    have HA : Hid (RowsV wb wb.heap.size (.slice aa ra.length ca) ra) := (hRa.later hbb).mono hzb
    have HB : Hid (RowsV wb wb.heap.size (.slice ab rb.length cb) rb) := hRb
    have HBw : Hid (Below w.heap.size w wb) := hba.trans (hbb.mono hza)
    have hcapa := HA.out.cap
    have hcapb := HB.out.cap
    have hwb : w.heap.size ≤ wb.heap.size := by omega
    clear hba hRa hbb hRb hza hzb h1 h2 Hza Hzb HLa HLb g0 g1 g2 g3 q3 ma mb m1' m2'
    obtain ⟨i0, hi, hz0, hz1, hz2⟩ := info_parts Try.info22
    go_wp2_with (at_make; refine wpList_make_own _ rfl _ _ 26 rfl wb.heap.size 22 i0 (.slice none 0 0) 1 Try.underlying26 hi hz0 hz1 _ _ _ (ra.length + rb.length) rfl rfl (by omega) (by rw [hz2]; omega) (by unfold maxLen; omega) (Nat.le_refl _) ?_)
    intro wm hown hgrow
    have HAc : Hid (Acc wm wb.heap.size wb.heap.size (.slice (some ⟨wb.heap.size, 0, none⟩) 0 (ra.length + rb.length)) (ra.take 0)) := by
      rw [List.take_zero]
      exact ⟨[], hown, fun j r hj => by simp at hj⟩
    have HBm : Hid (Below wb.heap.size wb wm) := (Below.refl _ _).grown hgrow (Nat.le_refl _) (fun k hk => by cases hk)
    clear hown hgrow hi hz0 hz1 hz2
    go_wp2_with fail
    go_loopw [5, 6] (fun v i wr => ∃ k : Nat, k ≤ ra.length ∧ i = .int .i64 k ∧ Hid (Acc wr wb.heap.size wb.heap.size v (ra.take k)) ∧ Hid (Below wb.heap.size wb wr)) (fun _ i _ => ra.length - (intOf i).toNat)
    case atStart => exact ⟨0, Nat.zero_le _, rfl, HAc.out, HBm.out⟩
    case round =>
      clear HAc HBm
      obtain ⟨k, hk, rfl, HAc, HBr⟩ := hrel
      by_cases hlt : k < ra.length
      · have hsz := HBr.out.size
        obtain ⟨b, o, rfl, hb, hcell⟩ := (HA.out.later HBr.out).at k hlt
        obtain ⟨av, cv, hck, hSk⟩ := hcell k _ (List.getElem?_eq_getElem hlt)
        obtain ⟨xs, hown, hxs⟩ := HAc.out
        have hlk : (ra.take k).length = k := List.length_take_of_le (by omega)
        rw [hlk] at hown
        have hxl : xs.length = k := by have := hown.1; omega
        have HSk : Hid (Strs wr wb.heap.size (.slice av ra[k].length cv) ra[k]) := hSk
        have HX : Hid (∀ (j : Nat) r, (ra.take k)[j]? = some r → ∃ av cv, xs[j]? = some (Value.slice av r.length cv) ∧ Strs wr wb.heap.size (.slice av r.length cv) r) := hxs
        have HOw : Hid ((wr.alloc (.cells #[.slice av ra[k].length cv] 22)).ownsRow wb.heap.size 22 1 u5 k xs) := hown.alloc _
        have HLT : Hid (∀ q, u5.ownBlock = some q → wb.heap.size ≤ q) := fun q hq => (hown.lt q hq).1
        clear hcell hSk hown hxs
        go_wp2_with (at_builtin; refine append_one rfl _ _ rfl wb.heap.size u5 k xs rfl HOw.out ⟨wr.heap.size, 0, none⟩ (.slice av ra[k].length cv) rfl (by simp) rfl (by omega) (by simp; omega) ?_; intro v' w2 hown2 hg2)
        have hb2 : Below wb.heap.size wr w2 := ((Below.refl _ _).alloc hsz _).grown hg2 (by simp; omega) (fun q hq => HLT.out q hq)
        have HN : Hid (Acc w2 wb.heap.size wb.heap.size v' (ra.take (k + 1))) := by
          have := Acc.snoc (rs := ra.take k) (r := ra[k]) HX.out (by omega) HSk.out hb2 (by rw [hlk]; exact hown2)
          rw [← List.take_succ_eq_append_getElem hlt] at this
          exact this
        have HB2 : Hid (Below wb.heap.size wb w2) := HBr.out.trans hb2
        clear hown2 hg2 hb2 HX HOw HLT HSk HAc HBr hlk hxl
        go_roundw
        case rel => exact ⟨k + 1, by omega, by go_num, HN.out, HB2.out⟩
        case measure => simp [intOf]; omega
      · have hkk : k = ra.length := by omega
        subst hkk
        have HAc0 : Hid (Acc wr wb.heap.size wb.heap.size u5 (ra ++ rb.take 0)) := by
          have := HAc.out
          rw [List.take_length] at this
          rw [List.take_zero, List.append_nil]
          exact this
        have HBr0 : Hid (Below wb.heap.size wb wr) := HBr.out
        clear HAc HBr hlt hk
        go_wp2_with fail
        go_loopw [5, 7] (fun v i wr => ∃ k : Nat, k ≤ rb.length ∧ i = .int .i64 k ∧ Hid (Acc wr wb.heap.size wb.heap.size v (ra ++ rb.take k)) ∧ Hid (Below wb.heap.size wb wr)) (fun _ i _ => rb.length - (intOf i).toNat)
        case atStart => exact ⟨0, Nat.zero_le _, rfl, HAc0.out, HBr0.out⟩
        case round =>
          clear HAc0 HBr0
          obtain ⟨k, hk, rfl, HAc, HBr⟩ := hrel
          by_cases hlt : k < rb.length
          · have hsz := HBr.out.size
            obtain ⟨b, o, rfl, hb, hcell⟩ := (HB.out.later HBr.out).at k hlt
            obtain ⟨av, cv, hck, hSk⟩ := hcell k _ (List.getElem?_eq_getElem hlt)
            obtain ⟨xs, hown, hxs⟩ := HAc.out
            have hlk : (ra ++ rb.take k).length = ra.length + k := by rw [List.length_append, List.length_take_of_le (by omega)]
            rw [hlk] at hown
            have hxl : xs.length = ra.length + k := by have := hown.1; omega
            have HSk : Hid (Strs wr wb.heap.size (.slice av rb[k].length cv) rb[k]) := hSk
            have HX : Hid (∀ (j : Nat) r, (ra ++ rb.take k)[j]? = some r → ∃ av cv, xs[j]? = some (Value.slice av r.length cv) ∧ Strs wr wb.heap.size (.slice av r.length cv) r) := hxs
            have HOw : Hid ((wr.alloc (.cells #[.slice av rb[k].length cv] 22)).ownsRow wb.heap.size 22 1 u5 (ra.length + k) xs) := hown.alloc _
            have HLT : Hid (∀ q, u5.ownBlock = some q → wb.heap.size ≤ q) := fun q hq => (hown.lt q hq).1
            clear hcell hSk hown hxs
            go_wp2_with (at_builtin; refine append_one rfl _ _ rfl wb.heap.size u5 (ra.length + k) xs rfl HOw.out ⟨wr.heap.size, 0, none⟩ (.slice av rb[k].length cv) rfl (by simp) rfl (by omega) (by simp; omega) ?_; intro v' w2 hown2 hg2)
            have hb2 : Below wb.heap.size wr w2 := ((Below.refl _ _).alloc hsz _).grown hg2 (by simp; omega) (fun q hq => HLT.out q hq)
            have HN : Hid (Acc w2 wb.heap.size wb.heap.size v' (ra ++ rb.take (k + 1))) := by
              have := Acc.snoc (rs := ra ++ rb.take k) (r := rb[k]) HX.out (by omega) HSk.out hb2 (by rw [hlk]; exact hown2)
              rw [List.append_assoc, ← List.take_succ_eq_append_getElem hlt] at this
              exact this
            have HB2 : Hid (Below wb.heap.size wb w2) := HBr.out.trans hb2
            clear hown2 hg2 hb2 HX HOw HLT HSk HAc HBr hlk hxl
            go_roundw
            case rel => exact ⟨k + 1, by omega, by go_num, HN.out, HB2.out⟩
            case measure => simp [intOf]; omega
          · have hkk : k = rb.length := by omega
            subst hkk
            have hsz := HBr.out.size
            have HAb : Hid (RowsV wr wr.heap.size u5 (ra ++ rb)) := by
              have := HAc.out
              rw [List.take_length] at this
              exact this.done hsz
            have HAw : Hid (RowsV wr wr.heap.size (.slice aa ra.length ca) ra) := (HA.out.later HBr.out).mono hsz
            have HBw2 : Hid (RowsV wr wr.heap.size (.slice ab rb.length cb) rb) := (HB.out.later HBr.out).mono hsz
            have HT : Hid ((ra ++ rb).length + totR (ra ++ rb) ≤ 4194304) := by rw [List.length_append, totR_append]; show _ ≤ _; omega
            have HF := hlist_append ra rb HNa.out HNb.out
            have HF : Hid (((hlist (ra ++ rb)).toList == (hlist ra ++ { data := #[32, 111, 114, 32] } ++ hlist rb).toList) = true) := HF
            have HBf : Hid (Below w.heap.size w wr) := HBw.out.trans (HBr.out.mono hwb)
            clear HAc hlt hk HA HB HBr HNa HNb HBw
            go_wp2_with fail
            refine (zzhlist_any _ (ra ++ rb) wr HT.out HAb.out).mono ?_
            rintro e w1 ⟨rfl, hb1⟩
            have hz1 := hb1.size
            generalize hX1 : hlist (ra ++ rb) = x1 at HF ⊢
            clear hX1
            go_wp2_with fail
            refine (zzhlist_any _ ra w1 (by omega) ((HAw.out.later hb1).mono hz1)).mono ?_
            rintro e w2 ⟨rfl, hb2⟩
            have hz2 := hb2.size
            have hs2 : (hlist ra).size ≤ 8388608 := by have := hlist_size ra; omega
            have hs3 : (hlist rb).size ≤ 8388608 := by have := hlist_size rb; omega
            generalize hX2 : hlist ra = x2 at HF hs2 ⊢
            clear hX2
            go_wp2_with fail
            refine (zzhlist_any _ rb w2 (by omega) ((((HBw2.out.later hb1).mono hz1).later hb2).mono hz2)).mono ?_
            rintro e w3 ⟨rfl, hb3⟩
            generalize hX3 : hlist rb = x3 at HF hs3 ⊢
            clear hX3
            have HBz : Hid (Below w.heap.size w w3) := ((HBf.out.trans (hb1.mono (by omega))).trans (hb2.mono (by omega))).trans (hb3.mono (by omega))
            clear hb1 hb2 hb3 HAb HAw HBw2
            have hF := HF.out
            go_wp2_with fail
            go_ret
            exact ⟨rfl, HBz.out⟩
end Go.Proofs.Qxb6602459a
