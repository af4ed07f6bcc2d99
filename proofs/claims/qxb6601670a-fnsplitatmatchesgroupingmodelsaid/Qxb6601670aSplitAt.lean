import Derived.Test.Qxb6601670aSplitSt
namespace Go.Proofs.Qxb6601670a
open Go.RowKit Plain
set_option linter.unusedVariables false

/-- append(dst, u): dst a row of the call's own (or nil); where the new slice lies -/
theorem append_gen (t e : TypeId) (z : Value) (bytes : Nat) (ht : Try.prog.underlying t = some (.slice e)) (hinfo : (Try.prog.info? e).map (fun i => (i.zero, i.size, i.bytes)) = some (some z, 1, bytes)) (hz : z.cells.size = 1) (hb : bytes ≤ 24)
    {w : World} {ops : Array Oper} {rest : List Oper} {o : Oper} {a : Act} {Q : Exit → Act → World → Prop} (hgd : o.guard = none) (s x : Operand)
    (ho : o.op = .call { callee := .builtin .append, args := #[s, x], argTypes := #[t, t] }) (base : Nat) (v : Value) (n : Nat) (xs : List Value) (hs : a.eval s = v) (hown : w.ownsRow base e 1 v n xs)
    (ad : Addr) (u : Value) (hx : a.eval x = .slice (some ad) 1 1) (hc : w.cell? ad = some u) (h1 : u.oneCell' = true) (hn : n + 1 ≤ 8388608) (hbase : base ≤ w.heap.size)
    (h : ∀ v' w', w'.ownsRow base e 1 v' (n + 1) (xs ++ [u]) → w.grownBy w' v.ownBlock → (v'.ownBlock = v.ownBlock ∨ v'.ownBlock = some w.heap.size) → wpList Try.prog ops Q rest (a.put o.dst v') w') : wpList Try.prog ops Q (o :: rest) a w := by
  obtain ⟨i, hi, hz0, hz1, hz2⟩ := info_parts hinfo
  have hbb : (n + 1) * bytes ≤ 140737488355328 := Nat.le_trans (Nat.mul_le_mul hn hb) (by decide)
  refine wpList_append_own_at w hgd s x t ho base e i z 1 bytes ht hi hz0 hz1 hz2 hz (by decide) v n xs hs hown ad 1 1 [u] hx rfl ?_ ?_ (by unfold maxLen; omega) hbb hbase
    (fun v' w' h1 h2 _ h4 => h v' w' h1 h2 h4)
  · intro j u' hj
    cases j with
    | zero => simp at hj; subst hj; simpa [Addr.add] using hc
    | succ j => simp at hj
  · intro u' hu
    simp at hu
    subst hu
    exact h1

theorem filter_yes {l : List ByteArray} {p : ByteArray → Bool} {e : ByteArray} (h : p e = true) : (l ++ [e]).filter p = l.filter p ++ [e] := by
  rw [List.filter_append]; simp [h]
theorem filter_no {l : List ByteArray} {p : ByteArray → Bool} {e : ByteArray} (h : p e = false) : (l ++ [e]).filter p = l.filter p := by
  rw [List.filter_append]; simp [h]

/-- the key of member i at depth d -/
def keyOf (rs : List (List ByteArray)) (d : Nat) (i : Nat) : Option ByteArray := (rs[i]?).bind fun r => r[d]?

theorem keyOf_none {rs : List (List ByteArray)} {d i : Nat} (hi : i < rs.length) (h : rs[i].length ≤ d) : keyOf rs d i = none := by
  unfold keyOf
  rw [List.getElem?_eq_getElem hi]
  exact List.getElem?_eq_none h
theorem keyOf_some {rs : List (List ByteArray)} {d i : Nat} (hi : i < rs.length) (h : d < rs[i].length) : keyOf rs d i = some (rs[i][d]) := by
  unfold keyOf
  rw [List.getElem?_eq_getElem hi]
  exact List.getElem?_eq_getElem h

/-- what splitAt hands back: the groups of the kept keys -/
def Got (w : World) (X : Nat → Value) (key : Nat → Option ByteArray) (p : ByteArray → Bool) (N : Nat) (v : Value) : Prop :=
  ∃ (base : Nat) (ys : List Value), w.ownsRow base 28 1 v (kept key p N).length ys ∧ ∀ (t : Nat) e, (kept key p N)[t]? = some e → ∃ av cv, ys[t]? = some (Value.slice av (grp key e N).length cv) ∧
    ∀ (m i : Nat), (grp key e N)[m]? = some i → ∃ q, av = some ⟨q, 0, none⟩ ∧ q < w.heap.size ∧ w.cell? ⟨q, m, none⟩ = some (X i)

set_option maxHeartbeats 4000000 in
set_option maxRecDepth 100000 in
theorem splitAt_any (gv : Nat) (X : Nat → Value) (rs : List (List ByteArray)) (d : Nat) (kk : Int) (w : World) (hN : rs.length ≤ 1048576) (hz : ∀ r ∈ rs, r.length ≤ 1048576 ∧ ∀ s ∈ r, s.size ≤ maxLen)
    (hrow : w.rowIs gv 32 rs.length X) (hX : ∀ i r, rs[i]? = some r → Strs w w.heap.size (X i) r) :
    Calls Try.prog 15 #[.slice (some ⟨gv, 0, none⟩) rs.length rs.length, .int .i64 d, .int .i64 kk] w fun e w' => ∃ v, e = .returned v ∧ Below w.heap.size w w' ∧
      Got w' X (keyOf rs d) (fun e => decide (kk ≤ ((grp (keyOf rs d) e rs.length).length : Int))) rs.length v := by
  have hmm := @run_makeMap Try.prog
  have HROW : Hid (w.rowIs gv 32 rs.length X) := hrow
  have HX : Hid (∀ i r, rs[i]? = some r → Strs w w.heap.size (X i) r) := hX
  have HZ : Hid (∀ r ∈ rs, r.length ≤ 1048576 ∧ ∀ s ∈ r, s.size ≤ maxLen) := hz
  have hgv := hrow.lt
  clear hrow hX hz
  go_enter Try.func15, Try.ntmps15
  go_wp2_with fail
  go_loopw [7, 20] (fun vo i wr => ∃ k : Nat, k ≤ rs.length ∧ i = .int .i64 k ∧ Hid (Below w.heap.size w wr) ∧ Hid (∃ V, St wr w.heap.size X (keyOf rs d) k vo V)) (fun _ i _ => rs.length - (intOf i).toNat)
  case atStart =>
    refine ⟨0, Nat.zero_le _, rfl, (Below.refl _ _).alloc (Nat.le_refl _) _, fun _ => .slice none 0 0, ?_, World.ownsRow_nil _ _ _ _, ?_, ?_, ?_⟩
    · exact (RMap.made w).congr fun s => by rw [entry_out]; simp [Plain.ord]
    · intro e he; simp [Plain.ord] at he
    · intro e he; simp [Plain.ord] at he
    · intro e e' he; simp [Plain.ord] at he
  case round =>
    obtain ⟨k, hk, rfl, HB, HV⟩ := hrel
    by_cases hlt : k < rs.length
    · obtain ⟨V, hV⟩ := HV.out
      have hsz := HB.out.size
      have hSk := HX.out k _ (List.getElem?_eq_getElem hlt)
      obtain ⟨av, cv, hxk⟩ := hSk.shape
      have hck : wr.cell? ⟨gv, k, none⟩ = some (.slice av rs[k].length cv) := by rw [HB.out.cell hgv, HROW.out.cell hlt, hxk]
      have hzk := HZ.out _ (List.getElem_mem hlt)
      have hrl := hzk.1
      have HSt : Hid (St wr w.heap.size X (keyOf rs d) k u7 V) := hV
      clear hV HV
      by_cases hle : rs[k].length ≤ d
      · have HN : Hid (St wr w.heap.size X (keyOf rs d) (k + 1) u7 V) := HSt.out.skip (keyOf_none hlt hle)
        clear hSk hxk HSt hzk
        go_wp2_with fail
        go_roundw
        case rel => exact ⟨k + 1, by omega, by go_num, HB.out, V, HN.out⟩
        case measure => simp [intOf]; omega
      · have hd : d < rs[k].length := by omega
        have hkey := keyOf_some hlt hd
        rw [hxk] at hSk
        obtain ⟨b, o, rfl, hb, hcell⟩ := hSk.at d hd
        have hce : wr.cell? ⟨b, o + d, none⟩ = some (.string rs[k][d]) := by rw [HB.out.cell hb]; exact hcell d _ (List.getElem?_eq_getElem hd)
        have hes := hzk.2 _ (List.getElem_mem hd)
        have HKey : Hid (keyOf rs d k = some rs[k][d]) := hkey
        have HXK : Hid (X k = .slice (some ⟨b, o, none⟩) rs[k].length cv) := hxk
        generalize hE : rs[k][d] = e at hce hes HKey
        clear hSk hcell hkey hzk hE hxk
        have HM : Hid (RMap wr w.heap.size k (entry (Plain.ord (keyOf rs d) k) V)) := HSt.out.map
        by_cases hmem : e ∈ Plain.ord (keyOf rs d) k
        · obtain ⟨ae, ce, hve⟩ := owns_slice (HSt.out.group e hmem)
          have hnl := grp_len_le (key := keyOf rs d) e k
          have HOe : Hid ((wr.alloc (.cells #[.slice (some ⟨b, o, none⟩) rs[k].length cv] 32)).ownsRow (w.heap.size + 1) 32 1 (.slice ae (grp (keyOf rs d) e k).length ce) (grp (keyOf rs d) e k).length ((grp (keyOf rs d) e k).map X)) := by
            have := HSt.out.group e hmem
            rw [hve] at this
            exact this.alloc _
          have HNE : Hid (some w.heap.size ≠ (Value.slice ae (grp (keyOf rs d) e k).length ce).ownBlock) := by
            intro h
            have := (HOe.out.lt _ h.symm).1
            omega
          have HV1 : Hid ((entry (Plain.ord (keyOf rs d) k) V e).getD (.slice none 0 0) = .slice ae (grp (keyOf rs d) e k).length ce) := by rw [entry_in hmem, hve]; rfl
          have HV2 : Hid ((entry (Plain.ord (keyOf rs d) k) V e).isSome = true) := by rw [entry_in hmem]; rfl
          have HVE : Hid (V e = .slice ae (grp (keyOf rs d) e k).length ce) := hve
          have HMem : Hid (e ∈ Plain.ord (keyOf rs d) k) := hmem
          have hB1 := HM.out.lt
          clear hve hmem
          generalize hgn : (grp (keyOf rs d) e k).length = n at hnl HOe HNE HV1 HVE
          have HGN : Hid ((grp (keyOf rs d) e k).length = n) := hgn
          clear hgn
          go_wp2_with (first
            | (at_lookup; refine look_ok rfl _ _ rfl w.heap.size k _ rfl HM.out e hes rfl (.slice ae n ce) true HV1.out HV2.out ?_)
            | (at_lookup; refine look rfl _ _ rfl w.heap.size k _ rfl HM.out e hes rfl (.slice ae n ce) HV1.out ?_)
            | (at_builtin; refine append_gen 28 32 (.slice none 0 0) 24 Try.underlying28 Try.info32 rfl (by decide) rfl _ _ rfl (w.heap.size + 1) (.slice ae n ce) n _ rfl HOe.out ⟨wr.heap.size, 0, none⟩ (.slice (some ⟨b, o, none⟩) rs[k].length cv) rfl (by simp) rfl (by omega) (by simp; omega) ?_; intro v' w2 hown2 hg2 hl2)
            | (at_mapUpdate; refine upd rfl _ _ _ rfl w.heap.size k _ rfl ((HM.out.alloc _).kept hg2 HNE.out) (by omega) e hes rfl v' rfl ?_; intro w3 hm3 hg3))
          have hb2 : Below w.heap.size w w2 := (HB.out.alloc hsz _).grown hg2 (by simp; omega) (fun q hq => by have := (HOe.out.lt q hq).1; omega)
          have HB3 : Hid (Below w.heap.size w w3) := hb2.grown hg3 hb2.size (fun q hq => by cases hq; exact Nat.le_refl _)
          have HN : Hid (St w3 w.heap.size X (keyOf rs d) (k + 1) u7 (fun t => if t = e then v' else V t)) :=
            HSt.out.old HKey.out HMem.out (World.grownBy_alloc wr _ none) (by rw [HVE.out]; exact hg2) (by rw [HGN.out, HXK.out]; exact hown2) (by rw [HVE.out]; exact hl2) hm3 hg3
          clear hb2 hown2 hg2 hl2 hm3 hg3
          go_roundw
          case rel => exact ⟨k + 1, by omega, by go_num, HB3.out, _, HN.out⟩
          case measure => simp [intOf]; omega
        · have hol := ord_len_le (key := keyOf rs d) k
          have HOo : Hid ((wr.alloc (.cells #[.string e] 9)).ownsRow (w.heap.size + 1) 9 1 u7 (Plain.ord (keyOf rs d) k).length ((Plain.ord (keyOf rs d) k).map Value.string)) := HSt.out.order.alloc _
          have HNE : Hid (some w.heap.size ≠ u7.ownBlock) := by
            intro h
            have := (HOo.out.lt _ h.symm).1
            omega
          have HV1 : Hid ((entry (Plain.ord (keyOf rs d) k) V e).getD (.slice none 0 0) = .slice none 0 0) := by rw [entry_out hmem]; rfl
          have HV2 : Hid ((entry (Plain.ord (keyOf rs d) k) V e).isSome = false) := by rw [entry_out hmem]; rfl
          have HMem : Hid (e ∉ Plain.ord (keyOf rs d) k) := hmem
          have hB1 := HM.out.lt
          clear hmem
          go_wp2_with (first
            | (at_lookup; refine look_ok rfl _ _ rfl w.heap.size k _ rfl HM.out e hes rfl (.slice none 0 0) false HV1.out HV2.out ?_)
            | (at_builtin; refine append_gen 30 9 (.string ByteArray.empty) 16 Try.underlying30 Try.info9 rfl (by decide) rfl _ _ rfl (w.heap.size + 1) u7 (Plain.ord (keyOf rs d) k).length _ rfl HOo.out ⟨wr.heap.size, 0, none⟩ (.string e) rfl (by simp) rfl (by omega) (by simp; omega) ?_; intro vo' w2 hownO hgO hlO; have hzO : wr.heap.size + 1 ≤ w2.heap.size := (by have := hgO.size; simp at this; exact this))
            | (at_lookup; refine look rfl _ _ rfl w.heap.size k _ rfl ((HM.out.alloc _).kept hgO HNE.out) e hes rfl (.slice none 0 0) HV1.out ?_)
            | (at_builtin; refine append_gen 28 32 (.slice none 0 0) 24 Try.underlying28 Try.info32 rfl (by decide) rfl _ _ rfl (w.heap.size + 1) (.slice none 0 0) 0 [] rfl (World.ownsRow_nil _ _ _ _) ⟨w2.heap.size, 0, none⟩ (.slice (some ⟨b, o, none⟩) rs[k].length cv) rfl (by simp) rfl (by omega) (by simp; omega) ?_; intro v' w4 hown4 hg4 hl4)
            | (at_mapUpdate; refine upd rfl _ _ _ rfl w.heap.size k _ rfl ((((HM.out.alloc _).kept hgO HNE.out).alloc _).kept hg4 (by simp [Value.ownBlock])) (by omega) e hes rfl v' rfl ?_; intro w5 hm5 hg5))
          have hb2 : Below w.heap.size w w2 := (HB.out.alloc hsz _).grown hgO (by simp; omega) (fun q hq => by have := (HOo.out.lt q hq).1; omega)
          have hb4 : Below w.heap.size w w4 := (hb2.alloc hb2.size _).grown hg4 (by simp; have := hb2.size; omega) (fun q hq => by simp [Value.ownBlock] at hq)
          have HB5 : Hid (Below w.heap.size w w5) := hb4.grown hg5 hb4.size (fun q hq => by cases hq; exact Nat.le_refl _)
          have HN : Hid (St w5 w.heap.size X (keyOf rs d) (k + 1) vo' (fun t => if t = e then v' else V t)) :=
            HSt.out.new HKey.out HMem.out (World.grownBy_alloc wr _ none) hgO hownO hlO (World.grownBy_alloc w2 _ none) hg4 (by rw [HXK.out]; exact hown4) hl4 hm5 hg5
          clear hb2 hb4 hownO hgO hlO hown4 hg4 hl4 hm5 hg5
          go_roundw
          case rel => exact ⟨k + 1, by omega, by go_num, HB5.out, _, HN.out⟩
          case measure => simp [intOf]; omega
    · have hkk : k = rs.length := by omega
      subst hkk
      obtain ⟨V, hV⟩ := HV.out
      obtain ⟨ao, co, hvo⟩ := owns_slice hV.order
      have HES : Hid (∀ e, e ∈ Plain.ord (keyOf rs d) rs.length → e.size ≤ maxLen) := by
        intro e he
        obtain ⟨i, hi, hki⟩ := mem_ord.1 he
        unfold keyOf at hki
        rw [List.getElem?_eq_getElem hi] at hki
        exact (HZ.out _ (List.getElem_mem hi)).2 e (List.mem_of_getElem? hki)
      have hol := ord_len_le (key := keyOf rs d) rs.length
      have hsz := HB.out.size
      have hB1 := hV.map.lt
      rename World => wl
      subst hvo
      have HMap : Hid (RMap wl w.heap.size rs.length (entry (Plain.ord (keyOf rs d) rs.length) V)) := hV.map
      have HOrd : Hid (wl.ownsRow (w.heap.size + 1) 9 1 (.slice ao (Plain.ord (keyOf rs d) rs.length).length co) (Plain.ord (keyOf rs d) rs.length).length ((Plain.ord (keyOf rs d) rs.length).map Value.string)) := hV.order
      have HGrp : Hid (∀ e, e ∈ Plain.ord (keyOf rs d) rs.length → wl.ownsRow (w.heap.size + 1) 32 1 (V e) (grp (keyOf rs d) e rs.length).length ((grp (keyOf rs d) e rs.length).map X)) := hV.group
      have HKp : Hid (∀ p, kept (keyOf rs d) p rs.length = (Plain.ord (keyOf rs d) rs.length).filter p) := fun _ => rfl
      clear hV HV hlt hk HROW HX HZ
      generalize Plain.ord (keyOf rs d) rs.length = O at HES hol HMap HOrd HGrp HKp ⊢
      go_wp2_with fail
      go_loopw [14, 55] (fun v i wr => ∃ t : Nat, t ≤ O.length ∧ i = .int .i64 t ∧ Hid (Below wl.heap.size wl wr) ∧
          Hid (wr.ownsRow wl.heap.size 28 1 v ((O.take t).filter (fun e => decide (kk ≤ ((grp (keyOf rs d) e rs.length).length : Int)))).length (((O.take t).filter (fun e => decide (kk ≤ ((grp (keyOf rs d) e rs.length).length : Int)))).map V)))
        (fun _ i _ => O.length - (intOf i).toNat)
      case atStart => exact ⟨0, Nat.zero_le _, rfl, Below.refl _ _, by rw [List.take_zero]; exact World.ownsRow_nil _ _ _ _⟩
      case round =>
        obtain ⟨t, ht, rfl, HBl, HK⟩ := hrel
        by_cases htl : t < O.length
        · obtain ⟨qo, hao⟩ : ∃ qo, ao = some ⟨qo, 0, none⟩ := by
            rcases HOrd.out.2 with ⟨hv, h0⟩ | ⟨g, cap, cur, hv, _⟩
            · omega
            · simp only [Value.slice.injEq] at hv
              exact ⟨g, hv.1⟩
          subst hao
          have hqo := (HOrd.out.lt qo rfl).2
          have hco : wr.cell? ⟨qo, t, none⟩ = some (.string O[t]) := by
            rw [HBl.out.cell hqo, HOrd.out.cellAt t (by omega), List.getElem?_map, List.getElem?_eq_getElem htl]
            rfl
          have hmem : O[t] ∈ O := List.getElem_mem htl
          have hes := HES.out _ hmem
          obtain ⟨ae, ce, hve⟩ := owns_slice (HGrp.out _ hmem)
          have hnl := grp_len_le (key := keyOf rs d) O[t] rs.length
          have HMw : Hid (RMap wr w.heap.size rs.length (entry O V)) := HMap.out.of_block (HBl.out.block _ hB1)
          have HV1 : Hid ((entry O V O[t]).getD (.slice none 0 0) = .slice ae (grp (keyOf rs d) O[t] rs.length).length ce) := by rw [entry_in hmem, hve]; rfl
          have HTk : Hid (O.take (t + 1) = O.take t ++ [O[t]]) := List.take_succ_eq_append_getElem htl
          have HVE : Hid (V O[t] = .slice ae (grp (keyOf rs d) O[t] rs.length).length ce) := hve
          have hszl := HBl.out.size
          have hkl : ((O.take t).filter (fun e => decide (kk ≤ ((grp (keyOf rs d) e rs.length).length : Int)))).length ≤ t := by
            have h1 := List.length_filter_le (fun e => decide (kk ≤ ((grp (keyOf rs d) e rs.length).length : Int))) (O.take t)
            have h2 := List.length_take_of_le (l := O) (i := t) (by omega)
            omega
          clear hmem hve
          obtain ⟨Kt, hKt⟩ : ∃ Kt, Kt = (O.take t).filter (fun e => decide (kk ≤ ((grp (keyOf rs d) e rs.length).length : Int))) := ⟨_, rfl⟩
          rw [← hKt] at hkl
          have HKw : Hid (wr.ownsRow wl.heap.size 28 1 u14 Kt.length (Kt.map V)) := by rw [hKt]; exact HK.out
          have HKt : Hid (Kt = (O.take t).filter (fun e => decide (kk ≤ ((grp (keyOf rs d) e rs.length).length : Int)))) := hKt
          clear hKt HK
          by_cases hkn : kk ≤ ((grp (keyOf rs d) O[t] rs.length).length : Int)
          · have HNx : Hid ((O.take (t + 1)).filter (fun e => decide (kk ≤ ((grp (keyOf rs d) e rs.length).length : Int))) = Kt ++ [O[t]]) := by
              have h := filter_yes (l := O.take t) (p := fun e => decide (kk ≤ ((grp (keyOf rs d) e rs.length).length : Int))) (e := O[t]) (by simpa using hkn)
              rw [← HTk.out, ← HKt.out] at h
              exact h
            have HOk : Hid ((wr.alloc (.cells #[.slice ae (grp (keyOf rs d) O[t] rs.length).length ce] 28)).ownsRow wl.heap.size 28 1 u14 Kt.length (Kt.map V)) := HKw.out.alloc _
            generalize (grp (keyOf rs d) O[t] rs.length).length = n at hnl HV1 HVE hkn HOk
            go_wp2_with (first
              | (at_lookup; refine look rfl _ _ rfl w.heap.size rs.length _ rfl HMw.out O[t] hes rfl (.slice ae n ce) HV1.out ?_)
              | (at_builtin; refine append_gen 26 28 (.slice none 0 0) 24 Try.underlying26 Try.info28 rfl (by decide) rfl _ _ rfl wl.heap.size u14 Kt.length _ rfl HOk.out ⟨wr.heap.size, 0, none⟩ (.slice ae n ce) rfl (by simp) rfl (by omega) (by simp; omega) ?_; intro v' w2 hown2 hg2 hl2))
            have HB2 : Hid (Below wl.heap.size wl w2) := (HBl.out.alloc hszl _).grown hg2 (by simp; omega) (fun q hq => (HKw.out.lt q hq).1)
            have HN : Hid (w2.ownsRow wl.heap.size 28 1 v' ((O.take (t + 1)).filter (fun e => decide (kk ≤ ((grp (keyOf rs d) e rs.length).length : Int)))).length (((O.take (t + 1)).filter (fun e => decide (kk ≤ ((grp (keyOf rs d) e rs.length).length : Int)))).map V)) := by
              rw [HNx.out, List.length_append, List.map_append, List.map_cons, List.map_nil, HVE.out]
              exact hown2
            clear hown2 hg2 hl2 HOk
            go_roundw
            case rel => exact ⟨t + 1, by omega, by go_num, HB2.out, HN.out⟩
            case measure => simp [intOf]; omega
          · have HNx : Hid ((O.take (t + 1)).filter (fun e => decide (kk ≤ ((grp (keyOf rs d) e rs.length).length : Int))) = Kt) := by
              have h := filter_no (l := O.take t) (p := fun e => decide (kk ≤ ((grp (keyOf rs d) e rs.length).length : Int))) (e := O[t]) (by simpa using hkn)
              rw [← HTk.out, ← HKt.out] at h
              exact h
            have HN : Hid (wr.ownsRow wl.heap.size 28 1 u14 ((O.take (t + 1)).filter (fun e => decide (kk ≤ ((grp (keyOf rs d) e rs.length).length : Int)))).length (((O.take (t + 1)).filter (fun e => decide (kk ≤ ((grp (keyOf rs d) e rs.length).length : Int)))).map V)) := by
              rw [HNx.out]; exact HKw.out
            generalize (grp (keyOf rs d) O[t] rs.length).length = n at hnl HV1 HVE hkn
            go_wp2_with (first
              | (at_lookup; refine look rfl _ _ rfl w.heap.size rs.length _ rfl HMw.out O[t] hes rfl (.slice ae n ce) HV1.out ?_))
            go_roundw
            case rel => exact ⟨t + 1, by omega, by go_num, HBl.out, HN.out⟩
            case measure => simp [intOf]; omega
        · have htt : t = O.length := by omega
          subst htt
          have HG : Hid (Got wr X (keyOf rs d) (fun e => decide (kk ≤ ((grp (keyOf rs d) e rs.length).length : Int))) rs.length u14) := by
            have hK := HK.out
            rw [List.take_length, ← HKp.out] at hK
            refine ⟨wl.heap.size, _, hK, fun t e he => ?_⟩
            have hmem : e ∈ O := by
              have := List.mem_of_getElem? he
              rw [HKp.out] at this
              exact (List.mem_filter.1 this).1
            have hG := HGrp.out e hmem
            obtain ⟨ae, ce, hve⟩ := owns_slice hG
            refine ⟨ae, ce, by rw [List.getElem?_map, he, ← hve]; rfl, fun m i hmi => ?_⟩
            have hml := (List.getElem?_eq_some_iff.1 hmi).1
            rcases hG.2 with ⟨hv, h0⟩ | ⟨g, cap, cur, hv, hb, hg, hr⟩
            · omega
            · rw [hve] at hv
              simp only [Value.slice.injEq] at hv
              obtain ⟨rfl, _, rfl⟩ := hv
              rw [hve] at hG
              have hlt := (hG.lt g rfl).2
              refine ⟨g, rfl, Nat.lt_of_lt_of_le hlt HBl.out.size, ?_⟩
              rw [HBl.out.cell hlt, hG.cellAt m (by omega), List.getElem?_map, hmi]
              rfl
          have HBf : Hid (Below w.heap.size w wr) := HB.out.trans (HBl.out.mono hsz)
          clear HK HGrp HOrd HMap HES
          go_wp2_with fail
          go_ret
          exact ⟨u14, rfl, HBf.out, HG.out⟩

/-- splitAt, through ZZSplitAt -/
theorem zzsplitAt_any (gv : Nat) (X : Nat → Value) (rs : List (List ByteArray)) (d : Nat) (kk : Int) (w : World) (hN : rs.length ≤ 1048576) (hz : ∀ r ∈ rs, r.length ≤ 1048576 ∧ ∀ s ∈ r, s.size ≤ maxLen)
    (hrow : w.rowIs gv 32 rs.length X) (hX : ∀ i r, rs[i]? = some r → Strs w w.heap.size (X i) r) :
    Calls Try.prog 9 #[.slice (some ⟨gv, 0, none⟩) rs.length rs.length, .int .i64 d, .int .i64 kk] w fun e w' => ∃ v, e = .returned v ∧ Below w.heap.size w w' ∧
      Got w' X (keyOf rs d) (fun e => decide (kk ≤ ((grp (keyOf rs d) e rs.length).length : Int))) rs.length v := by
  go_enter Try.func9, Try.ntmps9
  go_wp2_with fail
  refine (splitAt_any gv X rs d kk w hN hz hrow hX).mono ?_
  rintro e w' ⟨v, rfl, hb, hG⟩
  go_wp2_with fail
  go_ret
  exact ⟨v, rfl, hb, hG⟩
end Go.Proofs.Qxb6601670a
