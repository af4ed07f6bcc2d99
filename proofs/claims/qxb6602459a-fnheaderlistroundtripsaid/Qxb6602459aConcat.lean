import Derived.Test.Qxb6602459aMem
import Derived.Lib.AppendZerosOnto
import Derived.Lib.SliceRun
import Derived.LoopN
import Derived.Handy
namespace Go.Proofs.Qxb6602459a
open Go.RowKit
set_option linter.unusedVariables false

def strVals (ss : List ByteArray) : List Value := ss.map Value.string

/-- append(dst, src...) on strings: dst a row of the call's own (or nil), src whatever slice of strings -/
theorem append_strs {w : World} {ops : Array Oper} {rest : List Oper} {o : Oper} {a : Act} {Q : Exit → Act → World → Prop} (hgd : o.guard = none) (s x : Operand)
    (ho : o.op = .call { callee := .builtin .append, args := #[s, x], argTypes := #[22, 22] }) (base : Nat) (v : Value) (n : Nat) (xs : List Value) (hs : a.eval s = v) (hown : w.ownsRow base 9 1 v n xs)
    (vx : Value) (hx : a.eval x = vx) (ss : List ByteArray) (hS : Strs w w.heap.size vx ss) (hlen : n + ss.length ≤ 8388608) (hbase : base ≤ w.heap.size)
    (h : ∀ v' w', w'.ownsRow base 9 1 v' (n + ss.length) (xs ++ strVals ss) → w.grownBy w' v.ownBlock → wpList Try.prog ops Q rest (a.put o.dst v') w') : wpList Try.prog ops Q (o :: rest) a w := by
  obtain ⟨i, hi, hz0, hz1, hz2⟩ := info_parts Try.info9
  obtain ⟨ad, c, rfl, hc, hn, hr⟩ := hS
  cases ad with
  | none =>
    have h0 := hn rfl
    subst h0
    have hl0 : ss.length = 0 := by omega
    have hss : ss = [] := List.length_eq_zero_iff.1 hl0
    subst hss
    refine wpList_plain hgd fun K hK' => ?_
    have hrun := run_append_owned_none (P := Try.prog) w base 22 o.type 9 i 1 Try.underlying22 hi _ n xs hown
    unfold Oper.wp
    simp [execOp, ho, resolve, invoke, builtin, hs, hx, hrun, Result.andThen]
    exact hK' _ _ (h v w (by simpa [strVals] using hown) (World.grownBy.refl _ _))
  | some ad =>
    refine wpList_append_own w hgd s x 22 ho base 9 i (.string ByteArray.empty) 1 16 Try.underlying22 hi hz0 hz1 hz2 rfl (by decide) v n xs hs hown ad ss.length c (strVals ss) hx (by simp [strVals]) ?_ ?_ (by unfold maxLen; omega) (by omega) hbase
      (fun v' w' h1 h2 _ => h v' w' h1 h2)
    · intro j u hj
      have hj' : ∃ t, ss[j]? = some t ∧ u = .string t := by
        simp only [strVals, List.getElem?_map, Option.map_eq_some_iff] at hj
        obtain ⟨t, h1, h2⟩ := hj
        exact ⟨t, h1, h2.symm⟩
      obtain ⟨t, ht, rfl⟩ := hj'
      obtain ⟨b, o', hb, _, hcell⟩ := hr (by intro e; subst e; simp at ht)
      obtain rfl := Option.some.inj hb
      rw [Addr.add_lit]
      exact hcell j t ht
    · intro u hu
      simp only [strVals, List.mem_map] at hu
      obtain ⟨t, _, rfl⟩ := hu
      rfl

/-- slices.Grow(nil, N): an owned row of no elements -/
theorem grow_zero (w : World) : Calls Try.prog 25 #[.slice none 0 0, .int .i64 0] w fun e w' => e = .returned (.slice none 0 0) ∧ w' = w := by
  go_enter Try.func25, Try.ntmps25
  go_wp2
  go_ret
  exact ⟨rfl, rfl⟩

set_option maxHeartbeats 800000 in
theorem grow_pos (N : Nat) (w : World) (h0 : 0 < N) (hN : N ≤ 8388608) : Calls Try.prog 25 #[.slice none 0 0, .int .i64 N] w fun e w' => ∃ v, e = .returned v ∧ w'.ownsRow w.heap.size 9 1 v 0 [] ∧ Below w.heap.size w w' := by
  obtain ⟨i, hi, hz0, hz1, hz2⟩ := info_parts Try.info9
  have hold : (Builtin.firstCells i.size 0 (.slice none 0 0)).run Try.prog w.drew = .ok ([] : List Value).toArray w.drew := run_firstCells_none w.drew i.size 0 0 0
  have hrz : ∀ ty, (Builtin.append_ #[22, 3] ty #[.slice none 0 0, .int .i64 (N : Int)]).run Try.prog w =
      .ok (.slice (some ⟨w.heap.size, 0, none⟩) N (grownCap w N 0 9)) (w.drew.alloc (.cells (#[] ++ Builtin.zeroCells (Value.string ByteArray.empty).cells N ++ Builtin.zeroCells (Value.string ByteArray.empty).cells (grownCap w N 0 9 - N)) 9)) := fun ty => by
    have h := Lib.run_append_grow_zeros w 22 3 ty 9 i (.string ByteArray.empty) .i64 .i64 Try.underlying22 Try.underlying3 hi hz0 none 0 0 [] hold N h0 (by omega) (by omega) (by omega) (by rw [hz2]; omega)
      (by rw [Nat.zero_add]; exact growslice_fits h0 (by rw [hz2]; omega))
    rw [Nat.zero_add] at h
    exact h
  have hGn : N ≤ grownCap w N 0 9 := grownCap_ge w _ _ _
  have hGm : grownCap w N 0 9 ≤ maxLen := grownCap_le_maxLen w N 0 9 (by unfold maxLen; omega)
  obtain ⟨G, hG⟩ : ∃ G, G = grownCap w N 0 9 := ⟨_, rfl⟩
  rw [← hG] at hrz hGn hGm
  have hown : ∀ cur : Array Value, cur.size = G → (w.drew.alloc (.cells cur 9)).ownsRow w.heap.size 9 1 (.slice (some ⟨w.heap.size, 0, none⟩) 0 G) 0 [] := fun cur hcur =>
    World.ownsRow_made w.drew cur G (Nat.le_refl _) hGm (by omega)
  have hG63 : G ≤ 9223372036854775807 := by unfold maxLen at hGm; omega
  have hsz : (#[] ++ Builtin.zeroCells (Value.string ByteArray.empty).cells N ++ Builtin.zeroCells (Value.string ByteArray.empty).cells (G - N)).size = G := by
    simp [Builtin.zeroCells, Value.cells]
    omega
  have HO := hown _ hsz
  generalize (#[] ++ Builtin.zeroCells (Value.string ByteArray.empty).cells N ++ Builtin.zeroCells (Value.string ByteArray.empty).cells (G - N)) = cur at hrz HO
  have HO : Hid ((w.alloc (.cells cur 9)).drew.ownsRow w.heap.size 9 1 (.slice (some ⟨w.heap.size, 0, none⟩) 0 G) 0 []) := HO
  clear hG hold hi hz0 hz1 hz2 hown hsz hGm
  go_enter Try.func25, Try.ntmps25
  go_wp2_with (at_builtin; refine Lib.wpList_append_run _ rfl _ _ _ _ rfl _ _ rfl rfl _ _ (hrz _) ?_)
  go_ret
  exact ⟨.slice (some ⟨w.heap.size, 0, none⟩) 0 G, rfl, HO.out, ((Below.refl _ _).alloc (Nat.le_refl _) _).drew⟩

theorem grow_any (N : Nat) (w : World) (hN : N ≤ 8388608) : Calls Try.prog 25 #[.slice none 0 0, .int .i64 N] w fun e w' => ∃ v, e = .returned v ∧ w'.ownsRow w.heap.size 9 1 v 0 [] ∧ Below w.heap.size w w' := by
  by_cases h : 0 < N
  · exact grow_pos N w h hN
  · obtain rfl : N = 0 := by omega
    refine (grow_zero w).mono ?_
    rintro e w' ⟨rfl, rfl⟩
    exact ⟨_, rfl, World.ownsRow_nil _ _ _ _, Below.refl _ _⟩

set_option maxHeartbeats 800000 in
theorem concat_any (p : Nat) (a1 a2 : Option Addr) (c1 c2 : Nat) (ss1 ss2 : List ByteArray) (w : World) (hN : ss1.length + ss2.length ≤ 8388608)
    (hp : w.cell? ⟨p, 0, none⟩ = some (.slice a1 ss1.length c1)) (hq : w.cell? ⟨p, 1, none⟩ = some (.slice a2 ss2.length c2)) (hpz : p < w.heap.size)
    (h1 : Strs w w.heap.size (.slice a1 ss1.length c1) ss1) (h2 : Strs w w.heap.size (.slice a2 ss2.length c2) ss2) :
    Calls Try.prog 23 #[.slice (some ⟨p, 0, none⟩) 2 2] w fun e w' => ∃ v, e = .returned v ∧ w'.ownsRow w.heap.size 9 1 v (ss1.length + ss2.length) (strVals (ss1 ++ ss2)) ∧ Below w.heap.size w w' := by
  have H1 : Hid (Strs w w.heap.size (.slice a1 ss1.length c1) ss1) := h1
  have H2 : Hid (Strs w w.heap.size (.slice a2 ss2.length c2) ss2) := h2
  clear h1 h2
  go_enter Try.func23, Try.ntmps23
  go_wp2_with fail
  refine wp_loop_rounds 3 ?_
  rw [rounds_succ]
  go_wp2_with fail
  rw [rounds_succ]
  go_wp2_with fail
  rw [rounds_succ]
  go_wp2_with fail
  rw [show ((ss1.length : Int) + (ss2.length : Int)) = ((ss1.length + ss2.length : Nat) : Int) by omega]
  refine (grow_any (ss1.length + ss2.length) w hN).mono ?_
  rintro e wg ⟨v, rfl, hown, hbel⟩
  have hp1 : wg.cell? ⟨p, 0, none⟩ = some (.slice a1 ss1.length c1) := (hbel.cell hpz).trans hp
  have hq1 : wg.cell? ⟨p, 1, none⟩ = some (.slice a2 ss2.length c2) := (hbel.cell hpz).trans hq
  have hz := hbel.size
  have HO : Hid (wg.ownsRow w.heap.size 9 1 v 0 []) := hown
  have HB : Hid (Below w.heap.size w wg) := hbel
  clear hp hq hown hbel
  go_wp2_with fail
  refine wp_loop_rounds 3 ?_
  rw [rounds_succ]
  go_wp2_with (at_builtin; refine append_strs rfl _ _ rfl w.heap.size v 0 [] rfl HO.out (.slice a1 ss1.length c1) rfl ss1 ((H1.out.later HB.out).mono hz) (by omega) hz ?_; intro v1 w1 hown1 hg1)
  have hb1 : Below w.heap.size w w1 := HB.out.grown hg1 hz (fun k hk => (HO.out.lt k hk).1)
  have hp2 : w1.cell? ⟨p, 1, none⟩ = some (.slice a2 ss2.length c2) := ((hb1.cell hpz).trans (HB.out.cell hpz).symm).trans hq1
  have hz1 := hb1.size
  have HO1 : Hid (w1.ownsRow w.heap.size 9 1 v1 (0 + ss1.length) ([] ++ strVals ss1)) := hown1
  have HB1 : Hid (Below w.heap.size w w1) := hb1
  clear hp1 hq1 hown1 hb1 hg1
  rw [rounds_succ]
  go_wp2_with (at_builtin; refine append_strs rfl _ _ rfl w.heap.size v1 (0 + ss1.length) ([] ++ strVals ss1) rfl HO1.out (.slice a2 ss2.length c2) rfl ss2 ((H2.out.later HB1.out).mono hz1) (by omega) hz1 ?_; intro v2 w2 hown2 hg2)
  have HB2 : Hid (Below w.heap.size w w2) := HB1.out.grown hg2 hz1 (fun k hk => (HO1.out.lt k hk).1)
  have HO2 : Hid (w2.ownsRow w.heap.size 9 1 v2 (ss1.length + ss2.length) (strVals (ss1 ++ ss2))) := by
    have := hown2
    rw [Nat.zero_add, List.nil_append] at this
    rw [strVals, List.map_append]
    exact this
  clear hown2 hg2
  rw [rounds_succ]
  go_wp2_with fail
  go_ret
  exact ⟨v2, rfl, HO2.out, HB2.out⟩
end Go.Proofs.Qxb6602459a
