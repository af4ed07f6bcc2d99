import Derived.Test.Qxb6602459aSmall13
import Derived.Test.Qxb6602459aShelf
namespace Go.Proofs.Qxb6602459a
open Go.RowKit
set_option linter.unusedVariables false

/-- strings.Join as a function of byte strings -/
def joinB (ss : List ByteArray) (sep : ByteArray) : ByteArray := ⟨(Lib.join (ss.map (·.data.toList)) sep.data.toList).toArray⟩

theorem lib_lens (ss : List ByteArray) : Lib.lens (ss.map (·.data.toList)) = lens ss := by
  unfold Lib.lens lens
  rw [List.map_map]
  congr 1

theorem join_len (ss : List ByteArray) (sep : ByteArray) : (Lib.join (ss.map (·.data.toList)) sep.data.toList).length ≤ sep.size * ss.length + lens ss := by
  cases ss with
  | nil => simp [Lib.join_nil]
  | cons x r =>
    have hx : Lib.lens (x.data.toList :: r.map (·.data.toList)) = lens (x :: r) := lib_lens (x :: r)
    rw [List.map_cons, Lib.join_length, hx]
    simp only [List.length_map, List.length_cons]
    have : sep.data.toList.length = sep.size := rfl
    rw [this, Nat.mul_add]
    omega

theorem joinB_size (ss : List ByteArray) (sep : ByteArray) : (joinB ss sep).size ≤ sep.size * ss.length + lens ss := by
  have := join_len ss sep
  have e : (joinB ss sep).size = (Lib.join (ss.map (·.data.toList)) sep.data.toList).length := by
    unfold joinB
    exact List.size_toArray
  rw [e]
  exact this

/-- strings.Join on a slice of strings -/
theorem join_any (v : Value) (ss : List ByteArray) (sep : ByteArray) (w : World) (h : Strs w w.heap.size v ss) (hl : sep.size * ss.length + lens ss ≤ 140737488355328) (hn : ss.length ≤ 140737488355328) :
    Calls Try.prog 24 #[v, .string sep] w fun e w' => e = .returned (.string (joinB ss sep)) ∧ Below w.heap.size w w' := by
  obtain ⟨a, c, rfl, hc, hnn, hr⟩ := h
  by_cases hne : ss = []
  · subst hne
    refine (Try.strings_Join_none a c sep w).mono ?_
    rintro e w' ⟨rfl, hw⟩
    subst hw
    exact ⟨rfl, Below.refl _ _⟩
  · obtain ⟨b, o, rfl, hB, hcell⟩ := hr hne
    exact Try.strings_Join b o c ss sep w hcell hB hn hc.1 (Nat.le_trans (join_len ss sep) hl)

def comma : ByteArray := ⟨#[44]⟩
def orSep : ByteArray := ⟨#[32, 111, 114, 32]⟩

/-- headerList as a function -/
def hlist (rs : List (List ByteArray)) : ByteArray := joinB (rs.map fun r => joinB r comma) orSep

theorem totR_cons (r : List ByteArray) (rs : List (List ByteArray)) : totR (r :: rs) = r.length + lens r + totR rs := by simp [totR]

theorem lens_joined (rs : List (List ByteArray)) : lens (rs.map fun r => joinB r comma) ≤ totR rs := by
  induction rs with
  | nil => simp [lens, totR]
  | cons r rs ih =>
    rw [totR_cons, List.map_cons]
    have h1 : lens (joinB r comma :: rs.map fun r => joinB r comma) = (joinB r comma).size + lens (rs.map fun r => joinB r comma) := by simp [lens]
    have h2 := joinB_size r comma
    have h3 : comma.size = 1 := rfl
    rw [h3, Nat.one_mul] at h2
    omega

theorem totR_mem {rs : List (List ByteArray)} {r : List ByteArray} (h : r ∈ rs) : r.length + lens r ≤ totR rs := by
  induction rs with
  | nil => cases h
  | cons x xs ih =>
    rw [totR_cons]
    rcases List.mem_cons.1 h with rfl | h
    · omega
    · have := ih h; omega

theorem fill_step2 (ss : List ByteArray) (k : Nat) (h : k < ss.length) (u : ByteArray) (hu : ss[k] = u) (j : Nat) : (if j = k then .string u else fill ss k j) = fill ss (k + 1) j := by
  subst hu
  exact fill_step ss k h j

set_option maxHeartbeats 800000 in
theorem hlist_any (v : Value) (rs : List (List ByteArray)) (w : World) (hs : rs.length + totR rs ≤ 4194304) (h : RowsV w w.heap.size v rs) :
    Calls Try.prog 22 #[v] w fun e w' => e = .returned (.string (hlist rs)) ∧ Below w.heap.size w w' := by
  obtain ⟨a, c, rfl⟩ := h.shape
  have hmk := fun w => run_make_row' (P := Try.prog) 22 9 _ 16 Try.underlying22 Try.info9 rfl .i64 .i64 rs.length (by omega) (by omega) w
  have HR : Hid (RowsV w w.heap.size (.slice a rs.length c) rs) := h
  have HT : Hid (∀ r ∈ rs, r.length + lens r ≤ totR rs) := fun r hr => totR_mem hr
  have HL : Hid (lens (rs.map fun r => joinB r comma) ≤ totR rs) := lens_joined rs
  have HM : Hid ((rs.map fun r => joinB r comma).length = rs.length) := List.length_map _
  have HE : Hid (∀ k (hk : k < rs.length) (hk' : k < (rs.map fun r => joinB r comma).length), (rs.map fun r => joinB r comma)[k] = joinB rs[k] comma) := fun k hk hk' => by simp
  have hcap := h.cap
  clear h
  obtain ⟨js, hjs⟩ : ∃ js, js = rs.map fun r => joinB r comma := ⟨_, rfl⟩
  have HJ : Hid (hlist rs = joinB js orSep) := by rw [hjs]; exact rfl
  rw [← hjs] at HL HM HE
  clear hjs
  go_enter Try.func22, Try.ntmps22
  go_wp2_with fail
  go_loopw [11] (fun i wr => ∃ k : Nat, k ≤ rs.length ∧ i = .int .i64 k ∧ Hid (Below w.heap.size w wr) ∧ Hid (wr.rowIs w.heap.size 9 rs.length (fill js k))) (fun i _ => rs.length - (intOf i).toNat)
  case atStart => exact ⟨0, Nat.zero_le _, rfl, (Below.refl _ _).alloc (Nat.le_refl _) _, (World.rowIs_made w _ _ 9).congr (fun i hi => by simp [fill])⟩
  case round =>
    obtain ⟨k, hk, rfl, HB, HW⟩ := hrel
    by_cases hlt : k < rs.length
    · have hsz := HB.out.size
      obtain ⟨b, o, rfl, hb, hcell⟩ := (HR.out.later HB.out).at k hlt
      obtain ⟨av, cv, hck, hSk⟩ := hcell k _ (List.getElem?_eq_getElem hlt)
      have HSk : Hid (Strs wr wr.heap.size (.slice av rs[k].length cv) rs[k]) := hSk.mono hsz
      have htk := HT.out _ (List.getElem_mem hlt)
      clear hcell hSk
      go_wp2_with fail
      refine (join_any _ rs[k] ⟨#[44]⟩ wr HSk.out (by show 1 * _ + _ ≤ _; omega) (by omega)).mono ?_
      rintro e w2 ⟨rfl, hbel⟩
      have hgw := HW.out.lt
      have hfz2 : w2.frozen? ⟨w.heap.size, k, none⟩ = false := by rw [hbel.frozen hgw]; exact HW.out.frozen k
      have hcg2 : w2.cell? ⟨w.heap.size, k, none⟩ = some (fill js k k) := by rw [hbel.cell hgw, HW.out.cell hlt]
      have hjk : k < js.length := by have := HM.out; omega
      have HN : Hid ((w2.setCell ⟨w.heap.size, k, none⟩ (.string (joinB rs[k] ⟨#[44]⟩))).rowIs w.heap.size 9 rs.length (fill js (k + 1))) :=
        ((HW.out.of_block (hbel.block _ hgw)).set k _).congr fun j _ => fill_step2 js k hjk _ (HE.out k hlt hjk) j
      have HB2 : Hid (Below w.heap.size w (w2.setCell ⟨w.heap.size, k, none⟩ (.string (joinB rs[k] ⟨#[44]⟩)))) := (HB.out.trans (hbel.mono hsz)).setCell (Nat.le_refl _) _
      generalize joinB rs[k] ⟨#[44]⟩ = jk at HN HB2 ⊢
      clear hbel hgw HSk HR HL HM HE HT hmk hck HB HW HJ
      go_wp2_with fail
      go_roundw
      case rel => exact ⟨k + 1, by omega, by go_num, HB2.out, HN.out⟩
      case measure => simp [intOf]; omega
    · have hkk : k = rs.length := by omega
      subst hkk
      have hsz := HB.out.size
      have hlt2 := HW.out.lt
      have hml := HM.out
      have hll := HL.out
      have HSj : Hid (Strs wr wr.heap.size (.slice (some ⟨w.heap.size, 0, none⟩) rs.length rs.length) js) :=
        (Strs.of_row (by omega) hml HW.out).mono hlt2
      clear hlt hk HW hml
      go_wp2_with fail
      refine (join_any _ js ⟨#[32, 111, 114, 32]⟩ wr HSj.out (by have := HM.out; show 4 * _ + _ ≤ _; omega) (by have := HM.out; omega)).mono ?_
      rintro e w2 ⟨rfl, hbel⟩
      go_wp2_with fail
      go_ret
      exact ⟨by rw [HJ.out]; rfl, HB.out.trans (hbel.mono hsz)⟩

theorem zzhlist_any (v : Value) (rs : List (List ByteArray)) (w : World) (hs : rs.length + totR rs ≤ 4194304) (h : RowsV w w.heap.size v rs) :
    Calls Try.prog 17 #[v] w fun e w' => e = .returned (.string (hlist rs)) ∧ Below w.heap.size w w' := by
  obtain ⟨a, c, rfl⟩ := h.shape
  go_enter Try.func17, Try.ntmps17
  go_wp2_with fail
  refine (hlist_any _ rs w hs h).mono ?_
  rintro e w' ⟨rfl, hb⟩
  generalize hX : hlist rs = x
  have HX : Hid (hlist rs = x) := hX
  clear hX
  go_wp2_with fail
  go_ret
  exact ⟨by rw [HX.out]; rfl, hb⟩
end Go.Proofs.Qxb6602459a
