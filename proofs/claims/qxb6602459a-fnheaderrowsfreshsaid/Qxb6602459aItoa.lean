import Derived.Test.Qxb6602459aMem
namespace Go.Proofs.Qxb6602459a
open Go.RowKit
set_option linter.unusedVariables false

/-- the decimal digits of n ahead of acc, at most f of them -/
def itoaL : Nat → Nat → List UInt8 → List UInt8
  | 0, _, acc => acc
  | f + 1, n, acc => if n = 0 then acc else itoaL f (n / 10) (UInt8.ofNat (48 + n % 10) :: acc)

/-- the mark of row n -/
def mark (n : Nat) : ByteArray := if n = 0 then ⟨#[48]⟩ else ⟨(itoaL 24 n []).toArray⟩

theorem dig_toNat (m : Nat) : (UInt8.ofNat (48 + m % 10)).toNat = 48 + m % 10 := by
  rw [UInt8.toNat_ofNat']
  omega

theorem pow_step (i m : Nat) (h : m < 10 ^ (i - 20)) (h0 : 0 < m) (hi : 20 ≤ i) : 20 < i ∧ m / 10 < 10 ^ (i - 1 - 20) := by
  have h1 : 20 < i := by
    apply Classical.byContradiction
    intro hn
    have : i - 20 = 0 := by omega
    rw [this] at h
    simp at h
    omega
  refine ⟨h1, ?_⟩
  rw [Nat.div_lt_iff_lt_mul (by omega), ← Nat.pow_succ, show (i - 1 - 20).succ = i - 20 by omega]
  exact h

theorem slice24 (w : World) (g k : Nat) (hk : k < 24) :
    (Instr.sliceAt 35 (.pointer (some ⟨g, 0, none⟩)) (some (.int .i64 k)) none none).run Try.prog w = .ok (.slice (some ⟨g, k, none⟩) (24 - k) (24 - k)) w := by
  have h35 : Try.prog.arrayLen 35 = 24 := by simp [Program.arrayLen, Try.underlying35]
  have e35 : Try.prog.elem 35 = 5 := by simp [Program.elem, Try.underlying35]
  have hs : (sizeOf 5).run Try.prog w = .ok 1 w := by
    have : (Try.prog.info? 5).map (fun i => i.size) = some 1 := by kernel_rfl
    obtain ⟨i, hi, hz⟩ := Option.map_eq_some_iff.1 this
    simp [Go.sizeOf, typeInfo, hi, hz]
  rw [run_sliceAt_array_l w 35 ⟨g, 0, none⟩ (by rw [h35, e35]; exact Try.underlying35) .i64 k (by omega) (by rw [h35]; omega), h35, e35, hs]
  have h1 : ¬ 24 = k := by omega
  by_cases h0 : k = 0
  · subst h0; simp [Result.andThen, slicedAt, Addr.add]
  · simp [Result.andThen, slicedAt, Addr.add, h1, h0]

theorem itoa_zero (w : World) : Calls Try.prog 12 #[.int .i64 0] w fun e w' => e = .returned (.string ⟨#[48]⟩) ∧ w' = w := by
  go_enter Try.func12, Try.ntmps12
  go_wp2
  go_ret
  exact ⟨rfl, rfl⟩

/-- the row of 24 bytes, the digits acc at its end -/
def DigRow (w : World) (g i : Nat) (acc : List UInt8) : Prop := ∃ F, w.rowIs g 35 24 F ∧ i + acc.length = 24 ∧ ∀ j (hj : j < acc.length), F (i + j) = .int .u8 (acc[j].toNat : Int)

theorem DigRow.step {w : World} {g k : Nat} {acc : List UInt8} (h : DigRow w g k acc) (h0 : 0 < k) (m : Nat) :
    DigRow (w.setCell ⟨g, k - 1, none⟩ (.int .u8 (48 + (m : Int) % 10))) g (k - 1) (UInt8.ofNat (48 + m % 10) :: acc) := by
  obtain ⟨F, hrow, hl, hF⟩ := h
  refine ⟨_, hrow.set (k - 1) _, by simp only [List.length_cons]; omega, fun j hj => ?_⟩
  cases j with
  | zero =>
    rw [Nat.add_zero, if_pos rfl]
    have := dig_toNat m
    show Value.int .u8 (48 + (m : Int) % 10) = .int .u8 (((UInt8.ofNat (48 + m % 10)).toNat : Nat) : Int)
    rw [this]
    congr 1
  | succ j =>
    rw [if_neg (by omega), show k - 1 + (j + 1) = k + j by omega]
    exact hF j (by simp at hj; omega)

set_option maxHeartbeats 400000 in
theorem itoa_pos (n : Nat) (w : World) (h0 : 0 < n) (hn : n ≤ 1024) :
    Calls Try.prog 12 #[.int .i64 n] w fun e w' => e = .returned (.string ⟨(itoaL 24 n []).toArray⟩) ∧ Below w.heap.size w w' := by
  go_enter Try.func12, Try.ntmps12
  go_wp2
  go_loopw [0, 4] (fun t i wr => ∃ (k m : Nat) (acc : List UInt8), 20 ≤ k ∧ k ≤ 24 ∧ (k < 24 ∨ 0 < m) ∧ m ≤ 1024 ∧ t = .int .i64 m ∧ i = .int .i64 k ∧ Hid (m < 10 ^ (k - 20)) ∧ Hid (itoaL k m acc = itoaL 24 n []) ∧ Hid (DigRow wr w.heap.size k acc) ∧ Hid (Below w.heap.size w wr)) (fun t _ _ => (intOf t).toNat)
  case atStart =>
    refine ⟨24, n, [], by omega, by omega, Or.inr h0, hn, rfl, rfl, (show n < 10 ^ 4 by omega), rfl, ⟨fun _ => .int .u8 0, World.rowIs_alloc w _ 35 _ ?_, rfl, fun j hj => by simp at hj⟩, (Below.refl _ _).alloc (Nat.le_refl _) _⟩
    intro i hi
    have hi' : i < 24 := hi
    have hall : ∀ i : Fin 24, (#[Value.int .u8 0, .int .u8 0, .int .u8 0, .int .u8 0, .int .u8 0, .int .u8 0, .int .u8 0, .int .u8 0, .int .u8 0, .int .u8 0, .int .u8 0, .int .u8 0, .int .u8 0, .int .u8 0, .int .u8 0, .int .u8 0, .int .u8 0, .int .u8 0, .int .u8 0, .int .u8 0, .int .u8 0, .int .u8 0, .int .u8 0, .int .u8 0] : Array Value)[i.1]? = some (.int .u8 0) := by
      intro i
      have h := i.2
      rw [show (#[Value.int .u8 0, .int .u8 0, .int .u8 0, .int .u8 0, .int .u8 0, .int .u8 0, .int .u8 0, .int .u8 0, .int .u8 0, .int .u8 0, .int .u8 0, .int .u8 0, .int .u8 0, .int .u8 0, .int .u8 0, .int .u8 0, .int .u8 0, .int .u8 0, .int .u8 0, .int .u8 0, .int .u8 0, .int .u8 0, .int .u8 0, .int .u8 0] : Array Value) = Array.replicate 24 (.int .u8 0) from rfl, Array.getElem?_replicate, if_pos h]
    exact hall ⟨i, hi'⟩
  case round =>
    obtain ⟨k, m, acc, hk0, hk, hor, hm, rfl, rfl, HP, HI, HD, HB⟩ := hrel
    by_cases hlt : 0 < m
    · obtain ⟨hk1, hp1⟩ := pow_step k m HP.out hlt hk0
      obtain ⟨F, hrow, hl, hF⟩ := HD.out
      have hfz := hrow.frozen (k - 1)
      have hcg := hrow.cell (i := k - 1) (by omega)
      have HP1 : Hid (m / 10 < 10 ^ (k - 1 - 20)) := hp1
      have HB1 : Hid (∀ v, Below w.heap.size w (wr.setCell ⟨w.heap.size, k - 1, none⟩ v)) := fun v => HB.out.setCell (Nat.le_refl _) v
      clear hp1 hF hrow HB HP
      go_wp2
      go_roundw
      case rel =>
        refine ⟨k - 1, m / 10, UInt8.ofNat (48 + m % 10) :: acc, by omega, by omega, Or.inl (by omega), by omega, by go_num, ?_, HP1.out, ?_, HD.out.step (by omega) m, HB1.out _⟩
        · congr 1; omega
        · have := HI.out
          rw [show k = (k - 1) + 1 by omega, itoaL, if_neg (by omega)] at this
          exact this
      case measure => simp [intOf]; omega
    · have hm0 : m = 0 := by omega
      subst hm0
      have hk1 : k < 24 := by omega
      obtain ⟨F, hrow, hl, hF⟩ := HD.out
      have HR : Hid (acc = itoaL 24 n []) := by
        have := HI.out
        rw [show k = (k - 1) + 1 by omega, itoaL, if_pos rfl] at this
        exact this
      have hcv := run_convert_bytes_back (P := Try.prog) wr 36 9 5 ⟨w.heap.size, k, none⟩ (24 - k) acc Try.underlying36 Try.underlying5 Try.underlying9 (fun j hj => by
        rw [Addr.add_lit, hrow.cell (by omega), hF j hj])
      rw [show acc.length = 24 - k by omega] at hcv
      have hsl := slice24 wr w.heap.size k hk1
      clear hF hrow HD HI HP hl
      go_wp2
      go_ret
      exact ⟨by rw [← HR.out]; rfl, HB.out⟩

theorem itoa_any (n : Nat) (w : World) (hn : n ≤ 1024) :
    Calls Try.prog 12 #[.int .i64 n] w fun e w' => e = .returned (.string (mark n)) ∧ Below w.heap.size w w' := by
  by_cases h : 0 < n
  · have e : mark n = ⟨(itoaL 24 n []).toArray⟩ := by unfold mark; rw [if_neg (by omega)]
    rw [e]
    exact itoa_pos n w h hn
  · obtain rfl : n = 0 := by omega
    refine (itoa_zero w).mono ?_
    rintro e w' ⟨rfl, rfl⟩
    exact ⟨rfl, Below.refl _ _⟩
end Go.Proofs.Qxb6602459a
