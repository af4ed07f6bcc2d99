import Derived.Test.Qxb6602459aSplitPlain
import Derived.Test.Qxb6602459aRowsV
import Derived.Lib.Strings
namespace Go.Proofs.Qxb6602459a
open Go.RowKit
set_option linter.unusedVariables false

theorem len_data (s : ByteArray) : s.data.toList.length = s.size := rfl
theorem drop_at (s : ByteArray) (k : Nat) (h : k < s.size) : s.data.toList.drop k = s[k] :: s.data.toList.drop (k + 1) := by
  rw [List.drop_eq_getElem_cons (by simpa using h)]; rfl
theorem u8_eq (x y : UInt8) : ((x.toNat : Int) == (y.toNat : Int)) = decide (x = y) := by
  rw [Bool.eq_iff_iff]; simp only [beq_iff_eq, decide_eq_true_eq]
  exact ⟨fun h => UInt8.toNat_inj.mp (by omega), fun h => by rw [h]⟩

/-- does s hold the byte c? -/
def hasB (s : ByteArray) (c : UInt8) : Bool := s.data.toList.contains c

theorem hasB_no (s : ByteArray) (c : UInt8) : hasB s c = false → c ∉ s.data.toList := by
  unfold hasB
  intro h hm
  rw [List.contains_iff_mem.2 hm] at h
  cases h

set_option maxHeartbeats 400000 in
theorem has_any (s : ByteArray) (c : UInt8) (n : Int) (hn : (c.toNat : Int) = n) (w : World) (hs : s.size ≤ maxLen) :
    Calls Try.prog 21 #[.string s, .int .u8 n] w fun e w' => e = .returned (.bool (hasB s c)) ∧ w' = w := by
  unfold maxLen at hs
  have HN : Hid ((c.toNat : Int) = n) := hn
  clear hn
  go_enter Try.func21, Try.ntmps21
  go_wp2
  go_loop [5] (fun i => ∃ k : Nat, k ≤ s.size ∧ i = .int .i64 k ∧ Hid ((s.data.toList.drop k).contains c = hasB s c)) (fun i => s.size - (intOf i).toNat)
  case atStart => exact ⟨0, Nat.zero_le _, rfl, rfl⟩
  case round =>
    obtain ⟨k, hk, rfl, HI⟩ := hrel
    by_cases h1 : k < s.size
    · by_cases e : s[k] = c
      · have hq : ((s[k].toNat : Int) == n) = true := by rw [← HN.out, u8_eq]; simp [e]
        have HR : Hid (hasB s c = true) := by
          rw [← HI.out, drop_at s k h1, e]
          exact (by simp : (List.contains (c :: List.drop (k + 1) s.data.toList) c) = true)
        clear e HI
        go_wp2
        go_ret
        exact ⟨by rw [HR.out]; rfl, rfl⟩
      · have hq : ((s[k].toNat : Int) == n) = false := by rw [← HN.out, u8_eq]; simp [e]
        have HR : Hid ((s.data.toList.drop (k + 1)).contains c = hasB s c) := by
          have := HI.out
          rw [drop_at s k h1, List.contains_cons] at this
          have hb : (c == s[k]) = false := by simpa using fun h => e h.symm
          rw [hb, Bool.false_or] at this
          exact this
        clear e HI
        go_wp2
        go_round
        case rel => exact ⟨k + 1, by omega, by go_num, HR.out⟩
        case measure => simp [intOf]; omega
    · have HR : Hid (hasB s c = false) := by
        have := HI.out
        rw [List.drop_of_length_le (by rw [len_data]; omega)] at this
        exact this.symm
      clear HI
      go_wp2
      go_ret
      exact ⟨by rw [HR.out]; rfl, rfl⟩

/-- at least one row, no row empty, no field holding a comma or a blank -/
def CleanR (rs : List (List ByteArray)) : Prop := rs ≠ [] ∧ ∀ r ∈ rs, r ≠ [] ∧ ∀ s ∈ r, hasB s 44 = false ∧ hasB s 32 = false

def CleanPost (rs : List (List ByteArray)) (w : World) (e : Ending) (w' : World) : Prop := ∃ b : Bool, e = .returned (.bool b) ∧ w' = w ∧ (b = true → CleanR rs)
theorem CleanPost.no {rs : List (List ByteArray)} {w : World} : CleanPost rs w (.returned (.bool false)) w := ⟨false, rfl, rfl, fun h => by cases h⟩
theorem CleanPost.yes {rs : List (List ByteArray)} {w : World} (h : CleanR rs) : CleanPost rs w (.returned (.bool true)) w := ⟨true, rfl, rfl, fun _ => h⟩

set_option maxHeartbeats 1000000 in
theorem clean_any (v : Value) (rs : List (List ByteArray)) (w : World) (hl : rs.length ≤ 1048576) (hz : ∀ r ∈ rs, r.length ≤ 1048576 ∧ ∀ s ∈ r, s.size ≤ maxLen) (h : RowsV w w.heap.size v rs) :
    Calls Try.prog 15 #[v] w (CleanPost rs w) := by
  obtain ⟨a, c, rfl⟩ := h.shape
  have HR : Hid (RowsV w w.heap.size (.slice a rs.length c) rs) := h
  have HZ : Hid (∀ r ∈ rs, r.length ≤ 1048576 ∧ ∀ s ∈ r, s.size ≤ maxLen) := hz
  have hcap := h.cap
  clear h hz
  by_cases q0 : ((rs.length : Int) == 0) = true
  · go_enter Try.func15, Try.ntmps15
    go_wp2_with fail
    go_ret
    exact CleanPost.no
  have q0' : ((rs.length : Int) == 0) = false := by simpa using q0
  have HNe : Hid (rs ≠ []) := by intro e; subst e; simp at q0'
  clear q0
  go_enter Try.func15, Try.ntmps15
  go_wp2_with fail
  go_loop [3] (fun i => ∃ k : Nat, k ≤ rs.length ∧ i = .int .i64 k ∧ Hid (∀ j r, j < k → rs[j]? = some r → r ≠ [] ∧ ∀ s ∈ r, hasB s 44 = false ∧ hasB s 32 = false)) (fun i => rs.length - (intOf i).toNat)
  case atStart => exact ⟨0, Nat.zero_le _, rfl, fun j r hj => by omega⟩
  case round =>
    obtain ⟨k, hk, rfl, HI⟩ := hrel
    by_cases hlt : k < rs.length
    · obtain ⟨b, o, rfl, hb, hcell⟩ := HR.out.at k hlt
      obtain ⟨av, cv, hck, hSk⟩ := hcell k _ (List.getElem?_eq_getElem hlt)
      have hzk := HZ.out _ (List.getElem_mem hlt)
      have hrl := hzk.1
      have HZk : Hid (∀ s ∈ rs[k], s.size ≤ maxLen) := hzk.2
      have HSk : Hid (Strs w w.heap.size (.slice av rs[k].length cv) rs[k]) := hSk
      have hcapk := hSk.cap
      generalize hrow : rs[k] = r at hrl HZk HSk hcapk hck
      have HRW : Hid (rs[k] = r) := hrow
      clear hcell hSk hzk hrow
      by_cases q1 : ((r.length : Int) == 0) = true
      · go_wp2_with fail
        go_ret
        exact CleanPost.no
      have q1' : ((r.length : Int) == 0) = false := by simpa using q1
      have HNr : Hid (r ≠ []) := by intro e; subst e; simp at q1'
      clear q1
      go_wp2_with fail
      go_loop [4] (fun i => ∃ j : Nat, j ≤ r.length ∧ i = .int .i64 j ∧ Hid (∀ t s, t < j → r[t]? = some s → hasB s 44 = false ∧ hasB s 32 = false)) (fun i => r.length - (intOf i).toNat)
      case atStart => exact ⟨0, Nat.zero_le _, rfl, fun t s ht => by omega⟩
      case round =>
        obtain ⟨j, hj, rfl, HJ⟩ := hrel
        by_cases hjl : j < r.length
        · obtain ⟨b', o', rfl, hb', hcell'⟩ := HSk.out.at j hjl
          have hcj : w.cell? ⟨b', o' + j, none⟩ = some (.string r[j]) := hcell' j _ (List.getElem?_eq_getElem hjl)
          have hmj := HZk.out _ (List.getElem_mem hjl)
          clear hcell'
          cases h44 : hasB r[j] 44 with
          | true =>
            go_wp2_with fail
            refine (has_any r[j] 44 _ (by rfl) w hmj).mono ?_
            rintro e w' ⟨rfl, hw⟩
            replace hw := hw.symm
            subst hw
            go_wp2_with fail
            go_ret
            exact CleanPost.no
          | false =>
            go_wp2_with fail
            refine (has_any r[j] 44 _ (by rfl) w hmj).mono ?_
            rintro e w' ⟨rfl, hw⟩
            replace hw := hw.symm
            subst hw
            cases h32 : hasB r[j] 32 with
            | true =>
              go_wp2_with fail
              refine (has_any r[j] 32 _ (by rfl) w hmj).mono ?_
              rintro e w' ⟨rfl, hw⟩
              replace hw := hw.symm
              subst hw
              go_wp2_with fail
              go_ret
              exact CleanPost.no
            | false =>
              go_wp2_with fail
              refine (has_any r[j] 32 _ (by rfl) w hmj).mono ?_
              rintro e w' ⟨rfl, hw⟩
              replace hw := hw.symm
              subst hw
              have HN : Hid (∀ t s, t < j + 1 → r[t]? = some s → hasB s 44 = false ∧ hasB s 32 = false) := by
                intro t s ht hs
                by_cases e : t = j
                · subst e
                  rw [List.getElem?_eq_getElem hjl] at hs
                  obtain rfl := Option.some.inj hs
                  exact ⟨h44, h32⟩
                · exact HJ.out t s (by omega) hs
              clear HJ
              go_wp2_with fail
              go_round
              case rel => exact ⟨j + 1, by omega, by go_num, HN.out⟩
              case measure => simp [intOf]; omega
        · have hjj : j = r.length := by omega
          subst hjj
          have HN : Hid (∀ j r, j < k + 1 → rs[j]? = some r → r ≠ [] ∧ ∀ s ∈ r, hasB s 44 = false ∧ hasB s 32 = false) := by
            intro t r' ht hs
            by_cases e : t = k
            · subst e
              rw [List.getElem?_eq_getElem hlt] at hs
              obtain rfl := Option.some.inj hs
              rw [HRW.out]
              refine ⟨HNr.out, fun s hs => ?_⟩
              obtain ⟨t, ht⟩ := List.getElem?_of_mem hs
              exact HJ.out t s (List.getElem?_eq_some_iff.1 ht).1 ht
            · exact HI.out t r' (by omega) hs
          clear HI HJ
          go_wp2_with fail
          go_round
          case rel => exact ⟨k + 1, by omega, by go_num, HN.out⟩
          case measure => simp [intOf]; omega
    · have hkk : k = rs.length := by omega
      subst hkk
      have HC : Hid (CleanR rs) := by
        refine ⟨HNe.out, fun r hr => ?_⟩
        obtain ⟨t, ht⟩ := List.getElem?_of_mem hr
        exact HI.out t r (List.getElem?_eq_some_iff.1 ht).1 ht
      clear HI
      go_wp2_with fail
      go_ret
      exact CleanPost.yes HC.out
end Go.Proofs.Qxb6602459a
