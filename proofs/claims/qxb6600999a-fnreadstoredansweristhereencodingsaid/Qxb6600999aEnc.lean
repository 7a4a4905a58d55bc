import Derived.Test.Qxb6600999aBack
import Derived.Test.Qxb6600999aFits
namespace Go.Proofs.Qxb6600999a.W
open Go.RowKit Go.Proofs.Qxb6600999a.Plain
set_option linter.unusedVariables false

/-- What zzEncode leaves: the bytes l in a row of its own, and true. -/
def Enc (w : World) (l : List UInt8) (e : Ending) (w' : World) : Prop :=
  ∃ v, e = .returned (.tuple #[v, .bool true]) ∧ w'.ownsRow w.heap.size 5 1 v l.length (bc l) ∧ Below w.heap.size w w'

set_option maxHeartbeats 1600000 in
theorem enc_null (w : World) :
    Calls Try.prog 13 #[.int .u8 0, .int .i64 0, .string ByteArray.empty, .int .i64 0] w (Enc w [UInt8.ofNat 0]) := by
  obtain ⟨i0, hi, hz0, hz1, hz2⟩ := info_parts info5
  have H2 := hide hz2
  clear hz2
  go_enter Try.func13, Try.ntmps13
  go_wp2_with (at_make; refine wpList_make_own _ rfl _ _ 26 rfl w.heap.size 5 i0 (.int .u8 0) 1 Try.underlying26 hi hz0 hz1 _ _ _ (1) rfl rfl (by first | omega | (simp; done) | (simp; omega)) (by rw [H2.out]; omega) (by unfold maxLen; omega) (Nat.le_refl _) ?_)
  intro wA hownA hgrowA
  have hbA : Below w.heap.size w wA := (Below.refl _ _).grown hgrowA (Nat.le_refl _) (fun k h => by cases h)
  clear hgrowA
  go_wp2_with (at_builtin; refine wpList_append_own _ rfl (.tmp 32) (.tmp 38) 26 rfl w.heap.size 5 i0 (.int .u8 0) 1 1 Try.underlying26 hi hz0 hz1 H2.out rfl (by decide) _ _ _ rfl (hownA.alloc _) ⟨wA.heap.size, 0, none⟩ 1 1 [.int .u8 (0)] rfl rfl (cell_one_new _ _ _) (by simp [Value.oneCell']) (by unfold maxLen; omega) (by omega) (by have := hbA.size; simp; omega) ?_)
  intro vB wB hownB hgrowB hnilB
  have hbB : Below w.heap.size w wB := (hbA.alloc hbA.size _).grown hgrowB (by have := hbA.size; simp; omega) (fun k h => (hownA.lt k h).1)
  have hownB' : wB.ownsRow w.heap.size 5 1 vB 1 (bc [UInt8.ofNat 0]) := own_byte (l := []) (by omega) (by simpa [bc] using hownB)
  clear hownB hgrowB hnilB hownA hbA
  go_wp2
  refine wp_loop_rounds 1 ?_
  rw [rounds_succ]
  go_wp2
  go_ret2
  exact ⟨_, rfl, hownB', hbB⟩

set_option maxHeartbeats 1600000 in
theorem enc_int (x : Int) (hx0 : -9223372036854775808 ≤ x) (hx1 : x ≤ 9223372036854775807) (U : Nat) (hUz : zz x = (U : Int)) (n : Nat) (hn8 : n ≤ 8) (hU : U < 256 ^ n) (w : World) :
    Calls Try.prog 13 #[.int .u8 1, .int .i64 x, .string ByteArray.empty, .int .i64 n] w (Enc w (UInt8.ofNat (16 + n) :: digits U n)) := by
  obtain ⟨i0, hi, hz0, hz1, hz2⟩ := info_parts info5
  have H2 := hide hz2
  clear hz2
  have HU := hide hU
  clear hU
  have hzr := zz_range x hx0 hx1
  have hU64 : U ≤ 18446744073709551615 := by omega
  clear hzr
  have hzig := zigzag_any x w hx0 hx1
  rw [hUz] at hzig
  clear hUz
  go_enter Try.func13, Try.ntmps13
  go_wp2_with fail
  refine hzig.mono ?_
  rintro e w1 ⟨rfl, hww⟩
  obtain rfl : w = w1 := hww.symm
  clear hww hzig
  go_wp2_with (at_make; refine wpList_make_own _ rfl _ _ 26 rfl w.heap.size 5 i0 (.int .u8 0) 1 Try.underlying26 hi hz0 hz1 _ _ _ (1 + n) rfl rfl (by first | omega | (simp; done) | (simp; omega)) (by rw [H2.out]; omega) (by unfold maxLen; omega) (Nat.le_refl _) ?_)
  intro wA hownA hgrowA
  have hbA : Below w.heap.size w wA := (Below.refl _ _).grown hgrowA (Nat.le_refl _) (fun k h => by cases h)
  clear hgrowA
  go_wp2_with (at_builtin; refine wpList_append_own _ rfl (.tmp 32) (.tmp 38) 26 rfl w.heap.size 5 i0 (.int .u8 0) 1 1 Try.underlying26 hi hz0 hz1 H2.out rfl (by decide) _ _ _ rfl (hownA.alloc _) ⟨wA.heap.size, 0, none⟩ 1 1 [.int .u8 (16 + (n : Int))] rfl rfl (cell_one_new _ _ _) (by simp [Value.oneCell']) (by unfold maxLen; omega) (by omega) (by have := hbA.size; simp; omega) ?_)
  intro vB wB hownB hgrowB hnilB
  have hbB : Below w.heap.size w wB := (hbA.alloc hbA.size _).grown hgrowB (by have := hbA.size; simp; omega) (fun k h => (hownA.lt k h).1)
  have hownB' : wB.ownsRow w.heap.size 5 1 vB 1 (bc [UInt8.ofNat (16 + n)]) := own_byte (l := []) (by omega) (by simpa [bc] using hownB)
  clear hownB hgrowB hnilB hownA hbA
  go_wp2
  go_loopw [10, 11, 12] (fun u v p wr => ∃ (k a : Nat) (l : List UInt8), u = .int .u64 a ∧ p = .int .i64 k ∧ k ≤ n ∧ a ≤ 18446744073709551615 ∧ Hid (a = U / 256 ^ k) ∧ Hid (l = UInt8.ofNat (16 + n) :: digits U k) ∧ wr.ownsRow w.heap.size 5 1 v (k + 1) (bc l) ∧ Below w.heap.size w wr) (fun _ _ p _ => n - (intOf p).toNat)
  case atStart => exact ⟨0, U, _, rfl, rfl, Nat.zero_le _, by omega, hide (by simp), hide rfl, hownB', hbB⟩
  case round =>
    obtain ⟨k, a, l, rfl, rfl, hk, ha, HA, HL, hown, hb⟩ := hrel
    by_cases hkw : k < n
    · go_wp2_with (at_builtin; refine wpList_append_own _ rfl (.tmp 45) (.tmp 49) 26 rfl w.heap.size 5 i0 (.int .u8 0) 1 1 Try.underlying26 hi hz0 hz1 H2.out rfl (by decide) _ _ _ rfl (hown.alloc _) ⟨wr.heap.size, 0, none⟩ 1 1 [.int .u8 ((a : Int) % 256)] rfl rfl (cell_one_new _ _ _) (by simp [Value.oneCell']) (by unfold maxLen; omega) (by omega) (by have := hb.size; simp; omega) ?_)
      intro vC wC hownC hgrowC hnilC
      have hC : wC.ownsRow w.heap.size 5 1 vC (k + 1 + 1) (bc (l ++ [UInt8.ofNat (a % 256)])) := own_byte (by omega) (by simpa using hownC)
      have hbC : Below w.heap.size w wC := (hb.alloc hb.size _).grown hgrowC (by have := hb.size; simp; omega) (fun k h => (hown.lt k h).1)
      clear hownC hgrowC hnilC hown hb
      go_wp2
      go_roundw
      case rel => exact ⟨k + 1, a / 256, _, by go_num, by go_num, by omega, by omega, hide (by rw [HA.out]; exact div_pow_succ _ _), hide (by rw [HL.out, digits_snoc, HA.out]; rfl), hC, hbC⟩
      case measure => simp [intOf]; omega
    · obtain rfl : k = n := by omega
      have hz := hb.size
      obtain rfl : a = 0 := by rw [HA.out]; exact Nat.div_eq_of_lt HU.out
      go_wp2
      go_ret2
      refine ⟨_, rfl, ?_, hb⟩
      have hl : (UInt8.ofNat (16 + k) :: digits U k).length = k + 1 := by simp [digits_length]
      rw [hl, ← HL.out]
      exact hown

set_option maxHeartbeats 1600000 in
theorem enc_bool (x : Int) (hx0 : -9223372036854775808 ≤ x) (hx1 : x ≤ 9223372036854775807) (U : Nat) (hUz : zz x = (U : Int)) (n : Nat) (hn8 : n ≤ 8) (hU : U < 256 ^ n) (w : World) :
    Calls Try.prog 13 #[.int .u8 3, .int .i64 x, .string ByteArray.empty, .int .i64 n] w (Enc w (UInt8.ofNat (48 + n) :: digits U n)) := by
  obtain ⟨i0, hi, hz0, hz1, hz2⟩ := info_parts info5
  have H2 := hide hz2
  clear hz2
  have HU := hide hU
  clear hU
  have hzr := zz_range x hx0 hx1
  have hU64 : U ≤ 18446744073709551615 := by omega
  clear hzr
  have hzig := zigzag_any x w hx0 hx1
  rw [hUz] at hzig
  clear hUz
  go_enter Try.func13, Try.ntmps13
  go_wp2_with fail
  refine hzig.mono ?_
  rintro e w1 ⟨rfl, hww⟩
  obtain rfl : w = w1 := hww.symm
  clear hww hzig
  go_wp2_with (at_make; refine wpList_make_own _ rfl _ _ 26 rfl w.heap.size 5 i0 (.int .u8 0) 1 Try.underlying26 hi hz0 hz1 _ _ _ (1 + n) rfl rfl (by first | omega | (simp; done) | (simp; omega)) (by rw [H2.out]; omega) (by unfold maxLen; omega) (Nat.le_refl _) ?_)
  intro wA hownA hgrowA
  have hbA : Below w.heap.size w wA := (Below.refl _ _).grown hgrowA (Nat.le_refl _) (fun k h => by cases h)
  clear hgrowA
  go_wp2_with (at_builtin; refine wpList_append_own _ rfl (.tmp 32) (.tmp 38) 26 rfl w.heap.size 5 i0 (.int .u8 0) 1 1 Try.underlying26 hi hz0 hz1 H2.out rfl (by decide) _ _ _ rfl (hownA.alloc _) ⟨wA.heap.size, 0, none⟩ 1 1 [.int .u8 (48 + (n : Int))] rfl rfl (cell_one_new _ _ _) (by simp [Value.oneCell']) (by unfold maxLen; omega) (by omega) (by have := hbA.size; simp; omega) ?_)
  intro vB wB hownB hgrowB hnilB
  have hbB : Below w.heap.size w wB := (hbA.alloc hbA.size _).grown hgrowB (by have := hbA.size; simp; omega) (fun k h => (hownA.lt k h).1)
  have hownB' : wB.ownsRow w.heap.size 5 1 vB 1 (bc [UInt8.ofNat (48 + n)]) := own_byte (l := []) (by omega) (by simpa [bc] using hownB)
  clear hownB hgrowB hnilB hownA hbA
  go_wp2
  go_loopw [10, 11, 12] (fun u v p wr => ∃ (k a : Nat) (l : List UInt8), u = .int .u64 a ∧ p = .int .i64 k ∧ k ≤ n ∧ a ≤ 18446744073709551615 ∧ Hid (a = U / 256 ^ k) ∧ Hid (l = UInt8.ofNat (48 + n) :: digits U k) ∧ wr.ownsRow w.heap.size 5 1 v (k + 1) (bc l) ∧ Below w.heap.size w wr) (fun _ _ p _ => n - (intOf p).toNat)
  case atStart => exact ⟨0, U, _, rfl, rfl, Nat.zero_le _, by omega, hide (by simp), hide rfl, hownB', hbB⟩
  case round =>
    obtain ⟨k, a, l, rfl, rfl, hk, ha, HA, HL, hown, hb⟩ := hrel
    by_cases hkw : k < n
    · go_wp2_with (at_builtin; refine wpList_append_own _ rfl (.tmp 45) (.tmp 49) 26 rfl w.heap.size 5 i0 (.int .u8 0) 1 1 Try.underlying26 hi hz0 hz1 H2.out rfl (by decide) _ _ _ rfl (hown.alloc _) ⟨wr.heap.size, 0, none⟩ 1 1 [.int .u8 ((a : Int) % 256)] rfl rfl (cell_one_new _ _ _) (by simp [Value.oneCell']) (by unfold maxLen; omega) (by omega) (by have := hb.size; simp; omega) ?_)
      intro vC wC hownC hgrowC hnilC
      have hC : wC.ownsRow w.heap.size 5 1 vC (k + 1 + 1) (bc (l ++ [UInt8.ofNat (a % 256)])) := own_byte (by omega) (by simpa using hownC)
      have hbC : Below w.heap.size w wC := (hb.alloc hb.size _).grown hgrowC (by have := hb.size; simp; omega) (fun k h => (hown.lt k h).1)
      clear hownC hgrowC hnilC hown hb
      go_wp2
      go_roundw
      case rel => exact ⟨k + 1, a / 256, _, by go_num, by go_num, by omega, by omega, hide (by rw [HA.out]; exact div_pow_succ _ _), hide (by rw [HL.out, digits_snoc, HA.out]; rfl), hC, hbC⟩
      case measure => simp [intOf]; omega
    · obtain rfl : k = n := by omega
      have hz := hb.size
      obtain rfl : a = 0 := by rw [HA.out]; exact Nat.div_eq_of_lt HU.out
      go_wp2
      go_ret2
      refine ⟨_, rfl, ?_, hb⟩
      have hl : (UInt8.ofNat (48 + k) :: digits U k).length = k + 1 := by simp [digits_length]
      rw [hl, ← HL.out]
      exact hown

set_option maxHeartbeats 1600000 in
theorem enc_text (str : ByteArray) (hs : str.size ≤ 2097152) (n : Nat) (hn8 : n ≤ 8) (hU : str.size < 256 ^ n) (w : World) :
    Calls Try.prog 13 #[.int .u8 2, .int .i64 0, .string str, .int .i64 n] w (Enc w (UInt8.ofNat (32 + n) :: (digits str.size n ++ str.data.toList))) := by
  obtain ⟨i0, hi, hz0, hz1, hz2⟩ := info_parts info5
  have H2 := hide hz2
  clear hz2
  have HU := hide hU
  clear hU
  go_enter Try.func13, Try.ntmps13
  go_wp2_with (at_make; refine wpList_make_own _ rfl _ _ 26 rfl w.heap.size 5 i0 (.int .u8 0) 1 Try.underlying26 hi hz0 hz1 _ _ _ (1 + n + str.size) rfl rfl (by first | omega | (simp; done) | (simp; omega)) (by rw [H2.out]; omega) (by unfold maxLen; omega) (Nat.le_refl _) ?_)
  intro wA hownA hgrowA
  have hbA : Below w.heap.size w wA := (Below.refl _ _).grown hgrowA (Nat.le_refl _) (fun k h => by cases h)
  clear hgrowA
  go_wp2_with (at_builtin; refine wpList_append_own _ rfl (.tmp 32) (.tmp 38) 26 rfl w.heap.size 5 i0 (.int .u8 0) 1 1 Try.underlying26 hi hz0 hz1 H2.out rfl (by decide) _ _ _ rfl (hownA.alloc _) ⟨wA.heap.size, 0, none⟩ 1 1 [.int .u8 (32 + (n : Int))] rfl rfl (cell_one_new _ _ _) (by simp [Value.oneCell']) (by unfold maxLen; omega) (by omega) (by have := hbA.size; simp; omega) ?_)
  intro vB wB hownB hgrowB hnilB
  have hbB : Below w.heap.size w wB := (hbA.alloc hbA.size _).grown hgrowB (by have := hbA.size; simp; omega) (fun k h => (hownA.lt k h).1)
  have hownB' : wB.ownsRow w.heap.size 5 1 vB 1 (bc [UInt8.ofNat (32 + n)]) := own_byte (l := []) (by omega) (by simpa [bc] using hownB)
  clear hownB hgrowB hnilB hownA hbA
  go_wp2
  go_loopw [10, 11, 12] (fun u v p wr => ∃ (k a : Nat) (l : List UInt8), u = .int .u64 a ∧ p = .int .i64 k ∧ k ≤ n ∧ a ≤ 18446744073709551615 ∧ Hid (a = str.size / 256 ^ k) ∧ Hid (l = UInt8.ofNat (32 + n) :: digits str.size k) ∧ wr.ownsRow w.heap.size 5 1 v (k + 1) (bc l) ∧ Below w.heap.size w wr) (fun _ _ p _ => n - (intOf p).toNat)
  case atStart => exact ⟨0, str.size, _, rfl, rfl, Nat.zero_le _, by omega, hide (by simp), hide rfl, hownB', hbB⟩
  case round =>
    obtain ⟨k, a, l, rfl, rfl, hk, ha, HA, HL, hown, hb⟩ := hrel
    by_cases hkw : k < n
    · go_wp2_with (at_builtin; refine wpList_append_own _ rfl (.tmp 45) (.tmp 49) 26 rfl w.heap.size 5 i0 (.int .u8 0) 1 1 Try.underlying26 hi hz0 hz1 H2.out rfl (by decide) _ _ _ rfl (hown.alloc _) ⟨wr.heap.size, 0, none⟩ 1 1 [.int .u8 ((a : Int) % 256)] rfl rfl (cell_one_new _ _ _) (by simp [Value.oneCell']) (by unfold maxLen; omega) (by omega) (by have := hb.size; simp; omega) ?_)
      intro vC wC hownC hgrowC hnilC
      have hC : wC.ownsRow w.heap.size 5 1 vC (k + 1 + 1) (bc (l ++ [UInt8.ofNat (a % 256)])) := own_byte (by omega) (by simpa using hownC)
      have hbC : Below w.heap.size w wC := (hb.alloc hb.size _).grown hgrowC (by have := hb.size; simp; omega) (fun k h => (hown.lt k h).1)
      clear hownC hgrowC hnilC hown hb
      go_wp2
      go_roundw
      case rel => exact ⟨k + 1, a / 256, _, by go_num, by go_num, by omega, by omega, hide (by rw [HA.out]; exact div_pow_succ _ _), hide (by rw [HL.out, digits_snoc, HA.out]; rfl), hC, hbC⟩
      case measure => simp [intOf]; omega
    · obtain rfl : k = n := by omega
      have hz := hb.size
      obtain rfl : a = 0 := by rw [HA.out]; exact Nat.div_eq_of_lt HU.out
      go_wp2_with (at_builtin; refine Lib.wpList_append_own_string _ rfl (.tmp 58) (.tmp 59) 26 9 rfl w.heap.size 5 i0 Try.underlying26 Try.underlying9 hi hz0 hz1 H2.out _ _ _ rfl hown str rfl (by unfold maxLen; omega) (by omega) hz ?_)
      intro vC wC hownC hgrowC hnilC
      have hC := own_str hownC
      have hbC : Below w.heap.size w wC := hb.grown hgrowC hz (fun k h => (hown.lt k h).1)
      clear hownC hgrowC hnilC hown hb
      go_wp2
      go_ret2
      refine ⟨_, rfl, ?_, hbC⟩
      have hl : (UInt8.ofNat (32 + k) :: (digits str.size k ++ str.data.toList)).length = k + 1 + str.size := by simp [digits_length]; omega
      rw [hl]
      rw [HL.out] at hC
      exact hC

end Go.Proofs.Qxb6600999a.W
