import Derived.Test.Qxb6600999aRead3
import Derived.Test.Qxb6600999aPlain2
import Derived.Lib.AppendStr
import Derived.Laws.IdiomStrings
namespace Go.Proofs.Qxb6600999a.W
open Go.RowKit Go.Proofs.Qxb6600999a.Plain
set_option linter.unusedVariables false

theorem info5 : (Try.prog.info? 5).map (fun i => (i.zero, i.size, i.bytes)) = some (some (.int .u8 0), 1, 1) := by kernel_rfl

/-- Bytes as cells. -/
def bc (l : List UInt8) : List Value := l.map fun b => Value.int .u8 b.toNat
theorem bc_append (a b : List UInt8) : bc (a ++ b) = bc a ++ bc b := by simp [bc]
theorem bc_length (a : List UInt8) : (bc a).length = a.length := by simp [bc]

theorem own_byte {w : World} {B n : Nat} {v : Value} {l : List UInt8} {a : Nat} (ha : a < 256) (h : w.ownsRow B 5 1 v n (bc l ++ [.int .u8 (a : Int)])) : w.ownsRow B 5 1 v n (bc (l ++ [UInt8.ofNat a])) := by
  have e : ((UInt8.ofNat a).toNat : Int) = (a : Int) := by simp; omega
  rw [bc_append]
  have e2 : bc [UInt8.ofNat a] = [.int .u8 (a : Int)] := by
    show [Value.int .u8 ((UInt8.ofNat a).toNat : Int)] = _
    rw [e]
  rw [e2]
  exact h
theorem own_str {w : World} {B n : Nat} {v : Value} {l : List UInt8} {s : ByteArray} (h : w.ownsRow B 5 1 v n (bc l ++ Lib.strCells s)) : w.ownsRow B 5 1 v n (bc (l ++ s.data.toList)) := by
  rw [bc_append]
  exact h
/-- A row of bytes of the call's own, made a string. -/
theorem own_string {w : World} {B n : Nat} {v : Value} {l : List UInt8} (h : w.ownsRow B 5 1 v n (bc l)) (hl : l ≠ []) :
    ∃ g cap, v = .slice (some ⟨g, 0, none⟩) n cap ∧ l.length = n ∧ (convert 26 9 (.slice (some ⟨g, 0, none⟩) n cap)).run Try.prog w = .ok (.string ⟨l.toArray⟩) w := by
  have hn : l.length = n := by have := h.1; rw [bc_length] at this; omega
  rcases h.2 with ⟨_, h0⟩ | ⟨g, cap, cur, hv, _⟩
  · exact absurd (List.eq_nil_of_length_eq_zero (by omega)) hl
  · refine ⟨g, cap, hv, hn, ?_⟩
    subst hn
    refine run_convert_bytes_back (P := Try.prog) w 26 9 5 ⟨g, 0, none⟩ cap l Try.underlying26 Try.underlying5 Try.underlying9 ?_
    intro j hj
    refine h.cells (g := g) (by rw [hv]; rfl) j _ ?_
    simp [bc, hj]

set_option maxHeartbeats 1600000 in
theorem back_text_walk (x : Int) (t : ByteArray) (width : Nat) (tail : ByteArray) (w : World) (ht : t.size ≤ 524288) (htl : tail.size ≤ 524288) (hw8 : width ≤ 255) :
    Calls Try.prog 4 #[.int .u8 2, .int .i64 x, .string t, .int .u8 width, .string tail] w fun e w' => e = .returned (.bool true) ∧ Below w.heap.size w w' := by
  obtain ⟨i0, hi, hz0, hz1, hz2⟩ := info_parts info5
  have hd1 : decide ((524288 : Int) < (t.size : Int)) = false := by simp; omega
  have hd2 : decide ((524288 : Int) < (tail.size : Int)) = false := by simp; omega
  go_enter Try.func4, Try.ntmps4
  go_wp2_with (first | (go_at_call 14; go_in))
  refine (needed_any t.size _ (by omega)).mono ?_
  rintro e w1 ⟨m, rfl, hU, hm8, hww⟩
  obtain rfl : w = w1 := hww.symm
  by_cases hwm : width < m
  · go_wp2
    go_ret
    exact ⟨rfl, Below.refl _ _⟩
  by_cases hw9 : 8 < width
  · go_wp2
    go_ret
    exact ⟨rfl, Below.refl _ _⟩
  have hdm : decide ((width : Int) < (m : Int)) = false := by simp; omega
  have hd8 : decide ((8 : Int) < (width : Int)) = false := by simp; omega
  have HU : Hid (t.size < 256 ^ width) := Nat.lt_of_lt_of_le hU (Nat.pow_le_pow_right (by omega) (by omega))
  have H2 := hide hz2
  clear hz2 hww hU
  go_wp2_with (at_make; refine wpList_make_own _ rfl _ _ 26 rfl w.heap.size 5 i0 (.int .u8 0) 1 Try.underlying26 hi hz0 hz1 _ _ _ (9 + t.size + tail.size) rfl rfl (by omega) (by rw [H2.out]; omega) (by unfold maxLen; omega) (Nat.le_refl _) ?_)
  intro wA hownA hgrowA
  have hbA : Below w.heap.size w wA := (Below.refl _ _).grown hgrowA (Nat.le_refl _) (fun k h => by cases h)
  clear hgrowA
  go_wp2_with (at_builtin; refine wpList_append_own _ rfl (.tmp 73) (.tmp 79) 26 rfl w.heap.size 5 i0 (.int .u8 0) 1 1 Try.underlying26 hi hz0 hz1 H2.out rfl (by decide) _ _ _ rfl (hownA.alloc _) ⟨wA.heap.size, 0, none⟩ 1 1 [.int .u8 (32 + (width : Int))] rfl rfl (cell_one_new _ _ _) (by simp [Value.oneCell']) (by unfold maxLen; omega) (by omega) (by have := hbA.size; simp; omega) ?_)
  intro vB wB hownB hgrowB hnilB
  have hbB : Below w.heap.size w wB := (hbA.alloc hbA.size _).grown hgrowB (by have := hbA.size; simp; omega) (fun k h => (hownA.lt k h).1)
  have hownB' : wB.ownsRow w.heap.size 5 1 vB 1 (bc [UInt8.ofNat (32 + width)]) := own_byte (l := []) (by omega) (by simpa [bc] using hownB)
  clear hownB hgrowB hnilB hownA hbA
  go_wp2
  go_loopw [11, 13, 14] (fun u v p wr => ∃ (k a : Nat) (l : List UInt8), u = .int .u64 a ∧ p = .int .i64 k ∧ k ≤ width ∧ a ≤ 18446744073709551615 ∧ Hid (a = t.size / 256 ^ k) ∧ Hid (l = UInt8.ofNat (32 + width) :: digits t.size k) ∧ wr.ownsRow w.heap.size 5 1 v (k + 1) (bc l) ∧ Below w.heap.size w wr) (fun _ _ p _ => width - (intOf p).toNat)
  case atStart => exact ⟨0, t.size, _, rfl, rfl, Nat.zero_le _, by omega, hide (by simp), hide rfl, hownB', hbB⟩
  case round =>
    obtain ⟨k, a, l, rfl, rfl, hk, ha, HA, HL, hown, hb⟩ := hrel
    by_cases hkw : k < width
    · go_wp2_with (at_builtin; refine wpList_append_own _ rfl (.tmp 86) (.tmp 90) 26 rfl w.heap.size 5 i0 (.int .u8 0) 1 1 Try.underlying26 hi hz0 hz1 H2.out rfl (by decide) _ _ _ rfl (hown.alloc _) ⟨wr.heap.size, 0, none⟩ 1 1 [.int .u8 ((a : Int) % 256)] rfl rfl (cell_one_new _ _ _) (by simp [Value.oneCell']) (by unfold maxLen; omega) (by omega) (by have := hb.size; simp; omega) ?_)
      intro vC wC hownC hgrowC hnilC
      have hC : wC.ownsRow w.heap.size 5 1 vC (k + 1 + 1) (bc (l ++ [UInt8.ofNat (a % 256)])) := own_byte (by omega) (by simpa using hownC)
      have hbC : Below w.heap.size w wC := (hb.alloc hb.size _).grown hgrowC (by have := hb.size; simp; omega) (fun k h => (hown.lt k h).1)
      clear hownC hgrowC hnilC hown hb
      go_wp2
      go_roundw
      case rel => exact ⟨k + 1, a / 256, _, by go_num, by go_num, by omega, by omega, hide (by rw [HA.out]; exact div_pow_succ _ _), hide (by rw [HL.out, digits_snoc, HA.out]; rfl), hC, hbC⟩
      case measure => simp [intOf]; omega
    · obtain rfl : k = width := by omega
      have hz := hb.size
      go_wp2_with (at_builtin; refine Lib.wpList_append_own_string _ rfl (.tmp 96) (.tmp 97) 26 9 rfl w.heap.size 5 i0 Try.underlying26 Try.underlying9 hi hz0 hz1 H2.out _ _ _ rfl hown t rfl (by unfold maxLen; omega) (by omega) hz ?_)
      intro vC wC hownC hgrowC hnilC
      have hC := own_str hownC
      have hbC : Below w.heap.size w wC := hb.grown hgrowC hz (fun k h => (hown.lt k h).1)
      have hzC := hbC.size
      clear hownC hgrowC hnilC hown hb
      go_wp2_with (at_builtin; refine Lib.wpList_append_own_string _ rfl (.tmp 99) (.tmp 100) 26 9 rfl w.heap.size 5 i0 Try.underlying26 Try.underlying9 hi hz0 hz1 H2.out _ _ _ rfl hC tail rfl (by unfold maxLen; omega) (by omega) hzC ?_)
      intro vD wD hownD hgrowD hnilD
      have hD := own_str hownD
      have hbD : Below w.heap.size w wD := hbC.grown hgrowD hzC (fun k h => (hC.lt k h).1)
      have hzD := hbD.size
      obtain ⟨g, cap, hv, hlen, hcv⟩ := own_string hD (by simp [HL.out])
      rw [hv]
      clear hownD hgrowD hnilD hC hbC hv hD
      go_wp2_with fail
      obtain ⟨S, hS⟩ : ∃ S : ByteArray, S = ⟨(l ++ (t.data.toList ++ tail.data.toList)).toArray⟩ := ⟨_, rfl⟩
      rw [← hS]
      have hS1 : S.data.toList = UInt8.ofNat (32 + k) :: (digits t.size k ++ (t.data.toList ++ tail.data.toList)) := by rw [hS, HL.out]; rfl
      have hS2 : S.size ≤ 2097152 := by rw [← size_list, hS1]; simp [digits_length]; omega
      clear hS hlen hcv
      refine (zzread_any S _ hS2).mono ?_
      rintro e wE ⟨kk, i, str, rest, ok, rfl, hrs, hbE⟩
      obtain ⟨rfl, rfl, rfl, rfl, rfl⟩ := back_text hS1 (by simp; omega) (by omega) HU.out hrs
      clear hS1
      go_wp2
      go_ret
      exact ⟨by simp, hbD.trans (hbE.mono hzD)⟩
end Go.Proofs.Qxb6600999a.W
