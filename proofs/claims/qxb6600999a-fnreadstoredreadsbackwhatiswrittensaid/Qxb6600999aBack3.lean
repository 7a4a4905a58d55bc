import Derived.Test.Qxb6600999aBack
namespace Go.Proofs.Qxb6600999a.W
open Go.RowKit Go.Proofs.Qxb6600999a.Plain
set_option linter.unusedVariables false

set_option maxHeartbeats 1600000 in
theorem back_null_walk (x : Int) (t : ByteArray) (width : Nat) (tail : ByteArray) (w : World) (ht : t.size ≤ 524288) (htl : tail.size ≤ 524288) (hw8 : width ≤ 255) :
    Calls Try.prog 4 #[.int .u8 0, .int .i64 x, .string t, .int .u8 width, .string tail] w fun e w' => e = .returned (.bool true) ∧ Below w.heap.size w w' := by
  obtain ⟨i0, hi, hz0, hz1, hz2⟩ := info_parts info5
  have hd1 : decide ((524288 : Int) < (t.size : Int)) = false := by simp; omega
  have hd2 : decide ((524288 : Int) < (tail.size : Int)) = false := by simp; omega
  go_enter Try.func4, Try.ntmps4
  go_wp2_with (first | (go_at_call 14; go_in))
  refine (needed_any 0 _ (by omega)).mono ?_
  rintro e w1 ⟨m, rfl, hU, hm8, hww⟩
  obtain rfl : w = w1 := hww.symm
  by_cases hwm : width < m
  · go_wp2
    go_ret
    exact ⟨rfl, Below.refl _ _⟩
  by_cases hw9 : 8 < width
  · go_wp2
    go_ret
    exact ⟨rfl, Below.refl _ _⟩
  by_cases hw0 : 0 < width
  · have hne : ((width : Int) != 0) = true := by rw [bne_iff_ne]; omega
    have hdm : decide ((width : Int) < (m : Int)) = false := by simp; omega
    have hd8 : decide ((8 : Int) < (width : Int)) = false := by simp; omega
    go_wp2
    go_ret
    exact ⟨rfl, Below.refl _ _⟩
  obtain rfl : width = 0 := by omega
  obtain rfl : m = 0 := by omega
  have H2 := hide hz2
  clear hz2 hww hU
  go_wp2_with (at_make; refine wpList_make_own _ rfl _ _ 26 rfl w.heap.size 5 i0 (.int .u8 0) 1 Try.underlying26 hi hz0 hz1 _ _ _ (9 + t.size + tail.size) rfl rfl (by omega) (by rw [H2.out]; omega) (by unfold maxLen; omega) (Nat.le_refl _) ?_)
  intro wA hownA hgrowA
  have hbA : Below w.heap.size w wA := (Below.refl _ _).grown hgrowA (Nat.le_refl _) (fun k h => by cases h)
  clear hgrowA
  go_wp2_with (at_builtin; refine wpList_append_own _ rfl (.tmp 73) (.tmp 79) 26 rfl w.heap.size 5 i0 (.int .u8 0) 1 1 Try.underlying26 hi hz0 hz1 H2.out rfl (by decide) _ _ _ rfl (hownA.alloc _) ⟨wA.heap.size, 0, none⟩ 1 1 [.int .u8 0] rfl rfl (cell_one_new _ _ _) (by simp [Value.oneCell']) (by unfold maxLen; omega) (by omega) (by have := hbA.size; simp; omega) ?_)
  intro vB wB hownB hgrowB hnilB
  have hbB : Below w.heap.size w wB := (hbA.alloc hbA.size _).grown hgrowB (by have := hbA.size; simp; omega) (fun k h => (hownA.lt k h).1)
  have hownB' : wB.ownsRow w.heap.size 5 1 vB 1 (bc [UInt8.ofNat 0]) := own_byte (l := []) (by omega) (by simpa [bc] using hownB)
  clear hownB hgrowB hnilB hownA hbA
  go_wp2
  have hz := hbB.size
  refine wp_loop_rounds 1 ?_
  rw [rounds_succ]
  go_wp2_with (at_builtin; refine Lib.wpList_append_own_string _ rfl (.tmp 99) (.tmp 100) 26 9 rfl w.heap.size 5 i0 Try.underlying26 Try.underlying9 hi hz0 hz1 H2.out _ _ _ rfl hownB' tail rfl (by unfold maxLen; omega) (by omega) hz ?_)
  intro vD wD hownD hgrowD hnilD
  have hD := own_str hownD
  have hbD : Below w.heap.size w wD := hbB.grown hgrowD hz (fun k h => (hownB'.lt k h).1)
  have hzD := hbD.size
  obtain ⟨g, cap, hv, hlen, hcv⟩ := own_string hD (by simp)
  rw [hv]
  clear hownD hgrowD hnilD hownB' hbB hv hD
  go_wp2_with fail
  obtain ⟨S, hS⟩ : ∃ S : ByteArray, S = ⟨(0 :: tail.data.toList).toArray⟩ := ⟨_, rfl⟩
  rw [← hS]
  have hS1 : S.data.toList = 0 :: tail.data.toList := by rw [hS]
  have hS2 : S.size ≤ 2097152 := by rw [← size_list, hS1]; simp; omega
  clear hS hlen hcv
  refine (zzread_any S _ hS2).mono ?_
  rintro e wE ⟨kk, i, str, rest, ok, rfl, hrs, hbE⟩
  obtain ⟨rfl, rfl, rfl, rfl, rfl⟩ := back_null hS1 rfl rfl hrs
  clear hS1
  go_wp2
  go_ret
  exact ⟨by simp, hbD.trans (hbE.mono hzD)⟩
end Go.Proofs.Qxb6600999a.W
