import Derived.Test.Qxb6600999aRe2
namespace Go.Proofs.Qxb6600999a.W
open Go.RowKit Go.Proofs.Qxb6600999a.Plain
set_option linter.unusedVariables false

set_option maxRecDepth 100000 in
set_option maxHeartbeats 1600000 in
theorem re_null_no (s : ByteArray) (w : World) (hs : s.size ≤ 1048576) (h0 : 0 < s.size) (b n : Nat) (hb : s[0].toNat = b) (hq : (b : Int) / 16 = 0) (hr : (b : Int) % 16 = (n : Int)) (hn0 : 0 < n) (hn8 : n ≤ 8) (hns : n < s.size) (HF : Hid (framed s)) (HK : Hid (kOf s = 0)) (HN : Hid (nOf s = n)) :
    Calls Try.prog 3 #[.string s] w fun e w' => e = .returned (.bool true) ∧ Below w.heap.size w w' := by
  have hl0 : (0 : Int) < (s.size : Int) := by omega
  have hne : ((s.size : Int) == 0) = false := by rw [beq_eq_false_iff_ne]; omega
  have hd8 : decide ((n : Int) ≤ 8) = true := by simp; omega
  have hds : decide ((n : Int) < (s.size : Int)) = true := by simp; omega
  have hn00 : ((n : Int) == 0) = false := by rw [beq_eq_false_iff_ne]; omega
  go_enter Try.func3, Try.ntmps3
  go_wp2_with (go_at_call 10; go_in)
  refine (zzread_any s _ (by omega)).mono ?_
  rintro e w1 ⟨k, i, str, rest, ok, rfl, hrs, hb1⟩
  obtain ⟨rfl, rfl, rfl, hr1, hok⟩ := rs_null HF.out HK.out hrs
  rw [HN.out, decide_eq_false (by omega)] at hok
  obtain rfl := hok
  have hr2 : rest = s.extract (1 + n) s.size := by rw [hr1]; unfold restOf; rw [HN.out]
  obtain rfl := hr2
  clear hr1
  clear hrs
  go_wp2
  go_ret
  exact ⟨by simp, hb1⟩

set_option maxRecDepth 100000 in
set_option maxHeartbeats 1600000 in
theorem re_long (s : ByteArray) (w : World) (hs : s.size ≤ 1048576) (h0 : 0 < s.size) (b n : Nat) (hb : s[0].toNat = b) (hq : (b : Int) / 16 = 2) (hr : (b : Int) % 16 = (n : Int)) (hn8 : n ≤ 8) (hns : n < s.size) (HF : Hid (framed s)) (HK : Hid (kOf s = 2)) (HN : Hid (nOf s = n)) (HLT : Hid ((restOf s).size < uOf s)) :
    Calls Try.prog 3 #[.string s] w fun e w' => e = .returned (.bool true) ∧ Below w.heap.size w w' := by
  have hl0 : (0 : Int) < (s.size : Int) := by omega
  have hne : ((s.size : Int) == 0) = false := by rw [beq_eq_false_iff_ne]; omega
  have hd8 : decide ((n : Int) ≤ 8) = true := by simp; omega
  have hds : decide ((n : Int) < (s.size : Int)) = true := by simp; omega
  have hfits := fun W => fits_no s n W (by omega) hn8 hns (by rw [← restOf_sizeN HF.out HN.out, ← uOf_N HN.out]; exact Nat.not_le.2 HLT.out)
  have HFI := hide hfits
  clear hfits
  go_enter Try.func3, Try.ntmps3
  go_wp2_with (go_at_call 10; go_in)
  refine (zzread_any s _ (by omega)).mono ?_
  rintro e w1 ⟨k, i, str, rest, ok, rfl, hrs, hb1⟩
  obtain ⟨rfl, rfl, rfl, rfl, rfl⟩ := rs_long HF.out HK.out HLT.out hrs
  clear hrs
  go_wp2_with fail
  refine (HFI.out _).mono ?_
  rintro e wF ⟨rfl, hbF⟩
  go_wp2
  go_ret
  exact ⟨by simp, hb1.trans (hbF.mono hb1.size)⟩

set_option maxRecDepth 100000 in
set_option maxHeartbeats 1600000 in
theorem re_other (s : ByteArray) (w : World) (hs : s.size ≤ 1048576) (h0 : 0 < s.size) (b n : Nat) (hb : s[0].toNat = b) (q : Nat) (hq : (b : Int) / 16 = (q : Int)) (hq3 : 3 < q) (hq16 : q < 16) (hr : (b : Int) % 16 = (n : Int)) (hn8 : n ≤ 8) (hns : n < s.size) (HF : Hid (framed s)) (HK : Hid (kOf s = q)) :
    Calls Try.prog 3 #[.string s] w fun e w' => e = .returned (.bool true) ∧ Below w.heap.size w w' := by
  have hl0 : (0 : Int) < (s.size : Int) := by omega
  have hne : ((s.size : Int) == 0) = false := by rw [beq_eq_false_iff_ne]; omega
  have hd8 : decide ((n : Int) ≤ 8) = true := by simp; omega
  have hds : decide ((n : Int) < (s.size : Int)) = true := by simp; omega
  have q0 : ((q : Int) == 0) = false := by rw [beq_eq_false_iff_ne]; omega
  have q1 : ((q : Int) == 1) = false := by rw [beq_eq_false_iff_ne]; omega
  have q2 : ((q : Int) == 2) = false := by rw [beq_eq_false_iff_ne]; omega
  have q3 : ((q : Int) == 3) = false := by rw [beq_eq_false_iff_ne]; omega
  go_enter Try.func3, Try.ntmps3
  go_wp2_with (go_at_call 10; go_in)
  refine (zzread_any s _ (by omega)).mono ?_
  rintro e w1 ⟨k, i, str, rest, ok, rfl, hrs, hb1⟩
  obtain ⟨rfl, rfl, rfl, rfl, rfl⟩ := rs_other HF.out (by rw [HK.out]; exact hq3) hrs
  clear hrs
  go_wp2
  go_ret
  exact ⟨by simp, hb1⟩

set_option maxRecDepth 100000 in
set_option maxHeartbeats 1600000 in
theorem re_wide (s : ByteArray) (w : World) (hs : s.size ≤ 1048576) (h0 : 0 < s.size) (b n : Nat) (hb : s[0].toNat = b) (hr : (b : Int) % 16 = (n : Int)) (hn8 : 8 < n) (HF : Hid (¬ framed s)) :
    Calls Try.prog 3 #[.string s] w fun e w' => e = .returned (.bool true) ∧ Below w.heap.size w w' := by
  have hl0 : (0 : Int) < (s.size : Int) := by omega
  have hne : ((s.size : Int) == 0) = false := by rw [beq_eq_false_iff_ne]; omega
  have hd8 : decide ((n : Int) ≤ 8) = false := by simp; omega
  go_enter Try.func3, Try.ntmps3
  go_wp2_with (go_at_call 10; go_in)
  refine (zzread_any s _ (by omega)).mono ?_
  rintro e w1 ⟨k, i, str, rest, ok, rfl, hrs, hb1⟩
  obtain ⟨rfl, rfl, rfl, rfl, rfl⟩ := rs_unframed HF.out hrs
  clear hrs
  go_wp2
  go_ret
  exact ⟨by simp, hb1⟩

set_option maxRecDepth 100000 in
set_option maxHeartbeats 1600000 in
theorem re_short (s : ByteArray) (w : World) (hs : s.size ≤ 1048576) (h0 : 0 < s.size) (b n : Nat) (hb : s[0].toNat = b) (hr : (b : Int) % 16 = (n : Int)) (hn8 : n ≤ 8) (hns : s.size ≤ n) (HF : Hid (¬ framed s)) :
    Calls Try.prog 3 #[.string s] w fun e w' => e = .returned (.bool true) ∧ Below w.heap.size w w' := by
  have hl0 : (0 : Int) < (s.size : Int) := by omega
  have hne : ((s.size : Int) == 0) = false := by rw [beq_eq_false_iff_ne]; omega
  have hd8 : decide ((n : Int) ≤ 8) = true := by simp; omega
  have hds : decide ((n : Int) < (s.size : Int)) = false := by simp; omega
  go_enter Try.func3, Try.ntmps3
  go_wp2_with (go_at_call 10; go_in)
  refine (zzread_any s _ (by omega)).mono ?_
  rintro e w1 ⟨k, i, str, rest, ok, rfl, hrs, hb1⟩
  obtain ⟨rfl, rfl, rfl, rfl, rfl⟩ := rs_unframed HF.out hrs
  clear hrs
  go_wp2
  go_ret
  exact ⟨by simp, hb1⟩

set_option maxRecDepth 100000 in
set_option maxHeartbeats 1600000 in
theorem re_empty (s : ByteArray) (w : World) (hs : s.size ≤ 1048576) (HZ : Hid (s.size = 0)) (HF : Hid (¬ framed s)) :
    Calls Try.prog 3 #[.string s] w fun e w' => e = .returned (.bool true) ∧ Below w.heap.size w w' := by
  have hne : ((s.size : Int) == 0) = true := by have := HZ.out; rw [beq_iff_eq]; omega
  go_enter Try.func3, Try.ntmps3
  go_wp2_with (go_at_call 10; go_in)
  refine (zzread_any s _ (by omega)).mono ?_
  rintro e w1 ⟨k, i, str, rest, ok, rfl, hrs, hb1⟩
  obtain ⟨rfl, rfl, rfl, rfl, rfl⟩ := rs_unframed HF.out hrs
  clear hrs
  go_wp2
  go_ret
  exact ⟨by simp, hb1⟩

end Go.Proofs.Qxb6600999a.W
