import Derived.Test.Qxb6600999aRe
namespace Go.Proofs.Qxb6600999a.W
open Go.RowKit Go.Proofs.Qxb6600999a.Plain
set_option linter.unusedVariables false

theorem rs_null {s : ByteArray} {k : Nat} {i : Int} {str rest : ByteArray} {ok : Bool} (hf : framed s) (hk : kOf s = 0) (h : RS s k i str rest ok) :
    k = 0 ∧ i = 0 ∧ str = ByteArray.empty ∧ rest = restOf s ∧ ok = decide (nOf s = 0) := by
  rcases h with h | h | h | h | h | h
  · exact absurd hf h.1
  · exact h.2.2
  · have := h.2.1; omega
  · have := h.2.1; omega
  · have := h.2.1; omega
  · have := h.2.1; omega
theorem rs_text {s : ByteArray} {k : Nat} {i : Int} {str rest : ByteArray} {ok : Bool} (hf : framed s) (hk : kOf s = 2) (hle : uOf s ≤ (restOf s).size) (h : RS s k i str rest ok) :
    k = 2 ∧ i = 0 ∧ str = (restOf s).extract 0 (uOf s) ∧ rest = (restOf s).extract (uOf s) (restOf s).size ∧ ok = true := by
  rcases h with h | h | h | h | h | h
  · exact absurd hf h.1
  · have := h.2.1; omega
  · have := h.2.1; omega
  · have := h.2.2.1; omega
  · exact h.2.2.2
  · have := h.2.1; omega
theorem rs_long {s : ByteArray} {k : Nat} {i : Int} {str rest : ByteArray} {ok : Bool} (hf : framed s) (hk : kOf s = 2) (hle : (restOf s).size < uOf s) (h : RS s k i str rest ok) :
    k = 0 ∧ i = 0 ∧ str = ByteArray.empty ∧ rest = s ∧ ok = false := by
  rcases h with h | h | h | h | h | h
  · exact absurd hf h.1
  · have := h.2.1; omega
  · have := h.2.1; omega
  · exact h.2.2.2
  · have := h.2.2.1; omega
  · have := h.2.1; omega
theorem rs_other {s : ByteArray} {k : Nat} {i : Int} {str rest : ByteArray} {ok : Bool} (hf : framed s) (hk : 3 < kOf s) (h : RS s k i str rest ok) :
    k = 0 ∧ i = 0 ∧ str = ByteArray.empty ∧ rest = s ∧ ok = false := by
  rcases h with h | h | h | h | h | h
  · exact absurd hf h.1
  · have := h.2.1; omega
  · have := h.2.1; omega
  · have := h.2.1; omega
  · have := h.2.1; omega
  · exact h.2.2
theorem rs_unframed {s : ByteArray} {k : Nat} {i : Int} {str rest : ByteArray} {ok : Bool} (hf : ¬ framed s) (h : RS s k i str rest ok) :
    k = 0 ∧ i = 0 ∧ str = ByteArray.empty ∧ rest = s ∧ ok = false := by
  rcases h with h | h | h | h | h | h
  · exact h.2
  · exact absurd h.1 hf
  · exact absurd h.1 hf
  · exact absurd h.1 hf
  · exact absurd h.1 hf
  · exact absurd h.1 hf
theorem restOf_sizeN {s : ByteArray} {n : Nat} (hf : framed s) (hn : nOf s = n) : (restOf s).size = s.size - 1 - n := by rw [restOf_size hf, hn]
theorem uOf_N {s : ByteArray} {n : Nat} (hn : nOf s = n) : uOf s = leNum ((s.data.toList.drop 1).take n) := by unfold uOf; rw [hn]
theorem fits_yes (s : ByteArray) (n : Nat) (w : World) (hs : s.size ≤ 2097152) (hn8 : n ≤ 8) (hns : n < s.size) (h : leNum ((s.data.toList.drop 1).take n) ≤ s.size - 1 - n) :
    Calls Try.prog 12 #[.string s, .int .i64 n] w fun e w' => e = .returned (.bool true) ∧ Below w.heap.size w w' := by
  have := fits_any s n w hs hn8 hns
  rw [decide_eq_true h] at this
  exact this
theorem fits_no (s : ByteArray) (n : Nat) (w : World) (hs : s.size ≤ 2097152) (hn8 : n ≤ 8) (hns : n < s.size) (h : ¬ leNum ((s.data.toList.drop 1).take n) ≤ s.size - 1 - n) :
    Calls Try.prog 12 #[.string s, .int .i64 n] w fun e w' => e = .returned (.bool false) ∧ Below w.heap.size w w' := by
  have := fits_any s n w hs hn8 hns
  rw [decide_eq_false h] at this
  exact this

set_option maxRecDepth 100000 in
set_option maxHeartbeats 1600000 in
theorem re_null (s : ByteArray) (w : World) (hs : s.size ≤ 1048576) (h0 : 0 < s.size) (b : Nat) (hb : s[0].toNat = b) (hq : (b : Int) / 16 = 0) (hr : (b : Int) % 16 = 0)
    (HF : Hid (framed s)) (HK : Hid (kOf s = 0)) (HN : Hid (nOf s = 0)) :
    Calls Try.prog 3 #[.string s] w fun e w' => e = .returned (.bool true) ∧ Below w.heap.size w w' := by
  have hl0 : (0 : Int) < (s.size : Int) := by omega
  have hne : ((s.size : Int) == 0) = false := by rw [beq_eq_false_iff_ne]; omega
  have hsl : s.data.toList = [UInt8.ofNat 0] ++ (restOf s).data.toList := by
    have := framed_list HF.out
    rw [HK.out, HN.out] at this
    exact this
  have hcut := cut_eq hsl
  obtain ⟨l, hl⟩ : ∃ l, l = [UInt8.ofNat 0] := ⟨_, rfl⟩
  have henc := fun W => enc_null W
  rw [← hl] at hcut henc
  have hll : l ≠ [] := by rw [hl]; simp
  clear hsl hl
  have HC := hide hcut
  have HE := hide henc
  clear hcut henc
  go_enter Try.func3, Try.ntmps3
  go_wp2_with (go_at_call 10; go_in)
  refine (zzread_any s _ (by omega)).mono ?_
  rintro e w1 ⟨k, i, str, rest, ok, rfl, hrs, hb1⟩
  obtain ⟨rfl, rfl, rfl, rfl, hok⟩ := rs_null HF.out HK.out hrs
  rw [HN.out] at hok
  obtain rfl : ok = true := hok
  clear hrs
  go_wp2_with fail
  refine (HE.out _).mono ?_
  rintro e w2 ⟨v, rfl, hown, hb2⟩
  obtain ⟨g, cap, hv, hcv⟩ := own_stringN hown hll
  rw [hv]
  clear hv hown
  obtain ⟨c1, c2, c3⟩ := HC.out
  generalize restOf s = R at *
  have hle : (l.length : Int) ≤ (s.size : Int) := by omega
  have hle' : l.length ≤ s.size := by omega
  have hne2 : ((l.length : Int) + (R.size : Int) != (s.size : Int)) = false := by simp; omega
  have hRs : R.size ≤ s.size := by omega
  have C3 := hide c3
  clear c3
  go_wp2
  go_quiet (fail)
  go_wp2
  go_ret
  exact ⟨by simp, below_drewN (hb1.trans (hb2.mono hb1.size)) _⟩
set_option maxRecDepth 100000 in
set_option maxHeartbeats 1600000 in
theorem re_bool (s : ByteArray) (w : World) (hs : s.size ≤ 1048576) (h0 : 0 < s.size) (b n : Nat) (hb : s[0].toNat = b) (hq : (b : Int) / 16 = 3) (hr : (b : Int) % 16 = (n : Int)) (hn8 : n ≤ 8) (hns : n < s.size)
    (HF : Hid (framed s)) (HK : Hid (kOf s = 3)) (HN : Hid (nOf s = n)) :
    Calls Try.prog 3 #[.string s] w fun e w' => e = .returned (.bool true) ∧ Below w.heap.size w w' := by
  have hl0 : (0 : Int) < (s.size : Int) := by omega
  have hne : ((s.size : Int) == 0) = false := by rw [beq_eq_false_iff_ne]; omega
  have hd8 : decide ((n : Int) ≤ 8) = true := by simp; omega
  have hds : decide ((n : Int) < (s.size : Int)) = true := by simp; omega
  obtain ⟨u, hu⟩ : ∃ u, u = uOf s := ⟨_, rfl⟩
  have hup : u < 256 ^ n := by rw [hu, ← HN.out]; exact uOf_pow HF.out
  have hul : u < 18446744073709551616 := by rw [hu]; exact uOf_lt s (by rw [HN.out]; exact hn8)
  have hsl : s.data.toList = (UInt8.ofNat (48 + n) :: digits u n) ++ (restOf s).data.toList := by
    have := framed_list HF.out
    rw [HK.out, HN.out, ← hu] at this
    exact this
  have HL := hide hsl
  have HUO := hide hu
  have hcut := cut_eq hsl
  obtain ⟨l, hl⟩ : ∃ l, l = (UInt8.ofNat (48 + n) :: digits u n) := ⟨_, rfl⟩
  have henc := fun W => enc_bool (unzz u) (unzz_range u (by omega) (by omega)).1 (unzz_range u (by omega) (by omega)).2 u (zz_unzz u (by omega)) n hn8 hup W
  rw [← hl] at hcut henc
  have hll : l ≠ [] := by rw [hl]; simp
  clear hsl hu hup hl
  have HC := hide hcut
  have HE := hide henc
  clear hcut henc
  go_enter Try.func3, Try.ntmps3
  go_wp2_with (go_at_call 10; go_in)
  refine (zzread_any s _ (by omega)).mono ?_
  rintro e w1 ⟨k, i, str, rest, ok, rfl, hrs, hb1⟩
  obtain ⟨hk1, hi1, rfl, rfl, rfl⟩ := rs_int HF.out (Or.inr HK.out) hrs
  rw [← HUO.out] at hi1
  obtain rfl := hi1
  rw [HK.out] at hk1
  obtain rfl := hk1
  clear hrs
  go_wp2_with fail
  refine (HE.out _).mono ?_
  rintro e w2 ⟨v, rfl, hown, hb2⟩
  obtain ⟨g, cap, hv, hcv⟩ := own_stringN hown hll
  rw [hv]
  clear hv hown
  obtain ⟨c1, c2, c3⟩ := HC.out
  generalize restOf s = R at *
  have hle : (l.length : Int) ≤ (s.size : Int) := by omega
  have hle' : l.length ≤ s.size := by omega
  have hne2 : ((l.length : Int) + (R.size : Int) != (s.size : Int)) = false := by simp; omega
  have hRs : R.size ≤ s.size := by omega
  have C3 := hide c3
  clear c3
  go_wp2
  go_quiet (fail)
  go_wp2
  go_ret
  exact ⟨by simp, below_drewN (hb1.trans (hb2.mono hb1.size)) _⟩
set_option maxRecDepth 100000 in
set_option maxHeartbeats 1600000 in
theorem re_text (s : ByteArray) (w : World) (hs : s.size ≤ 1048576) (h0 : 0 < s.size) (b n : Nat) (hb : s[0].toNat = b) (hq : (b : Int) / 16 = 2) (hr : (b : Int) % 16 = (n : Int)) (hn8 : n ≤ 8) (hns : n < s.size)
    (HF : Hid (framed s)) (HK : Hid (kOf s = 2)) (HN : Hid (nOf s = n)) (HLE : Hid (uOf s ≤ (restOf s).size)) :
    Calls Try.prog 3 #[.string s] w fun e w' => e = .returned (.bool true) ∧ Below w.heap.size w w' := by
  have hl0 : (0 : Int) < (s.size : Int) := by omega
  have hne : ((s.size : Int) == 0) = false := by rw [beq_eq_false_iff_ne]; omega
  have hd8 : decide ((n : Int) ≤ 8) = true := by simp; omega
  have hds : decide ((n : Int) < (s.size : Int)) = true := by simp; omega
  obtain ⟨str0, hstr⟩ : ∃ str0, str0 = (restOf s).extract 0 (uOf s) := ⟨_, rfl⟩
  obtain ⟨rest0, hrest⟩ : ∃ rest0, rest0 = (restOf s).extract (uOf s) (restOf s).size := ⟨_, rfl⟩
  have hss : str0.size = uOf s := by
    rw [hstr, ← size_list, extract_list, List.drop_zero, List.length_take, size_list]
    have := HLE.out
    omega
  have hrl : (restOf s).data.toList = str0.data.toList ++ rest0.data.toList := by
    rw [hstr, hrest, extract_list, extract_list, List.drop_zero, List.take_of_length_le (l := (restOf s).data.toList) (i := (restOf s).size) (by rw [size_list]; omega), List.take_append_drop]
  have hup : str0.size < 256 ^ n := by rw [hss, ← HN.out]; exact uOf_pow HF.out
  have hszs : str0.size ≤ 2097152 := by
    have h1 := HLE.out
    have h2 := restOf_size HF.out
    omega
  have hsl : s.data.toList = (UInt8.ofNat (32 + n) :: (digits str0.size n ++ str0.data.toList)) ++ rest0.data.toList := by
    have := framed_list HF.out
    rw [HK.out, HN.out, hrl, ← hss] at this
    rw [this, List.cons_append, List.append_assoc]
  have hcut := cut_eq hsl
  obtain ⟨l, hl⟩ : ∃ l, l = (UInt8.ofNat (32 + n) :: (digits str0.size n ++ str0.data.toList)) := ⟨_, rfl⟩
  have henc := fun W => enc_text str0 hszs n hn8 hup W
  rw [← hl] at hcut henc
  have hll : l ≠ [] := by rw [hl]; simp
  have HSTR := hide hstr
  have HREST := hide hrest
  have hfits := fun W => fits_yes s n W (by omega) hn8 hns (by rw [← restOf_sizeN HF.out HN.out, ← uOf_N HN.out]; exact HLE.out)
  have HFI := hide hfits
  clear hsl hl hstr hrest hss hrl hup hszs hfits
  have HC := hide hcut
  have HE := hide henc
  clear hcut henc
  go_enter Try.func3, Try.ntmps3
  go_wp2_with (go_at_call 10; go_in)
  refine (zzread_any s _ (by omega)).mono ?_
  rintro e w1 ⟨k, i, str, rest, ok, rfl, hrs, hb1⟩
  obtain ⟨rfl, rfl, hs1, hr1, rfl⟩ := rs_text HF.out HK.out HLE.out hrs
  rw [← HSTR.out] at hs1
  rw [← HREST.out] at hr1
  obtain rfl := hs1
  obtain rfl := hr1
  clear hrs
  go_wp2_with fail
  refine (HFI.out _).mono ?_
  rintro e wF ⟨rfl, hbF⟩
  go_wp2_with fail
  refine (HE.out _).mono ?_
  rintro e w2 ⟨v, rfl, hown, hb2⟩
  obtain ⟨g, cap, hv, hcv⟩ := own_stringN hown hll
  rw [hv]
  clear hv hown
  obtain ⟨c1, c2, c3⟩ := HC.out
  generalize rest = R at *
  have hle : (l.length : Int) ≤ (s.size : Int) := by omega
  have hle' : l.length ≤ s.size := by omega
  have hne2 : ((l.length : Int) + (R.size : Int) != (s.size : Int)) = false := by simp; omega
  have hRs : R.size ≤ s.size := by omega
  have C3 := hide c3
  clear c3
  go_wp2
  go_quiet (fail)
  go_wp2
  go_ret
  exact ⟨by simp, below_drewN ((hb1.trans (hbF.mono hb1.size)).trans (hb2.mono (Nat.le_trans hb1.size hbF.size))) _⟩
end Go.Proofs.Qxb6600999a.W
