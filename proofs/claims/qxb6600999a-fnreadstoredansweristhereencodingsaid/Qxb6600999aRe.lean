import Derived.Test.Qxb6600999aEnc
namespace Go.Proofs.Qxb6600999a.W
open Go.RowKit Go.Proofs.Qxb6600999a.Plain
set_option linter.unusedVariables false

theorem rs_int {s : ByteArray} {k : Nat} {i : Int} {str rest : ByteArray} {ok : Bool} (hf : framed s) (hk : kOf s = 1 ∨ kOf s = 3) (h : RS s k i str rest ok) :
    k = kOf s ∧ i = unzz (uOf s) ∧ str = ByteArray.empty ∧ rest = restOf s ∧ ok = true := by
  rcases h with h | h | h | h | h | h
  · exact absurd hf h.1
  · have := h.2.1; omega
  · exact h.2.2
  · have := h.2.1; omega
  · have := h.2.1; omega
  · have := h.2.1; omega

/-- A row of bytes of the call's own, made a string, whatever has been drawn. -/
theorem own_stringN {w : World} {B n : Nat} {v : Value} {l : List UInt8} (h : w.ownsRow B 5 1 v n (bc l)) (hl : l ≠ []) :
    ∃ g cap, v = .slice (some ⟨g, 0, none⟩) n cap ∧ ∀ nq, (convert 26 9 (.slice (some ⟨g, 0, none⟩) n cap)).run Try.prog (w.drewN nq) = .ok (.string ⟨l.toArray⟩) (w.drewN nq) := by
  have hn : l.length = n := by have := h.1; rw [bc_length] at this; omega
  rcases h.2 with ⟨_, h0⟩ | ⟨g, cap, cur, hv, _⟩
  · exact absurd (List.eq_nil_of_length_eq_zero (by omega)) hl
  · refine ⟨g, cap, hv, fun nq => ?_⟩
    subst hn
    refine run_convert_bytes_back (P := Try.prog) (w.drewN nq) 26 9 5 ⟨g, 0, none⟩ cap l Try.underlying26 Try.underlying5 Try.underlying9 ?_
    intro j hj
    refine World.ownsRow.cells (w := w.drewN nq) h (g := g) (by rw [hv]; rfl) j _ ?_
    simp [bc, hj]

/-- What a string's head and tail read, where its bytes are l and then those of rest. -/
theorem cut_eq {s rest : ByteArray} {l : List UInt8} (h : s.data.toList = l ++ rest.data.toList) :
    s.extract 0 l.length = ⟨l.toArray⟩ ∧ s.extract l.length s.size = rest ∧ l.length + rest.size = s.size := by
  have hl : l.length + rest.size = s.size := by rw [← size_list s, h, List.length_append, size_list]
  refine ⟨ba_eq ?_, ba_eq ?_, hl⟩
  · rw [extract_list, h, List.drop_zero, List.take_left]
  · rw [extract_list, List.take_of_length_le (by rw [size_list]; omega), h, List.drop_left]

set_option maxRecDepth 100000 in
set_option maxHeartbeats 1600000 in
theorem re_int (s : ByteArray) (w : World) (hs : s.size ≤ 1048576) (h0 : 0 < s.size) (b n : Nat) (hb : s[0].toNat = b) (hq : (b : Int) / 16 = 1) (hr : (b : Int) % 16 = (n : Int)) (hn8 : n ≤ 8) (hns : n < s.size)
    (HF : Hid (framed s)) (HK : Hid (kOf s = 1)) (HN : Hid (nOf s = n)) :
    Calls Try.prog 3 #[.string s] w fun e w' => e = .returned (.bool true) ∧ Below w.heap.size w w' := by
  have hl0 : (0 : Int) < (s.size : Int) := by omega
  have hne : ((s.size : Int) == 0) = false := by rw [beq_eq_false_iff_ne]; omega
  have hd8 : decide ((n : Int) ≤ 8) = true := by simp; omega
  have hds : decide ((n : Int) < (s.size : Int)) = true := by simp; omega
  obtain ⟨u, hu⟩ : ∃ u, u = uOf s := ⟨_, rfl⟩
  have hup : u < 256 ^ n := by rw [hu, ← HN.out]; exact uOf_pow HF.out
  have hul : u < 18446744073709551616 := by rw [hu]; exact uOf_lt s (by rw [HN.out]; exact hn8)
  have hsl : s.data.toList = (UInt8.ofNat (16 + n) :: digits u n) ++ (restOf s).data.toList := by
    have := framed_list HF.out
    rw [HK.out, HN.out, ← hu] at this
    exact this
  have HL := hide hsl
  have HUO := hide hu
  have hcut := cut_eq hsl
  obtain ⟨l, hl⟩ : ∃ l, l = (UInt8.ofNat (16 + n) :: digits u n) := ⟨_, rfl⟩
  have henc := fun W => enc_int (unzz u) (unzz_range u (by omega) (by omega)).1 (unzz_range u (by omega) (by omega)).2 u (zz_unzz u (by omega)) n hn8 hup W
  rw [← hl] at hcut henc
  have hll : l ≠ [] := by rw [hl]; simp
  clear hsl hu hup hl
  have HC := hide hcut
  have HE := hide henc
  clear hcut henc
  go_enter Try.func3, Try.ntmps3
  go_wp2_with (go_at_call 10; go_in)
  refine (zzread_any s _ (by omega)).mono ?_
  rintro e w1 ⟨k, i, str, rest, ok, rfl, hrs, hb1⟩
  obtain ⟨hk1, hi1, rfl, rfl, rfl⟩ := rs_int HF.out (Or.inl HK.out) hrs
  rw [← HUO.out] at hi1
  obtain rfl := hi1
  rw [HK.out] at hk1
  obtain rfl := hk1
  clear hrs
  go_wp2_with fail
  refine (HE.out _).mono ?_
  rintro e w2 ⟨v, rfl, hown, hb2⟩
  obtain ⟨g, cap, hv, hcv⟩ := own_stringN hown hll
  rw [hv]
  clear hv hown
  obtain ⟨c1, c2, c3⟩ := HC.out
  generalize restOf s = R at *
  have hle : (l.length : Int) ≤ (s.size : Int) := by omega
  have hle' : l.length ≤ s.size := by omega
  have hne2 : ((l.length : Int) + (R.size : Int) != (s.size : Int)) = false := by simp; omega
  have hRs : R.size ≤ s.size := by omega
  have C3 := hide c3
  clear c3
  go_wp2
  go_quiet (fail)
  go_wp2
  go_ret
  exact ⟨by simp, below_drewN (hb1.trans (hb2.mono hb1.size)) _⟩
end Go.Proofs.Qxb6600999a.W
