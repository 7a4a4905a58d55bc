/-
  PLAIN: a stored value, put together and taken apart.
-/
import Derived.Test.Qxb6600999aPlain
namespace Go.Proofs.Qxb6600999a.Plain

theorem ba_eq {a b : ByteArray} (h : a.data.toList = b.data.toList) : a = b := by
  apply ByteArray.ext
  exact Array.toList_inj.1 h
theorem size_list (a : ByteArray) : a.data.toList.length = a.size := by simp
theorem extract_list (a : ByteArray) (i j : Nat) : (a.extract i j).data.toList = (a.data.toList.take j).drop i := by
  simp [List.drop_take]

theorem parts {S : ByteArray} {b : UInt8} {D R : List UInt8} (hS : S.data.toList = b :: (D ++ R)) (hn : D.length = b.toNat % 16) (h8 : D.length ≤ 8) :
    framed S ∧ kOf S = b.toNat / 16 ∧ nOf S = D.length ∧ uOf S = leNum D ∧ (restOf S).data.toList = R := by
  have hh : hdr S = b.toNat := by unfold hdr; rw [hS]; rfl
  have hN : nOf S = D.length := by unfold nOf; rw [hh, hn]
  have hsz : S.size = 1 + (D.length + R.length) := by rw [← size_list, hS]; simp; omega
  refine ⟨⟨by omega, by omega, by omega⟩, by unfold kOf; rw [hh], hN, ?_, ?_⟩
  · unfold uOf
    rw [hS, hN, List.drop_succ_cons, List.drop_zero, List.take_left]
  · unfold restOf
    rw [extract_list, hN, hS, List.take_of_length_le (by simp; omega), show 1 + D.length = D.length + 1 from by omega, List.drop_succ_cons, List.drop_left]

/-- Null written, read back. -/
theorem back_null {S : ByteArray} {b : UInt8} {R : List UInt8} {tail : ByteArray} {k : Nat} {i : Int} {str rest : ByteArray} {ok : Bool}
    (hS : S.data.toList = b :: R) (hb : b.toNat = 0) (hR : R = tail.data.toList) (h : RS S k i str rest ok) :
    k = 0 ∧ i = 0 ∧ str = ByteArray.empty ∧ rest = tail ∧ ok = true := by
  obtain ⟨hf, hk, hn, hu, hr⟩ := parts (D := []) (R := R) (by simpa using hS) (by rw [hb]; rfl) (by simp)
  rw [hb] at hk
  have hr' : restOf S = tail := ba_eq (hr.trans hR)
  rcases h with h | h | h | h | h | h
  · exact absurd hf h.1
  · obtain ⟨_, _, h1, h2, h3, h4, h5⟩ := h
    exact ⟨h1, h2, h3, h4.trans hr', by rw [h5, hn]; rfl⟩
  · have := h.2.1; omega
  · have := h.2.1; omega
  · have := h.2.1; omega
  · have := h.2.1; omega

/-- A number written, read back. -/
theorem back_int {S : ByteArray} {b : UInt8} {U n K : Nat} {x : Int} {tail : ByteArray} {k : Nat} {i : Int} {str rest : ByteArray} {ok : Bool}
    (hS : S.data.toList = b :: (digits U n ++ tail.data.toList)) (hb : b.toNat = K * 16 + n) (hK : K = 1 ∨ K = 3) (h8 : n ≤ 8) (hU : U < 256 ^ n) (hx : (U : Int) = zz x) (h : RS S k i str rest ok) :
    k = K ∧ i = x ∧ str = ByteArray.empty ∧ rest = tail ∧ ok = true := by
  obtain ⟨hf, hk, hn, hu, hr⟩ := parts (D := digits U n) (R := tail.data.toList) hS (by rw [digits_length]; omega) (by rw [digits_length]; exact h8)
  rw [leNum_digits, Nat.mod_eq_of_lt hU] at hu
  have hr' : restOf S = tail := ba_eq hr
  have hk' : kOf S = K := by omega
  rcases h with h | h | h | h | h | h
  · exact absurd hf h.1
  · have := h.2.1; omega
  · obtain ⟨_, _, h1, h2, h3, h4, h5⟩ := h
    exact ⟨h1.trans hk', by rw [h2, hu, hx, unzz_zz], h3, h4.trans hr', h5⟩
  · have := h.2.1; omega
  · have := h.2.1; omega
  · have := h.2.1; omega

/-- A text written, read back. -/
theorem back_text {S : ByteArray} {b : UInt8} {n : Nat} {t tail : ByteArray} {k : Nat} {i : Int} {str rest : ByteArray} {ok : Bool}
    (hS : S.data.toList = b :: (digits t.size n ++ (t.data.toList ++ tail.data.toList))) (hb : b.toNat = 32 + n) (h8 : n ≤ 8) (hU : t.size < 256 ^ n) (h : RS S k i str rest ok) :
    k = 2 ∧ i = 0 ∧ str = t ∧ rest = tail ∧ ok = true := by
  obtain ⟨hf, hk, hn, hu, hr⟩ := parts (D := digits t.size n) (R := t.data.toList ++ tail.data.toList) hS (by rw [digits_length]; omega) (by rw [digits_length]; exact h8)
  rw [leNum_digits, Nat.mod_eq_of_lt hU] at hu
  have hk' : kOf S = 2 := by omega
  have hrs : (restOf S).size = t.size + tail.size := by rw [← size_list, hr, List.length_append, size_list, size_list]
  rcases h with h | h | h | h | h | h
  · exact absurd hf h.1
  · have := h.2.1; omega
  · have := h.2.1; omega
  · have := h.2.2.1; omega
  · obtain ⟨_, _, _, h1, h2, h3, h4, h5⟩ := h
    refine ⟨h1, h2, ?_, ?_, h5⟩
    · apply ba_eq
      rw [h3, extract_list, hr, hu, List.drop_zero, ← size_list t, List.take_left]
    · apply ba_eq
      rw [h4, extract_list, hr, hu, List.take_of_length_le (by rw [hrs, List.length_append, size_list, size_list]; omega), ← size_list t, List.drop_left]
  · have := h.2.1; omega

end Go.Proofs.Qxb6600999a.Plain
