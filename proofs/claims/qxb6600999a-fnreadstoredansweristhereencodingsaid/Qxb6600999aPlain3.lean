/-
  PLAIN: digits compared from the top; a stored value put together again.
-/
import Derived.Test.Qxb6600999aPlain2
namespace Go.Proofs.Qxb6600999a.Plain

def dig (X j : Nat) : Nat := X / 256 ^ j % 256
theorem dig_lt (X j : Nat) : dig X j < 256 := Nat.mod_lt _ (by omega)

theorem dig_leNum (l : List UInt8) : ∀ j, dig (leNum l) j = (l[j]?.getD 0).toNat := by
  induction l with
  | nil => intro j; simp [dig, leNum]
  | cons b r ih =>
    intro j
    have hb : b.toNat < 256 := b.toNat_lt
    match j with
    | 0 => simp only [dig, leNum, Nat.pow_zero, Nat.div_one, List.getElem?_cons_zero, Option.getD_some]; omega
    | j + 1 =>
      have h2 : (b.toNat + 256 * leNum r) / 256 = leNum r := by omega
      have := ih j
      unfold dig at this ⊢
      rw [leNum, Nat.pow_succ, Nat.mul_comm (256 ^ j) 256, ← Nat.div_div_eq_div_mul, h2, List.getElem?_cons_succ]
      exact this

theorem div_split (X j : Nat) : X / 256 ^ j = 256 * (X / 256 ^ (j + 1)) + dig X j := by
  unfold dig
  rw [Nat.pow_succ, ← Nat.div_div_eq_div_mul]
  omega

theorem top_eq {U L j : Nat} (h : U / 256 ^ (j + 1) = L / 256 ^ (j + 1)) (hd : dig U j = dig L j) : U / 256 ^ j = L / 256 ^ j := by
  rw [div_split U, div_split L, h, hd]
theorem le_of_div {U L P : Nat} (h : U / P < L / P) : U ≤ L := by
  rcases Nat.lt_or_ge L U with h1 | h1
  · have := Nat.div_le_div_right (c := P) (Nat.le_of_lt h1); omega
  · exact h1
theorem top_lt {U L j : Nat} (h : U / 256 ^ (j + 1) = L / 256 ^ (j + 1)) (hd : dig U j < dig L j) : U ≤ L := by
  apply le_of_div (P := 256 ^ j)
  rw [div_split U, div_split L, h]; omega
theorem top_gt {U L j : Nat} (h : U / 256 ^ (j + 1) = L / 256 ^ (j + 1)) (hd : dig L j < dig U j) : ¬ U ≤ L := by
  intro hle
  have h1 := Nat.div_le_div_right (c := 256 ^ j) hle
  rw [div_split U, div_split L, h] at h1; omega

/-- A framed value is its header, its number's bytes and the rest. -/
theorem framed_list {S : ByteArray} (h : framed S) : S.data.toList = UInt8.ofNat (kOf S * 16 + nOf S) :: (digits (uOf S) (nOf S) ++ (restOf S).data.toList) := by
  obtain ⟨h0, h8, hn⟩ := h
  have hl := size_list S
  cases hS : S.data.toList with
  | nil => rw [hS] at hl; simp only [List.length_nil] at hl; omega
  | cons b r =>
    have hb : hdr S = b.toNat := by unfold hdr; rw [hS]; rfl
    have hb8 : b.toNat < 256 := b.toNat_lt
    have hkn : kOf S * 16 + nOf S = b.toNat := by unfold kOf nOf; rw [hb]; omega
    have hrl : r.length + 1 = S.size := by rw [← hl, hS]; rfl
    have e1 : digits (uOf S) (nOf S) = r.take (nOf S) := by
      unfold uOf
      rw [hS, List.drop_succ_cons, List.drop_zero]
      have hlen : (r.take (nOf S)).length = nOf S := by rw [List.length_take]; omega
      have := digits_leNum (r.take (nOf S))
      rw [hlen] at this
      exact this
    have e2 : (restOf S).data.toList = r.drop (nOf S) := by
      unfold restOf
      rw [extract_list, hS, List.take_of_length_le (by rw [List.length_cons]; omega), show 1 + nOf S = nOf S + 1 from by omega, List.drop_succ_cons]
    rw [hkn, e1, e2, List.take_append_drop]
    congr 1
    apply UInt8.toNat_inj.1
    simp

theorem uOf_pow {S : ByteArray} (_h : framed S) : uOf S < 256 ^ nOf S := by
  have h1 := leNum_lt ((S.data.toList.drop 1).take (nOf S))
  have h2 : ((S.data.toList.drop 1).take (nOf S)).length ≤ nOf S := by rw [List.length_take]; omega
  have h3 : 256 ^ ((S.data.toList.drop 1).take (nOf S)).length ≤ 256 ^ nOf S := Nat.pow_le_pow_right (by omega) h2
  unfold uOf
  omega
theorem restOf_size {S : ByteArray} (h : framed S) : (restOf S).size = S.size - 1 - nOf S := by
  have := h.2.2
  rw [← size_list]; unfold restOf
  rw [extract_list, List.length_drop, List.length_take, size_list]; omega

end Go.Proofs.Qxb6600999a.Plain
