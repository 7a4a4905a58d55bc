/-
  PLAIN MATHEMATICS of the stored form: bytes and numbers alone, no Go in sight.
-/
namespace Go.Proofs.Qxb6600999a.Plain

/-- A little-endian number. -/
def leNum : List UInt8 → Nat
  | [] => 0
  | b :: r => b.toNat + 256 * leNum r

theorem leNum_lt (l : List UInt8) : leNum l < 256 ^ l.length := by
  induction l with
  | nil => simp [leNum]
  | cons b r ih =>
    have hb : b.toNat < 256 := b.toNat_lt
    rw [leNum, List.length_cons, Nat.pow_succ]
    generalize 256 ^ r.length = P at ih
    omega

/-- The digits of u, the lowest first, n of them. -/
def digits (u : Nat) : Nat → List UInt8
  | 0 => []
  | n + 1 => UInt8.ofNat (u % 256) :: digits (u / 256) n

theorem digits_length (n : Nat) : ∀ u, (digits u n).length = n := by
  induction n with
  | zero => intro u; rfl
  | succ n ih => intro u; simp [digits, ih]

theorem leNum_digits (n : Nat) : ∀ u, leNum (digits u n) = u % 256 ^ n := by
  induction n with
  | zero => intro u; simp [digits, leNum, Nat.mod_one]
  | succ n ih =>
    intro u
    have e : (UInt8.ofNat (u % 256)).toNat = u % 256 := by simp
    rw [digits, leNum, ih, e, Nat.pow_succ, Nat.mul_comm (256 ^ n) 256, Nat.mod_mul]

theorem digits_leNum (l : List UInt8) : digits (leNum l) l.length = l := by
  induction l with
  | nil => rfl
  | cons b r ih =>
    have hb : b.toNat < 256 := b.toNat_lt
    have h1 : (b.toNat + 256 * leNum r) % 256 = b.toNat := by omega
    have h2 : (b.toNat + 256 * leNum r) / 256 = leNum r := by omega
    rw [leNum, List.length_cons, digits, h1, h2, ih]
    simp

/-- The digits, one more at the end. -/
theorem digits_snoc (n : Nat) : ∀ u, digits u (n + 1) = digits u n ++ [UInt8.ofNat (u / 256 ^ n % 256)] := by
  induction n with
  | zero => intro u; simp [digits]
  | succ n ih =>
    intro u
    rw [digits, ih, digits, List.cons_append]
    congr 3
    rw [Nat.pow_succ, Nat.mul_comm (256 ^ n) 256, Nat.div_div_eq_div_mul]

theorem div_pow_succ (u p : Nat) : u / 256 ^ p / 256 = u / 256 ^ (p + 1) := by
  rw [Nat.div_div_eq_div_mul, Nat.pow_succ]

/-- The zigzag code and back. -/
def zz (x : Int) : Int := if 0 ≤ x then x * 2 else -(x + 1) * 2 + 1
def unzz (u : Int) : Int := if u % 2 = 0 then u / 2 else -(u / 2) - 1

theorem unzz_zz (x : Int) : unzz (zz x) = x := by unfold unzz zz; split <;> split <;> omega
theorem zz_unzz (u : Int) (h : 0 ≤ u) : zz (unzz u) = u := by unfold unzz zz; split <;> split <;> omega
theorem zz_range (x : Int) (h0 : -9223372036854775808 ≤ x) (h1 : x ≤ 9223372036854775807) : 0 ≤ zz x ∧ zz x ≤ 18446744073709551615 := by
  unfold zz; split <;> omega
theorem unzz_range (u : Int) (h0 : 0 ≤ u) (h1 : u ≤ 18446744073709551615) : -9223372036854775808 ≤ unzz u ∧ unzz u ≤ 9223372036854775807 := by
  unfold unzz; split <;> omega

/-- The parts of a stored value. -/
def hdr (s : ByteArray) : Nat := (s.data.toList[0]?.getD 0).toNat
def kOf (s : ByteArray) : Nat := hdr s / 16
def nOf (s : ByteArray) : Nat := hdr s % 16
def uOf (s : ByteArray) : Nat := leNum ((s.data.toList.drop 1).take (nOf s))
def restOf (s : ByteArray) : ByteArray := s.extract (1 + nOf s) s.size
def framed (s : ByteArray) : Prop := 0 < s.size ∧ nOf s ≤ 8 ∧ nOf s < s.size

theorem hdr_lt (s : ByteArray) : hdr s < 256 := (s.data.toList[0]?.getD 0).toNat_lt
theorem uOf_lt (s : ByteArray) (h : nOf s ≤ 8) : uOf s < 18446744073709551616 := by
  have h1 := leNum_lt ((s.data.toList.drop 1).take (nOf s))
  have h2 : ((s.data.toList.drop 1).take (nOf s)).length ≤ 8 := by simp; omega
  have h3 : 256 ^ ((s.data.toList.drop 1).take (nOf s)).length ≤ 256 ^ 8 := Nat.pow_le_pow_right (by omega) h2
  have h4 : (256 : Nat) ^ 8 = 18446744073709551616 := by decide
  unfold uOf
  omega

/-- What readStored gives. -/
def RS (s : ByteArray) (k : Nat) (i : Int) (str rest : ByteArray) (ok : Bool) : Prop :=
  (¬ framed s ∧ k = 0 ∧ i = 0 ∧ str = ByteArray.empty ∧ rest = s ∧ ok = false) ∨
  (framed s ∧ kOf s = 0 ∧ k = 0 ∧ i = 0 ∧ str = ByteArray.empty ∧ rest = restOf s ∧ ok = decide (nOf s = 0)) ∨
  (framed s ∧ (kOf s = 1 ∨ kOf s = 3) ∧ k = kOf s ∧ i = unzz (uOf s) ∧ str = ByteArray.empty ∧ rest = restOf s ∧ ok = true) ∨
  (framed s ∧ kOf s = 2 ∧ (restOf s).size < uOf s ∧ k = 0 ∧ i = 0 ∧ str = ByteArray.empty ∧ rest = s ∧ ok = false) ∨
  (framed s ∧ kOf s = 2 ∧ uOf s ≤ (restOf s).size ∧ k = 2 ∧ i = 0 ∧ str = (restOf s).extract 0 (uOf s) ∧ rest = (restOf s).extract (uOf s) (restOf s).size ∧ ok = true) ∨
  (framed s ∧ 3 < kOf s ∧ k = 0 ∧ i = 0 ∧ str = ByteArray.empty ∧ rest = s ∧ ok = false)

/-- A round of the loop that reads the number from the right. -/
theorem leNum_step (l : List UInt8) (n k : Nat) (hk : k < n) (hn : n < l.length) :
    leNum ((l.drop (k + 1)).take (n - k)) = (l[k + 1]?.getD 0).toNat + 256 * leNum ((l.drop (k + 1 + 1)).take (n - (k + 1))) := by
  have h : k + 1 < l.length := by omega
  rw [List.drop_eq_getElem_cons h, show n - k = (n - (k + 1)) + 1 from by omega, List.take_succ_cons, leNum, List.getElem?_eq_getElem h]
  rfl

end Go.Proofs.Qxb6600999a.Plain
