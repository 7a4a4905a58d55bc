import Derived.Test.Qxb6600999aRead
import Derived.Lib.Zigzag
namespace Go.Proofs.Qxb6600999a.W
open Go.RowKit Go.Proofs.Qxb6600999a.Plain
set_option linter.unusedVariables false

theorem byte_at (p : ByteArray) (k : Nat) (h : k < p.size) : p.data.toList[k]?.getD 0 = p[k] := by
  have : k < p.data.toList.length := by simpa using h
  rw [List.getElem?_eq_getElem this]; rfl
theorem mask15 (b : Nat) (h : b < 256) : bits BinOp.and IntKind.u8 (b : Int) 15 = ((b % 16 : Nat) : Int) := by
  rw [show (15 : Int) = ((15 : Nat) : Int) from rfl, u8_and_nat b 15 h (by omega), nat_mask4]
theorem isEmpty_of (s : ByteArray) (h : s.size = 0) : s.toList.isEmpty = true := by
  rw [ByteArray.toList_eq]
  have h2 : s.data.toList.length = 0 := by simpa using h
  rw [List.eq_nil_of_length_eq_zero h2]; rfl
theorem isEmpty_not (s : ByteArray) (h : 0 < s.size) : s.toList.isEmpty = false := by
  rw [ByteArray.toList_eq]
  have h2 : s.data.toList.length = s.size := by simp
  cases hl : s.data.toList with
  | nil => rw [hl] at h2; simp only [List.length_nil] at h2; omega
  | cons => rfl
theorem or_join (v c : Nat) (hv : v ≤ 72057594037927935) (hc : c ≤ 255) : bits BinOp.or IntKind.u64 ((v : Int) * 256) (c : Int) = (v : Int) * 256 + (c : Int) := by
  rw [show (v : Int) * 256 = ((v * 256 : Nat) : Int) from by omega, u64_or_nat _ _ (by omega) (by omega), nat_join 8 (v * 256) c (by omega) (by omega)]
  omega
theorem le_bound (l : List UInt8) (n k : Nat) (h : n ≤ 8) (hk : 0 < k) : leNum ((l.drop (k + 1)).take (n - k)) ≤ 72057594037927935 := by
  have h1 := leNum_lt ((l.drop (k + 1)).take (n - k))
  have h2 : ((l.drop (k + 1)).take (n - k)).length ≤ 7 := by simp; omega
  have h3 : 256 ^ ((l.drop (k + 1)).take (n - k)).length ≤ 256 ^ 7 := Nat.pow_le_pow_right (by omega) h2
  have h4 : (256 : Nat) ^ 7 = 72057594037927936 := by decide
  omega

theorem xor_zero (x : Nat) (hx : x < 9223372036854775808) : bits .xor .i64 (x : Int) 0 = (x : Int) := by
  show IntKind.i64.wrap ((BitVec.ofInt 64 (x : Int) ^^^ BitVec.ofInt 64 0).toNat : Int) = _
  have h1 : (BitVec.ofInt 64 0).toNat = 0 := by decide
  have h2 : (BitVec.ofInt 64 (x : Int)).toNat = x := by
    rw [BitVec.ofInt_natCast, BitVec.toNat_ofNat]; exact Nat.mod_eq_of_lt (by omega)
  rw [BitVec.toNat_xor, h1, h2, Nat.xor_zero, IntKind.wrap_i64]
  omega
theorem xor_swap (x y : Int) : bits .xor .i64 x y = bits .xor .i64 y x := by
  show IntKind.i64.wrap ((BitVec.ofInt 64 x ^^^ BitVec.ofInt 64 y).toNat : Int) = IntKind.i64.wrap ((BitVec.ofInt 64 y ^^^ BitVec.ofInt 64 x).toNat : Int)
  rw [BitVec.xor_comm]
/-- 'int64(u>>1) ^ -int64(u&1)'. -/
theorem unzz_go (v : Nat) (hv : v ≤ 18446744073709551615) : bits BinOp.xor IntKind.i64 ((v : Int) / 2) (wrap64 (-wrap64 (bits BinOp.and IntKind.u64 (v : Int) 1))) = unzz (v : Int) := by
  rw [Lib.u64_and1 (v : Int) (by omega) (by omega)]
  have e : (v : Int) / 2 = ((v / 2 : Nat) : Int) := by omega
  rcases (show v % 2 = 0 ∨ v % 2 = 1 from by omega) with h | h
  · have e1 : wrap64 (-wrap64 ((v : Int) % 2)) = 0 := by rw [show (v : Int) % 2 = 0 from by omega]; unfold wrap64; omega
    rw [e1, e, xor_zero _ (by omega)]
    unfold unzz; rw [if_pos (by omega)]; omega
  · have e1 : wrap64 (-wrap64 ((v : Int) % 2)) = -1 := by rw [show (v : Int) % 2 = 1 from by omega]; unfold wrap64; omega
    rw [e1, e, xor_swap, Lib.i64_not _ (by omega)]
    unfold unzz; rw [if_neg (by omega)]; omega

/-- What the call leaves. -/
def Gave (s : ByteArray) (w : World) (e : Ending) (w' : World) : Prop :=
  ∃ (k : Nat) (i : Int) (str rest : ByteArray) (ok : Bool), e = .returned (.tuple #[.agg #[.int .u8 k, .int .i64 i, .string str], .string rest, .bool ok]) ∧ RS s k i str rest ok ∧ Below w.heap.size w w'

set_option maxHeartbeats 800000 in
theorem read_framed (s : ByteArray) (w : World) (hs : s.size ≤ 2097152) (h0 : 0 < s.size) (hemp : s.toList.isEmpty = false) (b n : Nat) (hb : s[0].toNat = b) (hb8 : b ≤ 255) (hand : bits BinOp.and IntKind.u8 (b : Int) 15 = (n : Int)) (hn8 : n ≤ 8) (hns : n < s.size)
    (hB : Hid (hdr s = b)) (hN : Hid (nOf s = n)) :
    Calls Try.prog 35 #[.string s] w (Gave s w) := by
  have hl0 : (0 : Int) < (s.size : Int) := by omega
  have hd8 : decide ((8 : Int) < (n : Int)) = false := by simp; omega
  have hds : decide ((s.size : Int) ≤ (n : Int)) = false := by simp; omega
  have hds' : decide (s.size ≤ n) = false := by simp; omega
  go_enter Try.func35, Try.ntmps35
  go_wp2
  go_quiet (fail)
  go_wp2
  go_loop [7, 8] (fun u i => ∃ k v : Nat, i = .int .i64 k ∧ u = .int .u64 v ∧ k ≤ n ∧ Hid (v = leNum ((s.data.toList.drop (k + 1)).take (n - k)))) (fun _ i => (intOf i).toNat)
  case atStart => exact ⟨n, 0, rfl, rfl, Nat.le_refl _, hide (by simp [leNum])⟩
  case round =>
    obtain ⟨k, v, rfl, rfl, hk, HV⟩ := hrel
    by_cases hk0 : 0 < k
    · obtain ⟨m, rfl⟩ : ∃ m, k = m + 1 := ⟨k - 1, by omega⟩
      have hks : m + 1 < s.size := by omega
      obtain ⟨c, hc⟩ : ∃ c : Nat, s[m + 1].toNat = c := ⟨_, rfl⟩
      have hc8 : c ≤ 255 := by have := s[m + 1].toNat_lt; omega
      have hv : v ≤ 72057594037927935 := by rw [HV.out]; exact le_bound _ _ _ hn8 hk0
      have hor := or_join v c hv hc8
      go_wp2
      go_round
      case rel =>
        have hst := leNum_step s.data.toList n m (by omega) (by simpa using hns)
        rw [byte_at s (m + 1) hks, hc, ← HV.out] at hst
        exact ⟨m, v * 256 + c, rfl, by go_num, by omega, hide (by rw [hst]; omega)⟩
      case measure => simp [intOf]
    · obtain rfl : k = 0 := by omega
      have HU : Hid (uOf s = v) := by
        have h := HV.out
        unfold uOf
        rw [hN.out, h]
        rfl
      have hvl : v ≤ 18446744073709551615 := by
        have := uOf_lt s (by rw [hN.out]; exact hn8)
        rw [HU.out] at this
        omega
      have hun := unzz_go v hvl
      have hfr : framed s := ⟨h0, by rw [hN.out]; exact hn8, by rw [hN.out]; exact hns⟩
      have HF := hide hfr
      have HR : Hid (restOf s = s.extract (1 + n) s.size) := by unfold restOf; rw [hN.out]; rfl
      have HK : Hid (kOf s = b / 16) := by unfold kOf; rw [hB.out]; rfl
      have hrs : (restOf s).size = s.size - (1 + n) := by rw [HR.out]; simp
      have HS := hide hrs
      clear hfr hrs
      have hbel : ∀ nq, Below w.heap.size w ((w.alloc (Obj.cells #[Value.int IntKind.u8 0, Value.int IntKind.i64 0, Value.string { data := #[] }] 45)).drewN nq) := fun nq => below_drewN ((Below.refl _ _).alloc (Nat.le_refl _) _) nq
      go_wp2
      · -- null
        have hk0 := eq_of_beq (α := Int) (a := (b : Int) / 16) (b := 0) (by assumption)
        refine bodyPost_ret (v := .tuple #[.agg #[.int .u8 0, .int .i64 0, .string ⟨#[]⟩], .string (s.extract (1 + n) s.size), .bool ((n : Int) == 0)]) (by simp [results, Try.results35, go_sem]) rfl ⟨0, 0, _, _, _, rfl, ?_, ?_⟩
        · refine Or.inr (Or.inl ⟨HF.out, by rw [HK.out]; omega, rfl, rfl, rfl, HR.out.symm, ?_⟩)
          rw [hN.out, Bool.eq_iff_iff]; simp
        · exact (((hbel _).setCell (by simp) _).setCell (by simp) _).setCell (by simp) _
      · -- int
        have hk1 := eq_of_beq (α := Int) (a := (b : Int) / 16) (b := 1) (by assumption)
        refine bodyPost_ret (v := .tuple #[.agg #[.int .u8 (b / 16 : Nat), .int .i64 (unzz v), .string ⟨#[]⟩], .string (s.extract (1 + n) s.size), .bool true]) (by simp [results, Try.results35, go_sem]) rfl ⟨_, _, _, _, _, rfl, ?_, ?_⟩
        · exact Or.inr (Or.inr (Or.inl ⟨HF.out, Or.inl (by rw [HK.out]; omega), HK.out.symm, by rw [HU.out], rfl, HR.out.symm, rfl⟩))
        · exact (((hbel _).setCell (by simp) _).setCell (by simp) _).setCell (by simp) _
      · -- bool
        have hk1 := eq_of_beq (α := Int) (a := (b : Int) / 16) (b := 3) (by assumption)
        refine bodyPost_ret (v := .tuple #[.agg #[.int .u8 (b / 16 : Nat), .int .i64 (unzz v), .string ⟨#[]⟩], .string (s.extract (1 + n) s.size), .bool true]) (by simp [results, Try.results35, go_sem]) rfl ⟨_, _, _, _, _, rfl, ?_, ?_⟩
        · exact Or.inr (Or.inr (Or.inl ⟨HF.out, Or.inr (by rw [HK.out]; omega), HK.out.symm, by rw [HU.out], rfl, HR.out.symm, rfl⟩))
        · exact (((hbel _).setCell (by simp) _).setCell (by simp) _).setCell (by simp) _
      · -- text, too short
        have hk1 := eq_of_beq (α := Int) (a := (b : Int) / 16) (b := 2) (by assumption)
        have hlt : s.size - (1 + n) < v := by assumption
        refine bodyPost_ret (v := .tuple #[.agg #[.int .u8 0, .int .i64 0, .string ⟨#[]⟩], .string s, .bool false]) (by simp [results, Try.results35, go_sem]) rfl ⟨0, _, _, _, _, rfl, ?_, ?_⟩
        · exact Or.inr (Or.inr (Or.inr (Or.inl ⟨HF.out, by rw [HK.out]; omega, by rw [HS.out, HU.out]; exact hlt, rfl, rfl, rfl, rfl, rfl⟩)))
        · exact (((hbel _).setCell (by simp) _).setCell (by simp) _).setCell (by simp) _
      · -- text
        have hk1 := eq_of_beq (α := Int) (a := (b : Int) / 16) (b := 2) (by assumption)
        have hle : v ≤ s.size - (1 + n) := by have : ¬ s.size - (1 + n) < v := by assumption
                                              omega
        go_region
        all_goals go_wp2
        refine bodyPost_ret (v := .tuple #[.agg #[.int .u8 2, .int .i64 0, .string ((s.extract (1 + n) s.size).extract 0 v)], .string ((s.extract (1 + n) s.size).extract v (s.size - (1 + n))), .bool true]) (by simp [results, Try.results35, go_sem]) rfl ⟨2, _, _, _, _, rfl, ?_, ?_⟩
        · exact Or.inr (Or.inr (Or.inr (Or.inr (Or.inl ⟨HF.out, by rw [HK.out]; omega, by rw [HS.out, HU.out]; exact hle, rfl, rfl, by rw [HR.out, HU.out], by rw [HS.out, HR.out, HU.out], rfl⟩))))
        · exact (((hbel _).setCell (by simp) _).setCell (by simp) _).setCell (by simp) _
      · -- no kind
        have hka := ne_of_beq_false (α := Int) (a := (b : Int) / 16) (b := 0) (by assumption)
        have hkb := ne_of_beq_false (α := Int) (a := (b : Int) / 16) (b := 1) (by assumption)
        have hkc := ne_of_beq_false (α := Int) (a := (b : Int) / 16) (b := 2) (by assumption)
        have hkd := ne_of_beq_false (α := Int) (a := (b : Int) / 16) (b := 3) (by assumption)
        refine bodyPost_ret (v := .tuple #[.agg #[.int .u8 0, .int .i64 0, .string ⟨#[]⟩], .string s, .bool false]) (by simp [results, Try.results35, go_sem]) rfl ⟨0, _, _, _, _, rfl, ?_, ?_⟩
        · exact Or.inr (Or.inr (Or.inr (Or.inr (Or.inr ⟨HF.out, by rw [HK.out]; omega, rfl, rfl, rfl, rfl, rfl⟩))))
        · exact (((hbel _).setCell (by simp) _).setCell (by simp) _).setCell (by simp) _

set_option maxHeartbeats 800000 in
theorem read_wide (s : ByteArray) (w : World) (hs : s.size ≤ 2097152) (h0 : 0 < s.size) (hemp : s.toList.isEmpty = false) (b n : Nat) (hb : s[0].toNat = b) (hb8 : b ≤ 255) (hand : bits BinOp.and IntKind.u8 (b : Int) 15 = (n : Int)) (hn8 : 8 < n) (hn16 : n < 16)
    (hN : Hid (nOf s = n)) :
    Calls Try.prog 35 #[.string s] w (Gave s w) := by
  have hl0 : (0 : Int) < (s.size : Int) := by omega
  have hd8 : decide ((8 : Int) < (n : Int)) = true := by simp; omega
  go_enter Try.func35, Try.ntmps35
  go_wp2
  go_quiet (fail)
  go_wp2
  refine bodyPost_ret (v := .tuple #[.agg #[.int .u8 0, .int .i64 0, .string ⟨#[]⟩], .string s, .bool false]) (by simp [results, Try.results35, go_sem]) rfl ⟨0, _, _, _, _, rfl, ?_, ?_⟩
  · exact Or.inl ⟨fun h => by have := h.2.1; rw [hN.out] at this; omega, rfl, rfl, rfl, rfl, rfl⟩
  · exact (((below_drewN ((Below.refl _ _).alloc (Nat.le_refl _) _) _).setCell (by simp) _).setCell (by simp) _).setCell (by simp) _

set_option maxHeartbeats 800000 in
theorem read_short (s : ByteArray) (w : World) (hs : s.size ≤ 2097152) (h0 : 0 < s.size) (hemp : s.toList.isEmpty = false) (b n : Nat) (hb : s[0].toNat = b) (hb8 : b ≤ 255) (hand : bits BinOp.and IntKind.u8 (b : Int) 15 = (n : Int)) (hn8 : n ≤ 8) (hns : s.size ≤ n)
    (hN : Hid (nOf s = n)) :
    Calls Try.prog 35 #[.string s] w (Gave s w) := by
  have hl0 : (0 : Int) < (s.size : Int) := by omega
  have hd8 : decide ((8 : Int) < (n : Int)) = false := by simp; omega
  have hds : decide ((s.size : Int) ≤ (n : Int)) = true := by simp; omega
  have hds' : decide (s.size ≤ n) = true := by simp; omega
  go_enter Try.func35, Try.ntmps35
  go_wp2
  go_quiet (fail)
  go_wp2
  refine bodyPost_ret (v := .tuple #[.agg #[.int .u8 0, .int .i64 0, .string ⟨#[]⟩], .string s, .bool false]) (by simp [results, Try.results35, go_sem]) rfl ⟨0, _, _, _, _, rfl, ?_, ?_⟩
  · exact Or.inl ⟨fun h => by have := h.2.2; rw [hN.out] at this; omega, rfl, rfl, rfl, rfl, rfl⟩
  · exact (((below_drewN ((Below.refl _ _).alloc (Nat.le_refl _) _) _).setCell (by simp) _).setCell (by simp) _).setCell (by simp) _

theorem read_empty (s : ByteArray) (w : World) (h0 : s.size = 0) (hemp : s.toList.isEmpty = true) : Calls Try.prog 35 #[.string s] w (Gave s w) := by
  have H0 := hide h0
  clear h0
  go_enter Try.func35, Try.ntmps35
  go_wp2
  refine bodyPost_ret (v := .tuple #[.agg #[.int .u8 0, .int .i64 0, .string ⟨#[]⟩], .string s, .bool false]) (by simp [results, Try.results35, go_sem]) rfl ⟨0, _, _, _, _, rfl, ?_, ?_⟩
  · exact Or.inl ⟨fun h => by have := h.1; rw [H0.out] at this; omega, rfl, rfl, rfl, rfl, rfl⟩
  · exact (Below.refl _ _).alloc (Nat.le_refl _) _

theorem read_any (s : ByteArray) (w : World) (hs : s.size ≤ 2097152) : Calls Try.prog 35 #[.string s] w (Gave s w) := by
  by_cases h0 : 0 < s.size
  · have hb : hdr s = s[0].toNat := by unfold hdr; rw [byte_at s 0 h0]
    have hb8 := s[0].toNat_lt
    have hand := mask15 s[0].toNat (by omega)
    have hN : nOf s = s[0].toNat % 16 := by unfold nOf; rw [hb]
    by_cases h8 : 8 < s[0].toNat % 16
    · exact read_wide s w hs h0 (isEmpty_not s h0) _ _ rfl (by omega) hand h8 (by omega) hN
    · by_cases hns : s.size ≤ s[0].toNat % 16
      · exact read_short s w hs h0 (isEmpty_not s h0) _ _ rfl (by omega) hand (by omega) hns hN
      · exact read_framed s w hs h0 (isEmpty_not s h0) _ _ rfl (by omega) hand (by omega) (by omega) hb hN
  · exact read_empty s w (by omega) (isEmpty_of s (by omega))
end Go.Proofs.Qxb6600999a.W
