import Derived.Test.Qxb6603197aRows
import Derived.Test.Qxb6603197aPlain
import Derived.WalkKit
import Derived.WalkSpells
import Derived.WalkLawsBesides
import Derived.ProofKit
namespace Go.Proofs.Qxb6603197a.W
open Go.RowKit Go.Proofs.Qxb6603197a.Plain

theorem hide {q : Prop} (h : q) : Hid q := h
/-- The trimmed text. -/
def trimmed (p : ByteArray) : ByteArray := p.extract 0 (mEnd p.data.toList p.size)

theorem byte_at (p : ByteArray) (k : Nat) (h : k < p.size) : p.data.toList[k]?.getD 0 = p[k] := by
  have : k < p.data.toList.length := by simpa using h
  rw [List.getElem?_eq_getElem this]; rfl

theorem byte_eq {b : UInt8} {n : Nat} [OfNat UInt8 n] (h : ((b.toNat : Int) == (n : Int)) = true) (hn : (OfNat.ofNat n : UInt8).toNat = n := by decide) : b = OfNat.ofNat n := by
  apply UInt8.toNat_inj.1; rw [hn]; have := beq_iff_eq.1 h; omega
theorem byte_ne {b : UInt8} {n : Nat} [OfNat UInt8 n] (h : ((b.toNat : Int) == (n : Int)) = false) (hn : (OfNat.ofNat n : UInt8).toNat = n := by decide) : ¬ b = OfNat.ofNat n := by
  intro e; subst e; rw [hn] at h; simp at h

set_option maxHeartbeats 400000 in
theorem trim_any (p : ByteArray) (w : World) (hs : p.size ≤ 2097152) :
    Calls Try.prog 17 #[.string p] w fun e w' => e = .returned (.string (trimmed p)) ∧ w' = w := by
  go_enter Try.func17, Try.ntmps17
  go_wp2
  go_loop [3, 4] (fun n i => ∃ k e : Nat, i = .int .i64 k ∧ n = .int .i64 e ∧ ((k ≤ p.size ∧ bsRun p.data.toList k % 2 = 0 ∧ e = mEnd p.data.toList k) ∨ (k = p.size + 1 ∧ e = mEnd p.data.toList p.size))) (fun _ i => p.size + 1 - (intOf i).toNat)
  case atStart => exact ⟨0, 0, rfl, rfl, Or.inl ⟨Nat.zero_le _, rfl, rfl⟩⟩
  case round =>
    obtain ⟨k, e, rfl, rfl, hr⟩ := hrel
    have hme := mEnd_le p.data.toList k
    have hme2 := mEnd_le p.data.toList p.size
    have hle : e ≤ p.size := by omega
    by_cases hlt : k < p.size
    · have hr' : bsRun p.data.toList k % 2 = 0 ∧ e = mEnd p.data.toList k := by
        rcases hr with h | h
        · exact h.2
        · omega
      have HR := hide hr'
      clear hr hr' hme hme2
      go_wp2
      · go_round
        case rel =>
          have h32 : p.data.toList[k]?.getD 0 = 32 := by rw [byte_at p k hlt]; exact byte_eq (by assumption)
          have hh := at_space h32 HR.out.1
          exact ⟨k + 1, e, by go_num, rfl, Or.inl ⟨by omega, hh.1, by rw [hh.2]; exact HR.out.2⟩⟩
        case measure => simp [intOf]; omega
      · go_round
        case rel =>
          have h92 : p.data.toList[k]?.getD 0 = 92 := by rw [byte_at p k hlt]; exact byte_eq (by assumption)
          by_cases hend : k + 1 < p.size
          · have hh := at_bs h92 HR.out.1
            exact ⟨k + 2, k + 2, by go_num, by rw [if_neg (by omega)]; go_num, Or.inl ⟨by omega, hh.1, hh.2.symm⟩⟩
          · have hh := at_bs_end h92
            have he : p.size = k + 1 := by omega
            exact ⟨k + 2, k + 1, by go_num, by rw [if_pos (by omega)]; rw [he], Or.inr ⟨by omega, by rw [he]; exact hh.symm⟩⟩
        case measure => simp [intOf]; omega
      · go_round
        case rel =>
          have h32 : ¬ p.data.toList[k]?.getD 0 = 32 := by rw [byte_at p k hlt]; exact byte_ne (by assumption)
          have h92 : ¬ p.data.toList[k]?.getD 0 = 92 := by rw [byte_at p k hlt]; exact byte_ne (by assumption)
          have hh := at_plain h32 h92
          exact ⟨k + 1, k + 1, by go_num, by go_num, Or.inl ⟨by omega, hh.1, hh.2.symm⟩⟩
        case measure => simp [intOf]; omega
    · have hr' : e = mEnd p.data.toList p.size := by
        rcases hr with h | h
        · rw [h.2.2]; congr 1; omega
        · exact h.2
      have HR := hide hr'
      clear hr hr' hme hme2
      go_wp2
      go_ret
      exact ⟨by rw [HR.out]; rfl, rfl⟩

theorem odd_of {k : Nat} (h : ((k : Int) % 2 == 1) = true) : k % 2 = 1 := by have := beq_iff_eq.1 h; omega
theorem even_of {k : Nat} (h : ((k : Int) % 2 == 1) = false) : k % 2 = 0 := by have := beq_eq_false_iff_ne.1 h; omega
theorem ret_str {a b : ByteArray} (h : a = b) : Ending.returned (.string a) = .returned (.string b) := by rw [h]
theorem extract_zero (p : ByteArray) : p.extract 0 0 = ByteArray.empty := by
  apply ByteArray.ext; simp

set_option maxHeartbeats 400000 in
theorem model_any (p : ByteArray) (w : World) (hs : p.size ≤ 2097152) :
    Calls Try.prog 10 #[.string p] w fun e w' => e = .returned (.string (trimmed p)) ∧ w' = w := by
  go_enter Try.func10, Try.ntmps10
  go_wp2
  go_loop [3] (fun i => ∃ j : Nat, i = .int .i64 j ∧ j ≤ p.size ∧ Hid (mEnd p.data.toList p.size = mEnd p.data.toList j)) (fun i => (intOf i).toNat)
  case atStart => exact ⟨p.size, rfl, Nat.le_refl _, hide rfl⟩
  case round =>
    obtain ⟨j, rfl, hj, HR⟩ := hrel
    by_cases hpos : 0 < j
    · obtain ⟨m, rfl⟩ : ∃ m, j = m + 1 := ⟨j - 1, by omega⟩
      have hm : m < p.size := by omega
      go_wp2
      · have h32 : ¬ p.data.toList[m]?.getD 0 = 32 := by rw [byte_at p m hm]; exact byte_ne (by simpa using (show ((p[m].toNat : Int) != 32) = true from by assumption))
        go_ret
        exact ⟨ret_str (by rw [trimmed, HR.out, end_other h32]), rfl⟩
      · have h32 : p.data.toList[m]?.getD 0 = 32 := by rw [byte_at p m hm]; exact byte_eq (by simpa using (show ((p[m].toNat : Int) != 32) = false from by assumption))
        have H32 := hide h32
        clear h32
        go_loop [4] (fun i => ∃ k : Nat, i = .int .i64 k ∧ k ≤ m ∧ allBs p.data.toList m k) (fun i => m - (intOf i).toNat)
        case atStart => exact ⟨0, rfl, Nat.zero_le _, all_zero _ _⟩
        case round =>
          obtain ⟨k, rfl, hk, hall⟩ := hrel
          by_cases hkm : k < m
          · have hidx : m - 1 - k < p.size := by omega
            go_wp2
            · go_round
              case rel =>
                have h92 : p.data.toList[m - 1 - k]?.getD 0 = 92 := by rw [byte_at p _ hidx]; exact byte_eq (by assumption)
                exact ⟨k + 1, by go_num, by omega, all_succ hall hkm h92⟩
              case measure => simp [intOf]; omega
            · have hrun : bsRun p.data.toList m = k := run_of_all hall (Or.inr (by rw [byte_at p _ hidx]; exact byte_ne (by assumption)))
              have hodd := odd_of (k := k) (by assumption)
              go_ret
              exact ⟨ret_str (by rw [trimmed, HR.out, end_odd (by rw [hrun]; exact hodd)]), rfl⟩
            · have hrun : bsRun p.data.toList m = k := run_of_all hall (Or.inr (by rw [byte_at p _ hidx]; exact byte_ne (by assumption)))
              have hev := even_of (k := k) (by assumption)
              go_round
              case rel => exact ⟨m, rfl, by omega, hide (by rw [HR.out]; exact end_space H32.out (by rw [hrun]; exact hev))⟩
              case measure => simp [intOf]
          · obtain rfl : k = m := by omega
            have hrun : Hid (bsRun p.data.toList k = k) := run_of_all hall (Or.inl rfl)
            go_wp2
            · have hodd := odd_of (k := k) (by assumption)
              go_ret
              exact ⟨ret_str (by rw [trimmed, HR.out, end_odd (by rw [hrun.out]; exact hodd)]), rfl⟩
            · have hev := even_of (k := k) (by assumption)
              go_round
              case rel => exact ⟨k, rfl, by omega, hide (by rw [HR.out]; exact end_space H32.out (by rw [hrun.out]; exact hev))⟩
              case measure => simp [intOf]
    · obtain rfl : j = 0 := by omega
      go_wp2
      go_ret
      exact ⟨ret_str (by rw [trimmed, HR.out]; exact (extract_zero p).symm), rfl⟩
end Go.Proofs.Qxb6603197a.W
