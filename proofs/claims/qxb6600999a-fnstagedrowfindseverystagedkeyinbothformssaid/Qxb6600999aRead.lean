import Derived.Test.Qxb6600999aRows
import Derived.Test.Qxb6600999aPlain
import Derived.WalkKit
import Derived.WalkSpells
import Derived.WalkLawsBesides
import Derived.ProofKit
import Derived.RegionTactic
import Derived.ChangeAlike
import Derived.Deep.QuietTactic
import Derived.BigQuiet
import Derived.Laws.BitsAllLaws
namespace Go.Proofs.Qxb6600999a.W
open Go.RowKit Go.Proofs.Qxb6600999a.Plain
theorem hide {q : Prop} (h : q) : Hid q := h
theorem ret_int {k : IntKind} {a b : Int} (h : a = b) : Ending.returned (.int k a) = .returned (.int k b) := by rw [h]

theorem zigzag_any (x : Int) (w : World) (h0 : -9223372036854775808 ≤ x) (h1 : x ≤ 9223372036854775807) :
    Calls Try.prog 15 #[.int .i64 x] w fun e w' => e = .returned (.int .u64 (zz x)) ∧ w' = w := by
  by_cases hx : 0 ≤ x
  · have e : zz x = x * 2 := by simp [zz, hx]
    rw [e]; clear e
    go_enter Try.func15, Try.ntmps15
    go_wp2
    go_ret
    exact ⟨rfl, rfl⟩
  · have e : zz x = -(x + 1) * 2 + 1 := by simp [zz, hx]
    rw [e]; clear e
    go_enter Try.func15, Try.ntmps15
    go_wp2
    go_ret
    exact ⟨rfl, rfl⟩

theorem needed_step {a u k : Nat} (hu : u ≤ 18446744073709551615) (ha : ¬ a = 0) (h : a = u / 256 ^ k) : k < 8 := by
  rcases Nat.lt_or_ge k 8 with h8 | h8
  · exact h8
  · have h2 : (256 : Nat) ^ 8 ≤ 256 ^ k := Nat.pow_le_pow_right (by omega) h8
    have h4 : (256 : Nat) ^ 8 = 18446744073709551616 := by decide
    exact absurd (h.trans (Nat.div_eq_of_lt (by omega))) ha

set_option maxHeartbeats 400000 in
theorem needed_any (u : Nat) (w : World) (h1 : u ≤ 18446744073709551615) :
    Calls Try.prog 16 #[.int .u64 u] w fun e w' => ∃ m : Nat, e = .returned (.int .i64 m) ∧ u < 256 ^ m ∧ m ≤ 8 ∧ w' = w := by
  go_enter Try.func16, Try.ntmps16
  go_wp2
  go_loop [0, 3] (fun v i => ∃ a k : Nat, v = .int .u64 a ∧ i = .int .i64 k ∧ k ≤ 8 ∧ a ≤ 18446744073709551615 ∧ Hid (a = u / 256 ^ k)) (fun v _ => (intOf v).toNat)
  case atStart => exact ⟨u, 0, rfl, rfl, by omega, h1, hide (by simp)⟩
  case round =>
    obtain ⟨a, k, rfl, rfl, hk, hal, HA⟩ := hrel
    by_cases ha : a = 0
    · subst ha
      go_wp2
      go_ret
      refine ⟨k, rfl, ?_, hk, rfl⟩
      have h := HA.out
      have hp : 0 < 256 ^ k := Nat.pow_pos (by omega)
      exact Nat.lt_of_div_eq_zero hp h.symm
    · have hk8 := needed_step h1 ha HA.out
      have hpos : ((a : Int) != 0) = true := by rw [bne_iff_ne]; omega
      go_wp2
      go_round
      case rel => exact ⟨a / 256, k + 1, by go_num, by go_num, by omega, by omega, hide (by rw [HA.out]; exact div_pow_succ u k)⟩
      case measure => simp [intOf]; omega
end Go.Proofs.Qxb6600999a.W
