import Derived.Test.Qxb6600999aRead3
import Derived.Test.Qxb6600999aPlain3
namespace Go.Proofs.Qxb6600999a.W
open Go.RowKit Go.Proofs.Qxb6600999a.Plain
set_option linter.unusedVariables false

/-- What the array of digits holds behind p rounds. -/
def lbAt (L p j : Nat) : Nat := if j < p then dig L j else 0

theorem lb_step {L k a : Nat} {wr : World} {B : Nat} (hk : k < 8) (ha : a = L / 256 ^ k) (hc : ∀ j, j < 8 → wr.cell? ⟨B, j, none⟩ = some (.int .u8 (lbAt L k j))) :
    ∀ j, j < 8 → (wr.setCell ⟨B, k, none⟩ (.int .u8 ((a : Int) % 256))).cell? ⟨B, j, none⟩ = some (.int .u8 (lbAt L (k + 1) j)) := by
  intro j hj
  by_cases e : j = k
  · subst e
    rw [World.cell?_setCell_same _ _ _ (hc j hj)]
    have : lbAt L (j + 1) j = a % 256 := by unfold lbAt dig; rw [if_pos (by omega), ha]
    rw [this]; rfl
  · rw [World.cell?_setCell_other _ _ _ _ (by intro h; cases h; exact e rfl), hc j hj]
    have : lbAt L (k + 1) j = lbAt L k j := by unfold lbAt; by_cases h : j < k <;> simp [h] <;> omega
    rw [this]
theorem lb_start (L : Nat) (w : World) : ∀ j, j < 8 → (w.alloc (Obj.cells #[Value.int IntKind.u8 0, Value.int IntKind.u8 0, Value.int IntKind.u8 0, Value.int IntKind.u8 0, Value.int IntKind.u8 0, Value.int IntKind.u8 0, Value.int IntKind.u8 0, Value.int IntKind.u8 0] 73)).cell? ⟨w.heap.size, j, none⟩ = some (.int .u8 (lbAt L 0 j)) := by
  intro j hj
  rw [World.cell?_alloc_at _ _ _ _ rfl]
  match j, hj with
  | 0, _ | 1, _ | 2, _ | 3, _ | 4, _ | 5, _ | 6, _ | 7, _ => rfl
theorem byte_ofD {s : ByteArray} {n p : Nat} {D : List UInt8} (hD : D = (s.data.toList.drop 1).take n) (hp : p < n) (h : 1 + p < s.size) : (D[p]?.getD 0).toNat = s[1 + p].toNat := by
  rw [hD, List.getElem?_take, if_pos hp, List.getElem?_drop, byte_at s (1 + p) h]

theorem ret_bool {a b : Bool} (h : a = b) : Ending.returned (.bool a) = .returned (.bool b) := by rw [h]
theorem lt_law {U L p c q : Nat} (h : U / 256 ^ (p + 1) = L / 256 ^ (p + 1)) (hU : dig U p = c) (hq : q = dig L p) (hne : c ≠ q) : decide (c < q) = decide (U ≤ L) := by
  rcases Nat.lt_or_ge c q with h1 | h1
  · have := top_lt h (by omega); simp [h1, this]
  · have := top_gt (U := U) (L := L) (j := p) h (by omega)
    rw [decide_eq_false (by omega), decide_eq_false this]

set_option maxHeartbeats 800000 in
theorem fits_any (s : ByteArray) (n : Nat) (w : World) (hs : s.size ≤ 2097152) (hn8 : n ≤ 8) (hns : n < s.size) :
    Calls Try.prog 12 #[.string s, .int .i64 n] w fun e w' => e = .returned (.bool (decide (leNum ((s.data.toList.drop 1).take n) ≤ s.size - 1 - n))) ∧ Below w.heap.size w w' := by
  obtain ⟨L, hL⟩ : ∃ L : Nat, L = s.size - 1 - n := ⟨_, rfl⟩
  obtain ⟨D, hD⟩ : ∃ D, D = (s.data.toList.drop 1).take n := ⟨_, rfl⟩
  rw [← hL, ← hD]
  have hL2 : L ≤ 2097152 := by omega
  have hLs : n + 1 + L = s.size := by omega
  have HD := hide hD
  clear hL hD
  have e0 : (s.size : Int) - 1 - n = (L : Int) := by omega
  go_enter Try.func12, Try.ntmps12
  go_wp2
  go_loopw [5, 7] (fun l p wr => ∃ a k : Nat, l = .int .i64 a ∧ p = .int .i64 k ∧ k ≤ 8 ∧ a ≤ 2097152 ∧ Hid (a = L / 256 ^ k) ∧ (∀ j, j < 8 → wr.cell? ⟨w.heap.size, j, none⟩ = some (.int .u8 (lbAt L k j))) ∧ (∀ j, wr.frozen? ⟨w.heap.size, j, none⟩ = false) ∧ w.heap.size < wr.heap.size ∧ Below w.heap.size w wr) (fun _ p _ => 8 - (intOf p).toNat)
  case atStart => exact ⟨L, 0, rfl, rfl, by omega, by omega, hide (by simp), lb_start L w, fun j => World.frozen?_alloc_at _ _ _ _ rfl, by simp, (Below.refl _ _).alloc (Nat.le_refl _) _⟩
  case round =>
    obtain ⟨a, k, rfl, rfl, hk, ha, HA, hc, hf, hz, hb⟩ := hrel
    by_cases hk8 : k < 8
    · have hck := hc k hk8
      have hfk := hf k
      have HC := hide hc
      have HF := hide hf
      clear hc hf
      go_wp2
      go_roundw
      case rel => exact ⟨a / 256, k + 1, by go_num, by go_num, by omega, by omega, hide (by rw [HA.out]; exact div_pow_succ _ _), lb_step hk8 HA.out HC.out, fun j => by rw [World.frozen?_setCell]; exact HF.out j, by simpa using hz, hb.setCell (Nat.le_refl _) _⟩
      case measure => simp [intOf]; omega
    · obtain rfl : k = 8 := by omega
      obtain ⟨w2, hw2⟩ : ∃ w2, w2 = wr := ⟨_, rfl⟩
      subst hw2
      have HC := hide hc
      clear hc hf
      have hD8 : leNum D < 256 ^ 8 := Nat.lt_of_lt_of_le (leNum_lt D) (Nat.pow_le_pow_right (by omega) (by rw [HD.out, List.length_take]; omega))
      have hD8 := hide hD8
      go_wp2
      go_loop [8, 9] (fun p _ => ∃ k : Nat, p = .int .i64 ((k : Int) - 1) ∧ k ≤ 8 ∧ Hid (leNum D / 256 ^ k = L / 256 ^ k)) (fun p _ => (intOf p + 1).toNat)
      case atStart => exact ⟨8, rfl, by omega, hide (by rw [Nat.div_eq_of_lt hD8.out, Nat.div_eq_of_lt (by omega)])⟩
      case round =>
        obtain ⟨k, rfl, hk, HE⟩ := hrel
        by_cases hk0 : 0 < k
        · obtain ⟨p, rfl⟩ : ∃ p, k = p + 1 := ⟨k - 1, by omega⟩
          have hcp := HC.out p (by omega)
          have hlq : lbAt L 8 p = dig L p := by unfold lbAt; rw [if_pos (by omega)]
          rw [hlq] at hcp
          clear hlq
          have hdU := hide (dig_leNum D p)
          obtain ⟨q, hq⟩ : ∃ q, q = dig L p := ⟨_, rfl⟩
          rw [← hq] at hcp
          have HQ := hide hq
          clear hq
          by_cases hpn : p < n
          · have hcj : 0 ≤ 1 + (p : Int) ∧ 1 + (p : Int) < (s.size : Int) := by omega
            have hps : 1 + p < s.size := by omega
            obtain ⟨c, hc⟩ : ∃ c : Nat, s[1 + p].toNat = c := ⟨_, rfl⟩
            have HU : Hid (dig (leNum D) p = c) := by rw [hdU.out, byte_ofD HD.out hpn hps, hc]; rfl
            go_wp2
            · have hne := bne_iff_ne.1 (show ((c : Int) != (q : Int)) = true from by assumption)
              go_ret
              exact ⟨ret_bool (lt_law HE.out HU.out HQ.out (by omega)), hb⟩
            · have heq : (c : Int) = (q : Int) := by simpa using (show ((c : Int) != (q : Int)) = false from by assumption)
              go_round
              case rel => exact ⟨p, rfl, by omega, hide (top_eq HE.out (by rw [HU.out, ← HQ.out]; omega))⟩
              case measure => simp [intOf]
          · have HU : Hid (dig (leNum D) p = 0) := by
              rw [hdU.out, HD.out, List.getElem?_take, if_neg hpn]; rfl
            go_wp2
            · have hne := bne_iff_ne.1 (show ((0 : Int) != (q : Int)) = true from by assumption)
              go_ret
              exact ⟨ret_bool (lt_law HE.out HU.out HQ.out (by omega)), hb⟩
            · have heq : (0 : Int) = (q : Int) := by simpa using (show ((0 : Int) != (q : Int)) = false from by assumption)
              go_round
              case rel => exact ⟨p, rfl, by omega, hide (top_eq HE.out (by rw [HU.out, ← HQ.out]; omega))⟩
              case measure => simp [intOf]
        · obtain rfl : k = 0 := by omega
          have hE : leNum D = L := by have := HE.out; simpa using this
          go_wp2
          go_ret
          exact ⟨ret_bool (by simp), hb⟩
end Go.Proofs.Qxb6600999a.W
