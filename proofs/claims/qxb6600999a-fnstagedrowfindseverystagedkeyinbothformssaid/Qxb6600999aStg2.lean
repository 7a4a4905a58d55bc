import Derived.Test.Qxb6600999aStg0
import Derived.Deep.RegionHeld3
namespace Go.Proofs.Qxb6600999a.W
open Go.RowKit Go.Proofs.Qxb6600999a.Plain
set_option linter.unusedVariables false
attribute [local go_sem ↓] Go.wp_at_zero Go.wp_at_succ

/-- 'zzKeysDistinct' answers some bool; where it says true no two keys are the same. -/
def DistAns (f : Nat → Key) (n : Nat) (w : World) (e : Ending) (w' : World) : Prop := ∃ r, e = .returned (.bool r) ∧ (r = true → ∀ a b, a < b → b < n → f a ≠ f b) ∧ Below w.heap.size w w'

set_option maxRecDepth 100000 in
set_option maxHeartbeats 3200000 in
theorem distinct_any (ks zs : List Int) (ss : List ByteArray) (a0 a1 a2 : Option Addr) (c0 c1 c2 n : Nat) (w : World) (h0 : IsU8s w a0 ks) (h1 : IsInts w a1 zs) (h2 : IsStrs w a2 ss)
    (l0 : ks.length ≤ 100000) (l1 : zs.length ≤ 100000) (l2 : ss.length ≤ 100000) (m0 : n ≤ ks.length) (m1 : n ≤ zs.length) (m2 : n ≤ ss.length) :
    Calls Try.prog 21 #[.slice a0 ks.length c0, .slice a1 zs.length c1, .slice a2 ss.length c2, .int .i64 n] w (DistAns (keyAt ks zs ss) n w) := by
  obtain ⟨n0, hn0⟩ : ∃ n, n = ks.length := ⟨_, rfl⟩
  obtain ⟨n1, hn1⟩ : ∃ n, n = zs.length := ⟨_, rfl⟩
  obtain ⟨n2, hn2⟩ : ∃ n, n = ss.length := ⟨_, rfl⟩
  rw [← hn0] at l0 m0 ⊢
  rw [← hn1] at l1 m1 ⊢
  rw [← hn2] at l2 m2 ⊢
  have HN0 := hide hn0
  have HN1 := hide hn1
  have HN2 := hide hn2
  have H0 := hide h0
  have H1 := hide h1
  have H2 := hide h2
  clear hn0 hn1 hn2 h0 h1 h2
  go_enter Try.func21, Try.ntmps21
  go_wp2
  go_loopw [9] (fun i wr => ∃ a : Nat, i = .int .i64 a ∧ a ≤ n ∧ Hid (∀ x y, x < a → x < y → y < n → keyAt ks zs ss x ≠ keyAt ks zs ss y) ∧ Below w.heap.size w wr) (fun i _ => n - (intOf i).toNat)
  case atStart => exact ⟨0, rfl, Nat.zero_le _, hide (fun x y h => by omega), Below.refl _ _⟩
  case round =>
    obtain ⟨a, rfl, ha, HD, hb⟩ := hrel
    by_cases han : a < n
    · go_wp2
      go_loopw [10] (fun i wr => ∃ b : Nat, i = .int .i64 b ∧ a < b ∧ b ≤ n ∧ Hid (∀ y, a < y → y < b → keyAt ks zs ss a ≠ keyAt ks zs ss y) ∧ Below w.heap.size w wr) (fun i _ => n - (intOf i).toNat)
      case atStart => exact ⟨a + 1, by go_num, by omega, by omega, hide (fun y h1 h2 => by omega), hb⟩
      case round =>
        obtain ⟨b, rfl, hab, hbn, HE, hb⟩ := hrel
        by_cases hbl : b < n
        · obtain ⟨x0, o0, rfl, hx0, hs0⟩ := H0.out (by rw [← HN0.out]; omega)
          obtain ⟨x1, o1, rfl, hx1, hs1⟩ := H1.out (by rw [← HN1.out]; omega)
          obtain ⟨x2, o2, rfl, hx2, hs2⟩ := H2.out (by rw [← HN2.out]; omega)
          have f0 := (hb.cell (p := ⟨x0, o0 + a, none⟩) hx0).trans (hs0 a (by rw [← HN0.out]; omega))
          have f1 := (hb.cell (p := ⟨x1, o1 + a, none⟩) hx1).trans (hs1 a (by rw [← HN1.out]; omega))
          have f2 := (hb.cell (p := ⟨x2, o2 + a, none⟩) hx2).trans (hs2 a (by rw [← HN2.out]; omega))
          have g0 := (hb.cell (p := ⟨x0, o0 + b, none⟩) hx0).trans (hs0 b (by rw [← HN0.out]; omega))
          have g1 := (hb.cell (p := ⟨x1, o1 + b, none⟩) hx1).trans (hs1 b (by rw [← HN1.out]; omega))
          have g2 := (hb.cell (p := ⟨x2, o2 + b, none⟩) hx2).trans (hs2 b (by rw [← HN2.out]; omega))
          obtain ⟨k, hk⟩ : ∃ k, k = ks[a]?.getD 0 := ⟨_, rfl⟩
          obtain ⟨z, hz⟩ : ∃ z, z = zs[a]?.getD 0 := ⟨_, rfl⟩
          obtain ⟨s, hs⟩ : ∃ s, s = ss[a]?.getD ByteArray.empty := ⟨_, rfl⟩
          obtain ⟨k', hk'⟩ : ∃ k, k = ks[b]?.getD 0 := ⟨_, rfl⟩
          obtain ⟨z', hz'⟩ : ∃ z, z = zs[b]?.getD 0 := ⟨_, rfl⟩
          obtain ⟨s', hs'⟩ : ∃ s, s = ss[b]?.getD ByteArray.empty := ⟨_, rfl⟩
          rw [← hk] at f0
          rw [← hz] at f1
          rw [← hs] at f2
          rw [← hk'] at g0
          rw [← hz'] at g1
          rw [← hs'] at g2
          have KA : Hid (keyAt ks zs ss a = (k, z, s)) := by unfold keyAt; rw [← hk, ← hz, ← hs]; rfl
          have KB : Hid (keyAt ks zs ss b = (k', z', s')) := by unfold keyAt; rw [← hk', ← hz', ← hs']; rfl
          clear hs0 hs1 hs2 hk hz hs hk' hz' hs'
          have ha0 : (0 : Int) ≤ (a : Int) := by omega
          have hb0 : (0 : Int) ≤ (b : Int) := by omega
          have ha1 : (a : Int) < (n0 : Int) := by omega
          have ha2 : (a : Int) < (n1 : Int) := by omega
          have ha3 : (a : Int) < (n2 : Int) := by omega
          have hb1 : (b : Int) < (n0 : Int) := by omega
          have hb2 : (b : Int) < (n1 : Int) := by omega
          have hb3 : (b : Int) < (n2 : Int) := by omega
          have HG : (k, z, s) ≠ (k', z', s') → Hid (∀ y, a < y → y < b + 1 → keyAt ks zs ss a ≠ keyAt ks zs ss y) := by
            intro hne y h1 h2
            by_cases e : y = b
            · rw [e, KA.out, KB.out]; exact hne
            · exact HE.out y h1 (by omega)
          by_cases e1 : k = k'
          · subst e1
            by_cases e2 : z = z'
            · subst e2
              by_cases e3 : s = s'
              · subst e3
                have d1 : (k == k) = true := by simp
                have d2 : (z == z) = true := by simp
                have d3 : (s.toList == s.toList) = true := by simp
                clear HG
                go_wp2
                go_quiet (fail)
                go_wp2
                go_ret
                exact ⟨false, rfl, (fun h => by cases h), below_drewN hb _⟩
              · have e5 : (s.toList == s'.toList) = false := by simp [toList_ne e3]
                have d1 : (k == k) = true := by simp
                have d2 : (z == z) = true := by simp
                have HG' := HG (by intro e; apply e3; cases e; rfl)
                clear e3 HG
                go_wp2
                go_quiet (fail)
                go_wp2
                go_roundw
                case rel => exact ⟨b + 1, by go_num, by omega, by omega, HG', below_drewN hb _⟩
                case measure => simp [intOf]; omega
            · have HG' := HG (by intro e; apply e2; cases e; rfl)
              have d2 : (z == z') = false := beq_eq_false_iff_ne.2 e2
              have d1 : (k == k) = true := by simp
              clear HG e2
              go_wp2
              go_quiet (fail)
              go_wp2
              go_roundw
              case rel => exact ⟨b + 1, by go_num, by omega, by omega, HG', below_drewN hb _⟩
              case measure => simp [intOf]; omega
          · have HG' := HG (by intro e; apply e1; cases e; rfl)
            have d1 : (k == k') = false := beq_eq_false_iff_ne.2 e1
            clear HG e1
            go_wp2
            go_quiet (fail)
            go_wp2
            go_roundw
            case rel => exact ⟨b + 1, by go_num, by omega, by omega, HG', below_drewN hb _⟩
            case measure => simp [intOf]; omega
        · obtain rfl : n = b := by omega
          go_wp2
          go_roundw
          case rel =>
            refine ⟨a + 1, by go_num, by omega, hide (fun x y h1 h2 h3 => ?_), hb⟩
            by_cases e : x = a
            · rw [e]; exact HE.out y (by omega) (by omega)
            · exact HD.out x y (by omega) h2 h3
          case measure => simp [intOf]; omega
    · obtain rfl : n = a := by omega
      go_wp2
      go_ret
      exact ⟨true, rfl, (fun _ x y h1 h2 => HD.out x y (by omega) h1 h2), hb⟩

end Go.Proofs.Qxb6600999a.W
