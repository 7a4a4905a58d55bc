import Derived.Test.Qxb6600999aUnits
import Derived.Test.Qxb6600999aAddPlain
namespace Go.Proofs.Qxb6600999a.W
open Go.RowKit Go.Proofs.Qxb6600999a.Plain
set_option linter.unusedVariables false

/-- Entries in a row of the call's own. -/
def IsEnts (w : World) (a : Option Addr) (S : List En) : Prop :=
  0 < S.length → ∃ g, a = some ⟨g, 0, none⟩ ∧ g < w.heap.size ∧ ∀ j, j < S.length → w.cell? ⟨g, j * 3, none⟩ = some (.string (S[j]?.getD e0).1.1) ∧ w.cell? ⟨g, j * 3 + 1, none⟩ = some (.int .i64 (S[j]?.getD e0).1.2) ∧ w.cell? ⟨g, j * 3 + 2, none⟩ = some (.int .i64 (S[j]?.getD e0).2)

/-- What a place is answered as. -/
def ixI : Option Nat → Int
  | some k => k
  | none => -1

set_option maxHeartbeats 400000 in
theorem idx_any (S : List En) (a : Option Addr) (cap : Nat) (T : ByteArray) (B : Int) (p : Nat) (w : World) (hS : IsEnts w a S) (hn : S.length ≤ 200000) (hp : p < w.heap.size) (hc0 : w.cell? ⟨p, 0, none⟩ = some (.string T)) (hc1 : w.cell? ⟨p, 1, none⟩ = some (.int .i64 B)) :
    Calls Try.prog 42 #[.slice a S.length cap, .func (Fn.func 43) #[] #[.pointer (some ⟨p, 0, none⟩)]] w fun e w' => e = .returned (.int .i64 (ixI (ix S (T, B)))) ∧ Below w.heap.size w w' := by
  obtain ⟨n, hnn⟩ : ∃ n, n = S.length := ⟨_, rfl⟩
  rw [← hnn] at hn ⊢
  have HN := hide hnn
  have HS := hide hS
  have HC0 := hide hc0
  have HC1 := hide hc1
  clear hnn hS hc0 hc1
  go_enter Try.func42, Try.ntmps42
  go_wp2_with fail
  go_loopw [8] (fun i wr => ∃ k : Nat, i = .int .i64 k ∧ k ≤ n ∧ Below w.heap.size w wr ∧ Hid (∀ j, j < k → ¬ (S[j]?.getD e0).1 = (T, B))) (fun i _ => n - (intOf i).toNat)
  case atStart => exact ⟨0, rfl, Nat.zero_le _, Below.refl _ _, hide (fun j hj => by omega)⟩
  case round =>
    obtain ⟨k, rfl, hk, hb, HB⟩ := hrel
    by_cases hkn : k < n
    · obtain ⟨g, rfl, hg, hcs⟩ := HS.out (by rw [← HN.out]; omega)
      obtain ⟨c0, c1, c2⟩ := hcs k (by rw [← HN.out]; exact hkn)
      obtain ⟨t, ht⟩ : ∃ t, t = (S[k]?.getD e0).1.1 := ⟨_, rfl⟩
      obtain ⟨b, hb0⟩ : ∃ b, b = (S[k]?.getD e0).1.2 := ⟨_, rfl⟩
      obtain ⟨c, hc⟩ : ∃ c, c = (S[k]?.getD e0).2 := ⟨_, rfl⟩
      rw [← ht] at c0
      rw [← hb0] at c1
      rw [← hc] at c2
      have d0 := (hb.cell (p := ⟨g, k * 3, none⟩) hg).trans c0
      have d1 := (hb.cell (p := ⟨g, k * 3 + 1, none⟩) hg).trans c1
      have d2 := (hb.cell (p := ⟨g, k * 3 + 2, none⟩) hg).trans c2
      have HU : Hid ((S[k]?.getD e0).1 = (t, b)) := by rw [ht, hb0]; rfl
      have hz := hb.size
      clear c0 c1 c2 hcs ht hb0 hc
      go_wp2_with fail
      refine (in1_any t T b B c p _ (by omega) ((hb.cell (p := ⟨p, 0, none⟩) hp).trans HC0.out) ((hb.cell (p := ⟨p, 1, none⟩) hp).trans HC1.out)).mono ?_
      rintro e w1 ⟨rfl, hb1⟩
      have hb2 : Below w.heap.size w w1 := hb.trans (hb1.mono hz)
      clear hb hb1 d0 d1 d2
      by_cases hu : (t, b) = (T, B)
      · rw [decide_eq_true hu]
        have hix : Hid (ix S (T, B) = some k) := ix_some (by rw [← HN.out]; exact hkn) (by rw [HU.out]; exact hu) HB.out
        clear hu
        go_wp2
        go_ret
        exact ⟨by rw [hix.out]; rfl, hb2⟩
      · rw [decide_eq_false hu]
        have HX := hide hu
        clear hu
        go_wp2
        go_roundw
        case rel =>
          refine ⟨k + 1, by go_num, by omega, hb2, hide (fun j hj => ?_)⟩
          by_cases e : j = k
          · rw [e, HU.out]; exact HX.out
          · exact HB.out j (by omega)
        case measure => simp [intOf]; omega
    · obtain rfl : n = k := by omega
      have hix : Hid (ix S (T, B) = none) := ix_none (fun j hj => HB.out j (by rw [HN.out]; exact hj))
      go_wp2
      go_ret
      exact ⟨by rw [hix.out]; rfl, hb⟩

theorem in_any (S : List En) (a : Option Addr) (cap : Nat) (T : ByteArray) (B : Int) (w : World) (hS : IsEnts w a S) (hn : S.length ≤ 200000) :
    Calls Try.prog 39 #[.slice a S.length cap, .agg #[.string T, .int .i64 B]] w fun e w' => e = .returned (.int .i64 (ixI (ix S (T, B)))) ∧ Below w.heap.size w w' := by
  have hS' : IsEnts (w.alloc (Obj.cells #[.string T, .int .i64 B] 63)) a S := by
    intro h0
    obtain ⟨g, ha, hg, hc⟩ := hS h0
    refine ⟨g, ha, by simp; omega, fun j hj => ?_⟩
    have hb : Below w.heap.size w (w.alloc (Obj.cells #[.string T, .int .i64 B] 63)) := (Below.refl _ _).alloc (Nat.le_refl _) _
    rw [hb.cell (p := ⟨g, j * 3, none⟩) hg, hb.cell (p := ⟨g, j * 3 + 1, none⟩) hg, hb.cell (p := ⟨g, j * 3 + 2, none⟩) hg]
    exact hc j hj
  have HS := hide hS'
  clear hS hS'
  go_enter Try.func39, Try.ntmps39
  go_wp2_with fail
  refine (idx_any S a cap T B w.heap.size _ HS.out hn (by simp) (by simp) (by simp)).mono ?_
  rintro e w1 ⟨rfl, hb1⟩
  go_wp2
  go_ret
  exact ⟨rfl, ((Below.refl _ _).alloc (Nat.le_refl _) _).trans (hb1.mono (by simp))⟩
end Go.Proofs.Qxb6600999a.W
