import Derived.Test.Qxb6600999aRead
namespace Go.Proofs.Qxb6600999a.W
open Go.RowKit
set_option linter.unusedVariables false

theorem ret_boolU {a b : Bool} (h : a = b) : Ending.returned (.bool a) = .returned (.bool b) := by rw [h]
theorem toList_ne {a b : ByteArray} (h : ¬ a = b) : ¬ a.toList = b.toList := by
  intro e
  rw [ByteArray.toList_eq, ByteArray.toList_eq] at e
  apply h
  apply ByteArray.ext
  exact Array.toList_inj.1 e

theorem unit_any (T : ByteArray) (B : Int) (x2 : Int) (x3 : Int) (x4 : ByteArray) (a5 : Option Addr) (n5 c5 : Nat) (a6 : Option Addr) (n6 c6 : Nat) (x7 : Bool) (x8 : Int) (w : World) :
    Calls Try.prog 38 #[.agg #[.string T, .int .i64 B, .int .u8 x2, .int .i64 x3, .string x4, .slice a5 n5 c5, .slice a6 n6 c6, .bool x7, .int .i64 x8]] w fun e w' => e = .returned (.agg #[.string T, .int .i64 B]) ∧ Below w.heap.size w w' := by
  go_enter Try.func38, Try.ntmps38
  go_wp2
  exact bodyPost_ret (v := .agg #[.string T, .int .i64 B]) (by simp [results, Try.results38, go_sem]) rfl ⟨rfl, ((Below.refl _ _).alloc (Nat.le_refl _) _).alloc (by simp) _⟩

theorem in1_any (T T' : ByteArray) (B B' C : Int) (p : Nat) (w : World) (hp : p < w.heap.size) (h0 : w.cell? ⟨p, 0, none⟩ = some (.string T')) (h1 : w.cell? ⟨p, 1, none⟩ = some (.int .i64 B')) :
    Calls Try.prog 43 #[.agg #[.string T, .int .i64 B, .int .i64 C], .pointer (some ⟨p, 0, none⟩)] w fun e w' => e = .returned (.bool (decide ((T, B) = (T', B')))) ∧ Below w.heap.size w w' := by
  by_cases hT : T = T'
  · subst hT
    by_cases hB : B = B'
    · subst hB
      have e : decide ((T, B) = (T, B)) = true := by simp
      rw [e]; clear e
      go_enter Try.func43, Try.ntmps43
      go_wp2
      go_ret
      exact ⟨rfl, (Below.refl _ _).alloc (Nat.le_refl _) _⟩
    · have e : decide ((T, B) = (T, B')) = false := by simp [hB]
      rw [e]; clear e
      go_enter Try.func43, Try.ntmps43
      go_wp2
      go_ret
      exact ⟨rfl, (Below.refl _ _).alloc (Nat.le_refl _) _⟩
  · have e : decide ((T, B) = (T', B')) = false := by simp [hT]
    rw [e]; clear e
    have hT' := toList_ne hT
    clear hT
    go_enter Try.func43, Try.ntmps43
    go_wp2
    go_ret
    exact ⟨rfl, (Below.refl _ _).alloc (Nat.le_refl _) _⟩

end Go.Proofs.Qxb6600999a.W
