import Derived.Test.Qxb6600999aStg1
import Derived.Deep.RegionHeld3
namespace Go.Proofs.Qxb6600999a.W
open Go.RowKit Go.Proofs.Qxb6600999a.Plain
set_option linter.unusedVariables false
attribute [local go_sem ↓] Go.wp_at_zero Go.wp_at_succ

/-- A key: its kind, its number, its text. -/
abbrev Key := Int × Int × ByteArray
def keyAt (ks zs : List Int) (ss : List ByteArray) (j : Nat) : Key := (ks[j]?.getD 0, zs[j]?.getD 0, ss[j]?.getD ByteArray.empty)
def keyV (k : Key) : Value := .agg #[.int .u8 k.1, .int .i64 k.2.1, .string k.2.2]

theorem value_any (k z : Int) (s : ByteArray) (w : World) :
    Calls Try.prog 25 #[.int .u8 k, .int .i64 z, .string s] w fun e w' => e = .returned (.agg #[.int .u8 k, .int .i64 z, .string s]) ∧ Below w.heap.size w w' := by
  go_enter Try.func25, Try.ntmps25
  go_wp2
  exact bodyPost_ret (v := .agg #[.int .u8 k, .int .i64 z, .string s]) (by simp [results, Try.results25, go_sem]) rfl ⟨rfl, ((Below.refl _ _).alloc (Nat.le_refl _) _)⟩
end Go.Proofs.Qxb6600999a.W
