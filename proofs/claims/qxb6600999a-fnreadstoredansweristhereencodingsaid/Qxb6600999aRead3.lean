import Derived.Test.Qxb6600999aRead2
namespace Go.Proofs.Qxb6600999a.W
open Go.RowKit Go.Proofs.Qxb6600999a.Plain
set_option linter.unusedVariables false

/-- What ZZReadStored leaves. -/
def Gave5 (s : ByteArray) (w : World) (e : Ending) (w' : World) : Prop :=
  ∃ (k : Nat) (i : Int) (str rest : ByteArray) (ok : Bool), e = .returned (.tuple #[.int .u8 k, .int .i64 i, .string str, .string rest, .bool ok]) ∧ RS s k i str rest ok ∧ Below w.heap.size w w'

set_option maxHeartbeats 800000 in
theorem zzread_any (s : ByteArray) (w : World) (hs : s.size ≤ 2097152) : Calls Try.prog 11 #[.string s] w (Gave5 s w) := by
  go_enter Try.func11, Try.ntmps11
  go_wp2_with fail
  refine (read_any s _ hs).mono ?_
  rintro e w1 ⟨k, i, str, rest, ok, rfl, hrs, hb⟩
  have HRS := hide hrs
  clear hrs
  go_wp2
  go_quiet (fail)
  go_wp2
  refine bodyPost_ret (v := .tuple #[.int .u8 k, .int .i64 i, .string str, .string rest, .bool ok]) (by simp [results, Try.results11, go_sem]) rfl ⟨_, _, _, _, _, rfl, HRS.out, ?_⟩
  exact below_drewN (hb.alloc hb.size _) nq
end Go.Proofs.Qxb6600999a.W
