import Derived.Test.Qxb6600999aStg3
import Derived.DeepKeys4
import Derived.Maps.OwnSet
import Derived.Maps.Views
namespace Go.Proofs.Qxb6600999a.W
open Go.RowKit Go.Proofs.Qxb6600999a.Plain
set_option linter.unusedVariables false
attribute [local go_sem ↓] Go.wp_at_zero Go.wp_at_succ

theorem laidOut45 : laidOutB Try.prog = true := by kernel_rfl
theorem row45 : (45 : TypeId) < Try.prog.types.size := of_decide_eq_true (by kernel_rfl)
theorem wide45 : (match Try.prog.underlying 45 with | some (.array _ _) | some (.struct _) => true | _ => false) = true := by kernel_rfl
theorem law45 : Go.Maps.Keyed Try.prog 45 := Go.Maps.Keyed.of_law (deep_law_laid laidOut45 (m := 3) (by omega) row45 (by kernel_rfl) wide45)
theorem info47 : (Try.prog.info? 47).map (fun i => (i.zero, i.size, i.bytes)) = some (some (.pointer none), 1, 8) := by kernel_rfl
theorem zero3 (w : World) : (zeroValue 3).run Try.prog w = .ok (.int .i64 0) w := by
  obtain ⟨i3, hi, h0, _, _⟩ := info_parts info3
  simp [zeroValue, typeInfo, hi, h0]

theorem kt45 : Try.prog.keyType 45 = true := by kernel_rfl
theorem cells45 : Try.prog.cellsOf 45 = 3 := by kernel_rfl
theorem cells43 : Try.prog.cellsOf 43 = 1 := by kernel_rfl
theorem cells2 : Try.prog.cellsOf 2 = 1 := by kernel_rfl
theorem cells9 : Try.prog.cellsOf 9 = 1 := by kernel_rfl

/-- A struct of a byte, an int64 and a string as a key, in any program. -/
theorem keyOf3 {P : Program} {t ta tb tc : TypeId} {fa fb fc : Field} (hu : P.underlying t = some (.struct #[fa, fb, fc])) (na : (fa.name != "_") = true) (nb : (fb.name != "_") = true) (nc : (fc.name != "_") = true)
    (ha : fa.type = ta) (hb : fb.type = tb) (hc : fc.type = tc) (oa : fa.offset = 0) (ob : fb.offset = 1) (oc : fc.offset = 2)
    (ua : P.underlying ta = some (.int .u8)) (ub : P.underlying tb = some (.int .i64)) (uc : P.underlying tc = some .string)
    (ct : P.cellsOf t = 3) (ca : P.cellsOf ta = 1) (cb : P.cellsOf tb = 1) (cc : P.cellsOf tc = 1) (hk : P.keyType t = true) {N : Nat} (hN : P.types.size = N + 1)
    (k z : Int) (s : ByteArray) (wk : (Lit.int .u8 k).wf = true) (wz : (Lit.int .i64 z).wf = true) (ws : s.size ≤ maxLen) :
    keyOf P t (.agg #[.int .u8 k, .int .i64 z, .string s]) = some (.string (keyBytes [.int .u8 k, .int .i64 z, .string s.data.toList])) := by
  subst ha hb hc
  have e1 : P.keyLits (N + 1) fa.type [.int .u8 k] = some [.int .u8 k] := by
    unfold Program.keyLits
    rw [ua]
    simp [wk]
  have e2 : P.keyLits (N + 1) fb.type [.int .i64 z] = some [.int .i64 z] := by
    unfold Program.keyLits
    rw [ub]
    simp [wz]
  have e3 : P.keyLits (N + 1) fc.type [.string s] = some [.string s.data.toList] := by
    unfold Program.keyLits
    rw [uc]
    simp [ws]
  have e4 : P.keyLits (N + 1 + 1) t [.int .u8 k, .int .i64 z, .string s] = some [.int .u8 k, .int .i64 z, .string s.data.toList] := by
    unfold Program.keyLits
    rw [hu]
    simp only [ct, List.length_cons, List.length_nil]
    simp [na, nb, nc, oa, ob, oc, ca, cb, cc, e1, e2, e3]
  unfold keyOf
  rw [hu]
  simp [hk, Value.formed, hu, ct, Value.cells, hN, e4]

theorem key_mk (k z : Int) (s : ByteArray) (wk : (Lit.int .u8 k).wf = true) (wz : (Lit.int .i64 z).wf = true) (ws : s.size ≤ maxLen) :
    ∃ kl, keyOf Try.prog 45 (.agg #[.int .u8 k, .int .i64 z, .string s]) = some kl := by
  obtain ⟨N, hN⟩ : ∃ N, Try.prog.types.size = N + 1 := ⟨Try.prog.types.size - 1, (Nat.sub_add_cancel (Nat.lt_of_le_of_lt (Nat.zero_le 45) row45)).symm⟩
  exact ⟨_, keyOf3 Try.underlying45 rfl rfl rfl rfl rfl rfl rfl rfl rfl Try.underlying43 Try.underlying2 Try.underlying9 cells45 cells43 cells2 cells9 kt45 hN k z s wk wz ws⟩
end Go.Proofs.Qxb6600999a.W
