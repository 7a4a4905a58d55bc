/-
  No cell of these rows narrows 'for every input' (looked for: loops, veiled, ifaces, maps, wideKeys, modest, calm, conditions, laid).
  DERIVED. THE GIVEN ROWS OF THIS SEAT. 1 by the template 'for every input the law returns true; each argument reads behind the call as it read before'; 0 by the template 'total and deterministic' (their statements: Qxb6603358aTotals.lean).
  GIVEN WITH THE SEED: the statements are not yours to turn. If you find one false, say at which input.
  Laid BY PROGRAM, IN A SANDBOX (cutbox-rows.mjs): the forced cells as the released guide's own fill.sh prints them over the translation 56f6cdc20ce9ddde… (all of the seat's roots in one cut). By AI agents, Wed Nov 11 2026. No macro, syntax, notation, axiom, sorry.
-/
import Derived.Test.Qxb6603358aChecked
import GoSem.Claim
import GoSem.ClaimJoined
import GoSem.ClaimMapViews
import Derived.JoinedTies
import Derived.KernelRfl
namespace Go.Proofs.Qxb6603358a
/- THE CELL 'sum', in the pinned program and in every row, IS THE sha256 OF THE DUMP (.gsa) THAT Qxb6603358aProg.lean LOADS. Nothing in Lean hashes anything: it is a label: what it is worth is what the hold of that sum in a sandbox is worth. -/
noncomputable def Try.pinned : Pinned := { name := "qxb6603358a", sum := "56f6cdc20ce9ddde6497ecaf06e9f6a73f9f9284921b171ae16ae624896b732e", checked := Try.checked }
namespace Rows
def none {H : Type} : Left H := { results := [], args := [] }

/-- 'zzlaws_internal_capture_b1.FnGrowToScriptCapacityIsRunningMax': WHATEVER THE INPUT: true; the input reads as it did. -/
def fnGrowToScriptCapacityIsRunningMaxSpec : ChangeSpec := { name := "fnGrowToScriptCapacityIsRunningMax", fn := fun _ => fun
  | [d] => { results := [.lit (.bool true)], args := [d] }
  | _ => none }
def fnGrowToScriptCapacityIsRunningMaxRow : OpenClaim := { program := "qxb6603358a", sum := "56f6cdc20ce9ddde6497ecaf06e9f6a73f9f9284921b171ae16ae624896b732e", func := "example.com/tidegate/tidegate/zzlaws_internal_capture_b1.FnGrowToScriptCapacityIsRunningMax", spec := "fnGrowToScriptCapacityIsRunningMax", apart := false }
def FnGrowToScriptCapacityIsRunningMaxSaid : Prop := fnGrowToScriptCapacityIsRunningMaxRow.holds Try.pinned (OpenSpec.ofChange fnGrowToScriptCapacityIsRunningMaxSpec)

/-- ITS FALSE NEIGHBOUR: 'it returns false'. Refute it at one input. -/
def fnGrowToScriptCapacityIsRunningMaxWrong : ChangeSpec := { name := "fnGrowToScriptCapacityIsRunningMax", fn := fun _ => fun
  | [d] => { results := [.lit (.bool false)], args := [d] }
  | _ => none }
def FnGrowToScriptCapacityIsRunningMaxWrongFalsely : Prop := fnGrowToScriptCapacityIsRunningMaxRow.holds Try.pinned (OpenSpec.ofChange fnGrowToScriptCapacityIsRunningMaxWrong)

end Rows
end Go.Proofs.Qxb6603358a
