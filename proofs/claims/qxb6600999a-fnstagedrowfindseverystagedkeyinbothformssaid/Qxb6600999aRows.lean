/-
  No cell of these rows narrows 'for every input' (looked for: loops, veiled, ifaces, maps, wideKeys, modest, calm, conditions, laid).
  DERIVED. THE GIVEN ROWS OF THIS SEAT. 7 by the template 'for every input the law returns true; each argument reads behind the call as it read before'; 0 by the template 'total and deterministic' (their statements: Qxb6600999aTotals.lean).
  GIVEN WITH THE SEED: the statements are not yours to turn. If you find one false, say at which input.
  Laid BY PROGRAM, IN A SANDBOX (cutbox-rows.mjs): the forced cells as the released guide's own fill.sh prints them over the translation c6d706d8eaf01e0f… (all of the seat's roots in one cut). By AI agents, Wed Nov 11 2026. No macro, syntax, notation, axiom, sorry.
-/
import Derived.Test.Qxb6600999aChecked
import GoSem.Claim
import GoSem.ClaimJoined
import GoSem.ClaimMapViews
import Derived.JoinedTies
import Derived.KernelRfl
namespace Go.Proofs.Qxb6600999a
/- THE CELL 'sum', in the pinned program and in every row, IS THE sha256 OF THE DUMP (.gsa) THAT Qxb6600999aProg.lean LOADS. Nothing in Lean hashes anything: it is a label: what it is worth is what the hold of that sum in a sandbox is worth. -/
noncomputable def Try.pinned : Pinned := { name := "qxb6600999a", sum := "c6d706d8eaf01e0fac046d10d94ff5f5e92587d13d1c75ab0be69276bb977aec", checked := Try.checked }
namespace Rows
def none {H : Type} : Left H := { results := [], args := [] }

/-- 'zzlaws_internal_engine_b1.FnReadStoredAnswerIsTheReencoding': WHATEVER THE INPUT: true; the input reads as it did. -/
def fnReadStoredAnswerIsTheReencodingSpec : ChangeSpec := { name := "fnReadStoredAnswerIsTheReencoding", fn := fun _ => fun
  | [d] => { results := [.lit (.bool true)], args := [d] }
  | _ => none }
def fnReadStoredAnswerIsTheReencodingRow : OpenClaim := { program := "qxb6600999a", sum := "c6d706d8eaf01e0fac046d10d94ff5f5e92587d13d1c75ab0be69276bb977aec", func := "example.com/kilnrow/kilnrow/zzlaws_internal_engine_b1.FnReadStoredAnswerIsTheReencoding", spec := "fnReadStoredAnswerIsTheReencoding", plainKeys := false, apart := false }
def FnReadStoredAnswerIsTheReencodingSaid : Prop := fnReadStoredAnswerIsTheReencodingRow.holds Try.pinned (OpenSpec.ofChange fnReadStoredAnswerIsTheReencodingSpec)

/-- ITS FALSE NEIGHBOUR: 'it returns false'. Refute it at one input. -/
def fnReadStoredAnswerIsTheReencodingWrong : ChangeSpec := { name := "fnReadStoredAnswerIsTheReencoding", fn := fun _ => fun
  | [d] => { results := [.lit (.bool false)], args := [d] }
  | _ => none }
def FnReadStoredAnswerIsTheReencodingWrongFalsely : Prop := fnReadStoredAnswerIsTheReencodingRow.holds Try.pinned (OpenSpec.ofChange fnReadStoredAnswerIsTheReencodingWrong)

/-- 'zzlaws_internal_engine_b1.FnReadStoredReadsBackWhatIsWritten': WHATEVER THE INPUT: true; the input reads as it did. -/
def fnReadStoredReadsBackWhatIsWrittenSpec : ChangeSpec := { name := "fnReadStoredReadsBackWhatIsWritten", fn := fun _ => fun
  | [d1, d2, d3, d4, d5] => { results := [.lit (.bool true)], args := [d1, d2, d3, d4, d5] }
  | _ => none }
def fnReadStoredReadsBackWhatIsWrittenRow : OpenClaim := { program := "qxb6600999a", sum := "c6d706d8eaf01e0fac046d10d94ff5f5e92587d13d1c75ab0be69276bb977aec", func := "example.com/kilnrow/kilnrow/zzlaws_internal_engine_b1.FnReadStoredReadsBackWhatIsWritten", spec := "fnReadStoredReadsBackWhatIsWritten", plainKeys := false, apart := false }
def FnReadStoredReadsBackWhatIsWrittenSaid : Prop := fnReadStoredReadsBackWhatIsWrittenRow.holds Try.pinned (OpenSpec.ofChange fnReadStoredReadsBackWhatIsWrittenSpec)

/-- ITS FALSE NEIGHBOUR: 'it returns false'. Refute it at one input. -/
def fnReadStoredReadsBackWhatIsWrittenWrong : ChangeSpec := { name := "fnReadStoredReadsBackWhatIsWritten", fn := fun _ => fun
  | [d1, d2, d3, d4, d5] => { results := [.lit (.bool false)], args := [d1, d2, d3, d4, d5] }
  | _ => none }
def FnReadStoredReadsBackWhatIsWrittenWrongFalsely : Prop := fnReadStoredReadsBackWhatIsWrittenRow.holds Try.pinned (OpenSpec.ofChange fnReadStoredReadsBackWhatIsWrittenWrong)

/-- 'zzlaws_internal_engine_b1.FnReadStoredIsUnmovedByWhatFollows': WHATEVER THE INPUT: true; the input reads as it did. -/
def fnReadStoredIsUnmovedByWhatFollowsSpec : ChangeSpec := { name := "fnReadStoredIsUnmovedByWhatFollows", fn := fun _ => fun
  | [d1, d2] => { results := [.lit (.bool true)], args := [d1, d2] }
  | _ => none }
def fnReadStoredIsUnmovedByWhatFollowsRow : OpenClaim := { program := "qxb6600999a", sum := "c6d706d8eaf01e0fac046d10d94ff5f5e92587d13d1c75ab0be69276bb977aec", func := "example.com/kilnrow/kilnrow/zzlaws_internal_engine_b1.FnReadStoredIsUnmovedByWhatFollows", spec := "fnReadStoredIsUnmovedByWhatFollows", plainKeys := false, apart := false }
def FnReadStoredIsUnmovedByWhatFollowsSaid : Prop := fnReadStoredIsUnmovedByWhatFollowsRow.holds Try.pinned (OpenSpec.ofChange fnReadStoredIsUnmovedByWhatFollowsSpec)

/-- ITS FALSE NEIGHBOUR: 'it returns false'. Refute it at one input. -/
def fnReadStoredIsUnmovedByWhatFollowsWrong : ChangeSpec := { name := "fnReadStoredIsUnmovedByWhatFollows", fn := fun _ => fun
  | [d1, d2] => { results := [.lit (.bool false)], args := [d1, d2] }
  | _ => none }
def FnReadStoredIsUnmovedByWhatFollowsWrongFalsely : Prop := fnReadStoredIsUnmovedByWhatFollowsRow.holds Try.pinned (OpenSpec.ofChange fnReadStoredIsUnmovedByWhatFollowsWrong)

/-- 'zzlaws_internal_engine_b1.FnStagedRowGivesTheRowStagedAtTheKey': WHATEVER THE INPUT: true; the input reads as it did. -/
def fnStagedRowGivesTheRowStagedAtTheKeySpec : ChangeSpec := { name := "fnStagedRowGivesTheRowStagedAtTheKey", fn := fun _ => fun
  | [d1, d2, d3, d4, d5, d6, d7, d8] => { results := [.lit (.bool true)], args := [d1, d2, d3, d4, d5, d6, d7, d8] }
  | _ => none }
def fnStagedRowGivesTheRowStagedAtTheKeyRow : OpenClaim := { program := "qxb6600999a", sum := "c6d706d8eaf01e0fac046d10d94ff5f5e92587d13d1c75ab0be69276bb977aec", func := "example.com/kilnrow/kilnrow/zzlaws_internal_engine_b1.FnStagedRowGivesTheRowStagedAtTheKey", spec := "fnStagedRowGivesTheRowStagedAtTheKey", plainKeys := false, apart := false }
def FnStagedRowGivesTheRowStagedAtTheKeySaid : Prop := fnStagedRowGivesTheRowStagedAtTheKeyRow.holds Try.pinned (OpenSpec.ofChange fnStagedRowGivesTheRowStagedAtTheKeySpec)

/-- ITS FALSE NEIGHBOUR: 'it returns false'. Refute it at one input. -/
def fnStagedRowGivesTheRowStagedAtTheKeyWrong : ChangeSpec := { name := "fnStagedRowGivesTheRowStagedAtTheKey", fn := fun _ => fun
  | [d1, d2, d3, d4, d5, d6, d7, d8] => { results := [.lit (.bool false)], args := [d1, d2, d3, d4, d5, d6, d7, d8] }
  | _ => none }
def FnStagedRowGivesTheRowStagedAtTheKeyWrongFalsely : Prop := fnStagedRowGivesTheRowStagedAtTheKeyRow.holds Try.pinned (OpenSpec.ofChange fnStagedRowGivesTheRowStagedAtTheKeyWrong)

/-- 'zzlaws_internal_engine_b1.FnStagedRowFindsEveryStagedKeyInBothForms': WHATEVER THE INPUT: true; the input reads as it did. -/
def fnStagedRowFindsEveryStagedKeyInBothFormsSpec : ChangeSpec := { name := "fnStagedRowFindsEveryStagedKeyInBothForms", fn := fun _ => fun
  | [d1, d2, d3] => { results := [.lit (.bool true)], args := [d1, d2, d3] }
  | _ => none }
def fnStagedRowFindsEveryStagedKeyInBothFormsRow : OpenClaim := { program := "qxb6600999a", sum := "c6d706d8eaf01e0fac046d10d94ff5f5e92587d13d1c75ab0be69276bb977aec", func := "example.com/kilnrow/kilnrow/zzlaws_internal_engine_b1.FnStagedRowFindsEveryStagedKeyInBothForms", spec := "fnStagedRowFindsEveryStagedKeyInBothForms", plainKeys := false, apart := false }
def FnStagedRowFindsEveryStagedKeyInBothFormsSaid : Prop := fnStagedRowFindsEveryStagedKeyInBothFormsRow.holds Try.pinned (OpenSpec.ofChange fnStagedRowFindsEveryStagedKeyInBothFormsSpec)

/-- ITS FALSE NEIGHBOUR: 'it returns false'. Refute it at one input. -/
def fnStagedRowFindsEveryStagedKeyInBothFormsWrong : ChangeSpec := { name := "fnStagedRowFindsEveryStagedKeyInBothForms", fn := fun _ => fun
  | [d1, d2, d3] => { results := [.lit (.bool false)], args := [d1, d2, d3] }
  | _ => none }
def FnStagedRowFindsEveryStagedKeyInBothFormsWrongFalsely : Prop := fnStagedRowFindsEveryStagedKeyInBothFormsRow.holds Try.pinned (OpenSpec.ofChange fnStagedRowFindsEveryStagedKeyInBothFormsWrong)

/-- 'zzlaws_internal_engine_b1.FnAddMatchesSetModel': WHATEVER THE INPUT: true; the input reads as it did. -/
def fnAddMatchesSetModelSpec : ChangeSpec := { name := "fnAddMatchesSetModel", fn := fun _ => fun
  | [d1, d2, d3, d4, d5] => { results := [.lit (.bool true)], args := [d1, d2, d3, d4, d5] }
  | _ => none }
def fnAddMatchesSetModelRow : OpenClaim := { program := "qxb6600999a", sum := "c6d706d8eaf01e0fac046d10d94ff5f5e92587d13d1c75ab0be69276bb977aec", func := "example.com/kilnrow/kilnrow/zzlaws_internal_engine_b1.FnAddMatchesSetModel", spec := "fnAddMatchesSetModel", unfollowed := true, recurses := true, plainKeys := false, apart := false }
def FnAddMatchesSetModelSaid : Prop := fnAddMatchesSetModelRow.holds Try.pinned (OpenSpec.ofChange fnAddMatchesSetModelSpec)

/-- ITS FALSE NEIGHBOUR: 'it returns false'. Refute it at one input. -/
def fnAddMatchesSetModelWrong : ChangeSpec := { name := "fnAddMatchesSetModel", fn := fun _ => fun
  | [d1, d2, d3, d4, d5] => { results := [.lit (.bool false)], args := [d1, d2, d3, d4, d5] }
  | _ => none }
def FnAddMatchesSetModelWrongFalsely : Prop := fnAddMatchesSetModelRow.holds Try.pinned (OpenSpec.ofChange fnAddMatchesSetModelWrong)

/-- 'zzlaws_internal_engine_b1.FnAddScriptCountsTheCallsThatWroteEachUnit': WHATEVER THE INPUT: true; the input reads as it did. -/
def fnAddScriptCountsTheCallsThatWroteEachUnitSpec : ChangeSpec := { name := "fnAddScriptCountsTheCallsThatWroteEachUnit", fn := fun _ => fun
  | [d1, d2, d3] => { results := [.lit (.bool true)], args := [d1, d2, d3] }
  | _ => none }
def fnAddScriptCountsTheCallsThatWroteEachUnitRow : OpenClaim := { program := "qxb6600999a", sum := "c6d706d8eaf01e0fac046d10d94ff5f5e92587d13d1c75ab0be69276bb977aec", func := "example.com/kilnrow/kilnrow/zzlaws_internal_engine_b1.FnAddScriptCountsTheCallsThatWroteEachUnit", spec := "fnAddScriptCountsTheCallsThatWroteEachUnit", unfollowed := true, recurses := true, plainKeys := false, apart := false }
def FnAddScriptCountsTheCallsThatWroteEachUnitSaid : Prop := fnAddScriptCountsTheCallsThatWroteEachUnitRow.holds Try.pinned (OpenSpec.ofChange fnAddScriptCountsTheCallsThatWroteEachUnitSpec)

/-- ITS FALSE NEIGHBOUR: 'it returns false'. Refute it at one input. -/
def fnAddScriptCountsTheCallsThatWroteEachUnitWrong : ChangeSpec := { name := "fnAddScriptCountsTheCallsThatWroteEachUnit", fn := fun _ => fun
  | [d1, d2, d3] => { results := [.lit (.bool false)], args := [d1, d2, d3] }
  | _ => none }
def FnAddScriptCountsTheCallsThatWroteEachUnitWrongFalsely : Prop := fnAddScriptCountsTheCallsThatWroteEachUnitRow.holds Try.pinned (OpenSpec.ofChange fnAddScriptCountsTheCallsThatWroteEachUnitWrong)

end Rows
end Go.Proofs.Qxb6600999a
