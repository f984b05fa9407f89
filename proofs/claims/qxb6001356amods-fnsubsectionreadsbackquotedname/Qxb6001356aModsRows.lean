/-
  No cell of these rows narrows 'for every input' (looked for: loops, veiled, ifaces, maps, wideKeys, modest, calm, conditions, laid).
  DERIVED. THE GIVEN ROWS OF THIS SEAT. 8 by the template 'for every input the law returns true; each argument reads behind the call as it read before'; 0 by the template 'total and deterministic' (their statements: Qxb6001356aModsTotals.lean).
  GIVEN WITH THE SEED: the statements are not yours to turn. If you find one false, say at which input.
  Laid BY PROGRAM, IN A SANDBOX (cutbox-rows.mjs): the forced cells as the released guide's own fill.sh prints them over the translation 14dc2005f2a081b7… (all of the seat's roots in one cut). By AI agents, Wed Nov 11 2026. No macro, syntax, notation, axiom, sorry.
-/
import Derived.Test.Qxb6001356aModsChecked
import GoSem.Claim
import GoSem.ClaimJoined
import GoSem.ClaimMapViews
import Derived.JoinedTies
import Derived.KernelRfl
namespace Go.Proofs.Qxb6001356aMods
/- THE CELL 'sum', in the pinned program and in every row, IS THE sha256 OF THE DUMP (.gsa) THAT Qxb6001356aModsProg.lean LOADS. Nothing in Lean hashes anything: it is a label: what it is worth is what the hold of that sum in a sandbox is worth. -/
noncomputable def Trym.pinned : Pinned := { name := "qxb6001356amods", sum := "14dc2005f2a081b7301ad85073e133fdf1dd856a308b9b59e3b9f3d9e1e5974b", checked := Trym.checked }
namespace Rows
def none {H : Type} : Left H := { results := [], args := [] }

/-- 'zzlaws_internal_ignore_b1.FnSubsectionReadsBackQuotedName': WHATEVER THE INPUT: true; the input reads as it did. -/
def fnSubsectionReadsBackQuotedNameSpec : ChangeSpec := { name := "fnSubsectionReadsBackQuotedName", fn := fun _ => fun
  | [d1, d2, d3, d4, d5, d6] => { results := [.lit (.bool true)], args := [d1, d2, d3, d4, d5, d6] }
  | _ => none }
def fnSubsectionReadsBackQuotedNameRow : OpenClaim := { program := "qxb6001356amods", sum := "14dc2005f2a081b7301ad85073e133fdf1dd856a308b9b59e3b9f3d9e1e5974b", func := "example.com/globtrot/globtrot/zzlaws_internal_ignore_b1.FnSubsectionReadsBackQuotedName", spec := "fnSubsectionReadsBackQuotedName", make := .lifted ["publicsums"], apart := false }
def FnSubsectionReadsBackQuotedNameSaid : Prop := fnSubsectionReadsBackQuotedNameRow.holds Trym.pinned (OpenSpec.ofChange fnSubsectionReadsBackQuotedNameSpec)

/-- ITS FALSE NEIGHBOUR: 'it returns false'. Refute it at one input. -/
def fnSubsectionReadsBackQuotedNameWrong : ChangeSpec := { name := "fnSubsectionReadsBackQuotedName", fn := fun _ => fun
  | [d1, d2, d3, d4, d5, d6] => { results := [.lit (.bool false)], args := [d1, d2, d3, d4, d5, d6] }
  | _ => none }
def FnSubsectionReadsBackQuotedNameWrongFalsely : Prop := fnSubsectionReadsBackQuotedNameRow.holds Trym.pinned (OpenSpec.ofChange fnSubsectionReadsBackQuotedNameWrong)

/-- 'zzlaws_internal_ignore_b1.FnSubsectionIgnoresWhatFollows': WHATEVER THE INPUT: true; the input reads as it did. -/
def fnSubsectionIgnoresWhatFollowsSpec : ChangeSpec := { name := "fnSubsectionIgnoresWhatFollows", fn := fun _ => fun
  | [d1, d2, d3, d4] => { results := [.lit (.bool true)], args := [d1, d2, d3, d4] }
  | _ => none }
def fnSubsectionIgnoresWhatFollowsRow : OpenClaim := { program := "qxb6001356amods", sum := "14dc2005f2a081b7301ad85073e133fdf1dd856a308b9b59e3b9f3d9e1e5974b", func := "example.com/globtrot/globtrot/zzlaws_internal_ignore_b1.FnSubsectionIgnoresWhatFollows", spec := "fnSubsectionIgnoresWhatFollows", make := .lifted ["publicsums"], apart := false }
def FnSubsectionIgnoresWhatFollowsSaid : Prop := fnSubsectionIgnoresWhatFollowsRow.holds Trym.pinned (OpenSpec.ofChange fnSubsectionIgnoresWhatFollowsSpec)

/-- ITS FALSE NEIGHBOUR: 'it returns false'. Refute it at one input. -/
def fnSubsectionIgnoresWhatFollowsWrong : ChangeSpec := { name := "fnSubsectionIgnoresWhatFollows", fn := fun _ => fun
  | [d1, d2, d3, d4] => { results := [.lit (.bool false)], args := [d1, d2, d3, d4] }
  | _ => none }
def FnSubsectionIgnoresWhatFollowsWrongFalsely : Prop := fnSubsectionIgnoresWhatFollowsRow.holds Trym.pinned (OpenSpec.ofChange fnSubsectionIgnoresWhatFollowsWrong)

/-- 'zzlaws_internal_ignore_b1.FnSubsectionBounds': WHATEVER THE INPUT: true; the input reads as it did. -/
def fnSubsectionBoundsSpec : ChangeSpec := { name := "fnSubsectionBounds", fn := fun _ => fun
  | [d1, d2, d3] => { results := [.lit (.bool true)], args := [d1, d2, d3] }
  | _ => none }
def fnSubsectionBoundsRow : OpenClaim := { program := "qxb6001356amods", sum := "14dc2005f2a081b7301ad85073e133fdf1dd856a308b9b59e3b9f3d9e1e5974b", func := "example.com/globtrot/globtrot/zzlaws_internal_ignore_b1.FnSubsectionBounds", spec := "fnSubsectionBounds", make := .lifted ["publicsums"], apart := false }
def FnSubsectionBoundsSaid : Prop := fnSubsectionBoundsRow.holds Trym.pinned (OpenSpec.ofChange fnSubsectionBoundsSpec)

/-- ITS FALSE NEIGHBOUR: 'it returns false'. Refute it at one input. -/
def fnSubsectionBoundsWrong : ChangeSpec := { name := "fnSubsectionBounds", fn := fun _ => fun
  | [d1, d2, d3] => { results := [.lit (.bool false)], args := [d1, d2, d3] }
  | _ => none }
def FnSubsectionBoundsWrongFalsely : Prop := fnSubsectionBoundsRow.holds Trym.pinned (OpenSpec.ofChange fnSubsectionBoundsWrong)

/-- 'zzlaws_internal_ignore_b1.FnConfigValueReadsBackQuotedValue': WHATEVER THE INPUT: true; the input reads as it did. -/
def fnConfigValueReadsBackQuotedValueSpec : ChangeSpec := { name := "fnConfigValueReadsBackQuotedValue", fn := fun _ => fun
  | [d1, d2, d3, d4, d5, d6, d7, d8] => { results := [.lit (.bool true)], args := [d1, d2, d3, d4, d5, d6, d7, d8] }
  | _ => none }
def fnConfigValueReadsBackQuotedValueRow : OpenClaim := { program := "qxb6001356amods", sum := "14dc2005f2a081b7301ad85073e133fdf1dd856a308b9b59e3b9f3d9e1e5974b", func := "example.com/globtrot/globtrot/zzlaws_internal_ignore_b1.FnConfigValueReadsBackQuotedValue", spec := "fnConfigValueReadsBackQuotedValue", inPlace := ["internal/bytealg.IndexByteString"], make := .lifted ["publicsums"], apart := false }
def FnConfigValueReadsBackQuotedValueSaid : Prop := fnConfigValueReadsBackQuotedValueRow.holds Trym.pinned (OpenSpec.ofChange fnConfigValueReadsBackQuotedValueSpec)

/-- ITS FALSE NEIGHBOUR: 'it returns false'. Refute it at one input. -/
def fnConfigValueReadsBackQuotedValueWrong : ChangeSpec := { name := "fnConfigValueReadsBackQuotedValue", fn := fun _ => fun
  | [d1, d2, d3, d4, d5, d6, d7, d8] => { results := [.lit (.bool false)], args := [d1, d2, d3, d4, d5, d6, d7, d8] }
  | _ => none }
def FnConfigValueReadsBackQuotedValueWrongFalsely : Prop := fnConfigValueReadsBackQuotedValueRow.holds Trym.pinned (OpenSpec.ofChange fnConfigValueReadsBackQuotedValueWrong)

/-- 'zzlaws_internal_ignore_b1.FnConfigValuePlainLineModel': WHATEVER THE INPUT: true; the input reads as it did. -/
def fnConfigValuePlainLineModelSpec : ChangeSpec := { name := "fnConfigValuePlainLineModel", fn := fun _ => fun
  | [d1, d2] => { results := [.lit (.bool true)], args := [d1, d2] }
  | _ => none }
def fnConfigValuePlainLineModelRow : OpenClaim := { program := "qxb6001356amods", sum := "14dc2005f2a081b7301ad85073e133fdf1dd856a308b9b59e3b9f3d9e1e5974b", func := "example.com/globtrot/globtrot/zzlaws_internal_ignore_b1.FnConfigValuePlainLineModel", spec := "fnConfigValuePlainLineModel", inPlace := ["internal/bytealg.IndexByteString"], make := .lifted ["publicsums"], apart := false }
def FnConfigValuePlainLineModelSaid : Prop := fnConfigValuePlainLineModelRow.holds Trym.pinned (OpenSpec.ofChange fnConfigValuePlainLineModelSpec)

/-- ITS FALSE NEIGHBOUR: 'it returns false'. Refute it at one input. -/
def fnConfigValuePlainLineModelWrong : ChangeSpec := { name := "fnConfigValuePlainLineModel", fn := fun _ => fun
  | [d1, d2] => { results := [.lit (.bool false)], args := [d1, d2] }
  | _ => none }
def FnConfigValuePlainLineModelWrongFalsely : Prop := fnConfigValuePlainLineModelRow.holds Trym.pinned (OpenSpec.ofChange fnConfigValuePlainLineModelWrong)

/-- 'zzlaws_internal_ignore_b1.FnConfigValueRefusesOpenQuoteAndUnknownEscape': WHATEVER THE INPUT: true; the input reads as it did. -/
def fnConfigValueRefusesOpenQuoteAndUnknownEscapeSpec : ChangeSpec := { name := "fnConfigValueRefusesOpenQuoteAndUnknownEscape", fn := fun _ => fun
  | [d1, d2, d3, d4, d5, d6] => { results := [.lit (.bool true)], args := [d1, d2, d3, d4, d5, d6] }
  | _ => none }
def fnConfigValueRefusesOpenQuoteAndUnknownEscapeRow : OpenClaim := { program := "qxb6001356amods", sum := "14dc2005f2a081b7301ad85073e133fdf1dd856a308b9b59e3b9f3d9e1e5974b", func := "example.com/globtrot/globtrot/zzlaws_internal_ignore_b1.FnConfigValueRefusesOpenQuoteAndUnknownEscape", spec := "fnConfigValueRefusesOpenQuoteAndUnknownEscape", inPlace := ["internal/bytealg.IndexByteString"], make := .lifted ["publicsums"], apart := false }
def FnConfigValueRefusesOpenQuoteAndUnknownEscapeSaid : Prop := fnConfigValueRefusesOpenQuoteAndUnknownEscapeRow.holds Trym.pinned (OpenSpec.ofChange fnConfigValueRefusesOpenQuoteAndUnknownEscapeSpec)

/-- ITS FALSE NEIGHBOUR: 'it returns false'. Refute it at one input. -/
def fnConfigValueRefusesOpenQuoteAndUnknownEscapeWrong : ChangeSpec := { name := "fnConfigValueRefusesOpenQuoteAndUnknownEscape", fn := fun _ => fun
  | [d1, d2, d3, d4, d5, d6] => { results := [.lit (.bool false)], args := [d1, d2, d3, d4, d5, d6] }
  | _ => none }
def FnConfigValueRefusesOpenQuoteAndUnknownEscapeWrongFalsely : Prop := fnConfigValueRefusesOpenQuoteAndUnknownEscapeRow.holds Trym.pinned (OpenSpec.ofChange fnConfigValueRefusesOpenQuoteAndUnknownEscapeWrong)

/-- 'zzlaws_internal_ignore_b1.FnMatchRunOnlyMatchesWhatGlobMatches': WHATEVER THE INPUT: true; the input reads as it did. -/
def fnMatchRunOnlyMatchesWhatGlobMatchesSpec : ChangeSpec := { name := "fnMatchRunOnlyMatchesWhatGlobMatches", fn := fun _ => fun
  | [d1, d2, d3, d4] => { results := [.lit (.bool true)], args := [d1, d2, d3, d4] }
  | _ => none }
def fnMatchRunOnlyMatchesWhatGlobMatchesRow : OpenClaim := { program := "qxb6001356amods", sum := "14dc2005f2a081b7301ad85073e133fdf1dd856a308b9b59e3b9f3d9e1e5974b", func := "example.com/globtrot/globtrot/zzlaws_internal_ignore_b1.FnMatchRunOnlyMatchesWhatGlobMatches", spec := "fnMatchRunOnlyMatchesWhatGlobMatches", inPlace := ["internal/bytealg.IndexByteString"], recurses := true, make := .lifted ["publicsums"], apart := false }
def FnMatchRunOnlyMatchesWhatGlobMatchesSaid : Prop := fnMatchRunOnlyMatchesWhatGlobMatchesRow.holds Trym.pinned (OpenSpec.ofChange fnMatchRunOnlyMatchesWhatGlobMatchesSpec)

/-- ITS FALSE NEIGHBOUR: 'it returns false'. Refute it at one input. -/
def fnMatchRunOnlyMatchesWhatGlobMatchesWrong : ChangeSpec := { name := "fnMatchRunOnlyMatchesWhatGlobMatches", fn := fun _ => fun
  | [d1, d2, d3, d4] => { results := [.lit (.bool false)], args := [d1, d2, d3, d4] }
  | _ => none }
def FnMatchRunOnlyMatchesWhatGlobMatchesWrongFalsely : Prop := fnMatchRunOnlyMatchesWhatGlobMatchesRow.holds Trym.pinned (OpenSpec.ofChange fnMatchRunOnlyMatchesWhatGlobMatchesWrong)

/-- 'zzlaws_internal_ignore_b1.FnMatchRunAgreesWithGlobModel': WHATEVER THE INPUT: true; the input reads as it did. -/
def fnMatchRunAgreesWithGlobModelSpec : ChangeSpec := { name := "fnMatchRunAgreesWithGlobModel", fn := fun _ => fun
  | [d1, d2, d3, d4] => { results := [.lit (.bool true)], args := [d1, d2, d3, d4] }
  | _ => none }
def fnMatchRunAgreesWithGlobModelRow : OpenClaim := { program := "qxb6001356amods", sum := "14dc2005f2a081b7301ad85073e133fdf1dd856a308b9b59e3b9f3d9e1e5974b", func := "example.com/globtrot/globtrot/zzlaws_internal_ignore_b1.FnMatchRunAgreesWithGlobModel", spec := "fnMatchRunAgreesWithGlobModel", inPlace := ["internal/bytealg.IndexByteString"], recurses := true, make := .lifted ["publicsums"], apart := false }
def FnMatchRunAgreesWithGlobModelSaid : Prop := fnMatchRunAgreesWithGlobModelRow.holds Trym.pinned (OpenSpec.ofChange fnMatchRunAgreesWithGlobModelSpec)

/-- ITS FALSE NEIGHBOUR: 'it returns false'. Refute it at one input. -/
def fnMatchRunAgreesWithGlobModelWrong : ChangeSpec := { name := "fnMatchRunAgreesWithGlobModel", fn := fun _ => fun
  | [d1, d2, d3, d4] => { results := [.lit (.bool false)], args := [d1, d2, d3, d4] }
  | _ => none }
def FnMatchRunAgreesWithGlobModelWrongFalsely : Prop := fnMatchRunAgreesWithGlobModelRow.holds Trym.pinned (OpenSpec.ofChange fnMatchRunAgreesWithGlobModelWrong)

end Rows
end Go.Proofs.Qxb6001356aMods
