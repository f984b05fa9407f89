/-
  No cell of these rows narrows 'for every input' (looked for: loops, veiled, ifaces, maps, wideKeys, modest, calm, conditions, laid).
  DERIVED. THE GIVEN ROWS OF THIS SEAT. 5 by the template 'for every input the law returns true; each argument reads behind the call as it read before'; 0 by the template 'total and deterministic' (their statements: Qxb6000949aModsTotals.lean).
  GIVEN WITH THE SEED: the statements are not yours to turn. If you find one false, say at which input.
  Laid BY PROGRAM, IN A SANDBOX (cutbox-rows.mjs): the forced cells as the released guide's own fill.sh prints them over the translation d2791d5ba6d742eb… (all of the seat's roots in one cut). By AI agents, Wed Nov 11 2026. No macro, syntax, notation, axiom, sorry.
-/
import Derived.Test.Qxb6000949aModsChecked
import GoSem.Claim
import GoSem.ClaimJoined
import GoSem.ClaimMapViews
import Derived.JoinedTies
import Derived.KernelRfl
namespace Go.Proofs.Qxb6000949aMods
/- THE CELL 'sum', in the pinned program and in every row, IS THE sha256 OF THE DUMP (.gsa) THAT Qxb6000949aModsProg.lean LOADS. Nothing in Lean hashes anything: it is a label: what it is worth is what the hold of that sum in a sandbox is worth. -/
noncomputable def Trym.pinned : Pinned := { name := "qxb6000949amods", sum := "d2791d5ba6d742eb8a7e45a99c1f684526e0714c2f2b0c6b0a96425d4fee5d4a", checked := Trym.checked }
namespace Rows
def none {H : Type} : Left H := { results := [], args := [] }

/-- 'zzlaws_internal_numerals_b1.FnByCharLookupIsLastEntry': WHATEVER THE INPUT: true; the input reads as it did. -/
def fnByCharLookupIsLastEntrySpec : ChangeSpec := { name := "fnByCharLookupIsLastEntry", fn := fun _ => fun
  | [d1, d2] => { results := [.lit (.bool true)], args := [d1, d2] }
  | _ => none }
def fnByCharLookupIsLastEntryRow : OpenClaim := { program := "qxb6000949amods", sum := "d2791d5ba6d742eb8a7e45a99c1f684526e0714c2f2b0c6b0a96425d4fee5d4a", func := "example.com/custos/custos/zzlaws_internal_numerals_b1.FnByCharLookupIsLastEntry", spec := "fnByCharLookupIsLastEntry", make := .lifted ["publicsums"], apart := false }
def FnByCharLookupIsLastEntrySaid : Prop := fnByCharLookupIsLastEntryRow.holds Trym.pinned (OpenSpec.ofChange fnByCharLookupIsLastEntrySpec)

/-- ITS FALSE NEIGHBOUR: 'it returns false'. Refute it at one input. -/
def fnByCharLookupIsLastEntryWrong : ChangeSpec := { name := "fnByCharLookupIsLastEntry", fn := fun _ => fun
  | [d1, d2] => { results := [.lit (.bool false)], args := [d1, d2] }
  | _ => none }
def FnByCharLookupIsLastEntryWrongFalsely : Prop := fnByCharLookupIsLastEntryRow.holds Trym.pinned (OpenSpec.ofChange fnByCharLookupIsLastEntryWrong)

/-- 'zzlaws_internal_numerals_b1.FnByCharSizeIsDistinctCount': WHATEVER THE INPUT: true; the input reads as it did. -/
def fnByCharSizeIsDistinctCountSpec : ChangeSpec := { name := "fnByCharSizeIsDistinctCount", fn := fun _ => fun
  | [d] => { results := [.lit (.bool true)], args := [d] }
  | _ => none }
def fnByCharSizeIsDistinctCountRow : OpenClaim := { program := "qxb6000949amods", sum := "d2791d5ba6d742eb8a7e45a99c1f684526e0714c2f2b0c6b0a96425d4fee5d4a", func := "example.com/custos/custos/zzlaws_internal_numerals_b1.FnByCharSizeIsDistinctCount", spec := "fnByCharSizeIsDistinctCount", make := .lifted ["publicsums"], apart := false }
def FnByCharSizeIsDistinctCountSaid : Prop := fnByCharSizeIsDistinctCountRow.holds Trym.pinned (OpenSpec.ofChange fnByCharSizeIsDistinctCountSpec)

/-- ITS FALSE NEIGHBOUR: 'it returns false'. Refute it at one input. -/
def fnByCharSizeIsDistinctCountWrong : ChangeSpec := { name := "fnByCharSizeIsDistinctCount", fn := fun _ => fun
  | [d] => { results := [.lit (.bool false)], args := [d] }
  | _ => none }
def FnByCharSizeIsDistinctCountWrongFalsely : Prop := fnByCharSizeIsDistinctCountRow.holds Trym.pinned (OpenSpec.ofChange fnByCharSizeIsDistinctCountWrong)

/-- 'zzlaws_internal_numerals_b1.FnByCharLaterEntriesShadowEarlier': WHATEVER THE INPUT: true; the input reads as it did. -/
def fnByCharLaterEntriesShadowEarlierSpec : ChangeSpec := { name := "fnByCharLaterEntriesShadowEarlier", fn := fun _ => fun
  | [d1, d2] => { results := [.lit (.bool true)], args := [d1, d2] }
  | _ => none }
def fnByCharLaterEntriesShadowEarlierRow : OpenClaim := { program := "qxb6000949amods", sum := "d2791d5ba6d742eb8a7e45a99c1f684526e0714c2f2b0c6b0a96425d4fee5d4a", func := "example.com/custos/custos/zzlaws_internal_numerals_b1.FnByCharLaterEntriesShadowEarlier", spec := "fnByCharLaterEntriesShadowEarlier", make := .lifted ["publicsums"], apart := false }
def FnByCharLaterEntriesShadowEarlierSaid : Prop := fnByCharLaterEntriesShadowEarlierRow.holds Trym.pinned (OpenSpec.ofChange fnByCharLaterEntriesShadowEarlierSpec)

/-- ITS FALSE NEIGHBOUR: 'it returns false'. Refute it at one input. -/
def fnByCharLaterEntriesShadowEarlierWrong : ChangeSpec := { name := "fnByCharLaterEntriesShadowEarlier", fn := fun _ => fun
  | [d1, d2] => { results := [.lit (.bool false)], args := [d1, d2] }
  | _ => none }
def FnByCharLaterEntriesShadowEarlierWrongFalsely : Prop := fnByCharLaterEntriesShadowEarlierRow.holds Trym.pinned (OpenSpec.ofChange fnByCharLaterEntriesShadowEarlierWrong)

/-- 'zzlaws_internal_numerals_b1.FnOnlyOnesClosingOnlyWidens': WHATEVER THE INPUT: true; the input reads as it did. -/
def fnOnlyOnesClosingOnlyWidensSpec : ChangeSpec := { name := "fnOnlyOnesClosingOnlyWidens", fn := fun _ => fun
  | [d1, d2] => { results := [.lit (.bool true)], args := [d1, d2] }
  | _ => none }
def fnOnlyOnesClosingOnlyWidensRow : OpenClaim := { program := "qxb6000949amods", sum := "d2791d5ba6d742eb8a7e45a99c1f684526e0714c2f2b0c6b0a96425d4fee5d4a", func := "example.com/custos/custos/zzlaws_internal_numerals_b1.FnOnlyOnesClosingOnlyWidens", spec := "fnOnlyOnesClosingOnlyWidens", make := .lifted ["publicsums"], apart := false }
def FnOnlyOnesClosingOnlyWidensSaid : Prop := fnOnlyOnesClosingOnlyWidensRow.holds Trym.pinned (OpenSpec.ofChange fnOnlyOnesClosingOnlyWidensSpec)

/-- ITS FALSE NEIGHBOUR: 'it returns false'. Refute it at one input. -/
def fnOnlyOnesClosingOnlyWidensWrong : ChangeSpec := { name := "fnOnlyOnesClosingOnlyWidens", fn := fun _ => fun
  | [d1, d2] => { results := [.lit (.bool false)], args := [d1, d2] }
  | _ => none }
def FnOnlyOnesClosingOnlyWidensWrongFalsely : Prop := fnOnlyOnesClosingOnlyWidensRow.holds Trym.pinned (OpenSpec.ofChange fnOnlyOnesClosingOnlyWidensWrong)

/-- 'zzlaws_internal_numerals_b1.FnOnlyOnesSeesOnlyTheSymbolBefore': WHATEVER THE INPUT: true; the input reads as it did. -/
def fnOnlyOnesSeesOnlyTheSymbolBeforeSpec : ChangeSpec := { name := "fnOnlyOnesSeesOnlyTheSymbolBefore", fn := fun _ => fun
  | [d1, d2, d3, d4] => { results := [.lit (.bool true)], args := [d1, d2, d3, d4] }
  | _ => none }
def fnOnlyOnesSeesOnlyTheSymbolBeforeRow : OpenClaim := { program := "qxb6000949amods", sum := "d2791d5ba6d742eb8a7e45a99c1f684526e0714c2f2b0c6b0a96425d4fee5d4a", func := "example.com/custos/custos/zzlaws_internal_numerals_b1.FnOnlyOnesSeesOnlyTheSymbolBefore", spec := "fnOnlyOnesSeesOnlyTheSymbolBefore", make := .lifted ["publicsums"], apart := false }
def FnOnlyOnesSeesOnlyTheSymbolBeforeSaid : Prop := fnOnlyOnesSeesOnlyTheSymbolBeforeRow.holds Trym.pinned (OpenSpec.ofChange fnOnlyOnesSeesOnlyTheSymbolBeforeSpec)

/-- ITS FALSE NEIGHBOUR: 'it returns false'. Refute it at one input. -/
def fnOnlyOnesSeesOnlyTheSymbolBeforeWrong : ChangeSpec := { name := "fnOnlyOnesSeesOnlyTheSymbolBefore", fn := fun _ => fun
  | [d1, d2, d3, d4] => { results := [.lit (.bool false)], args := [d1, d2, d3, d4] }
  | _ => none }
def FnOnlyOnesSeesOnlyTheSymbolBeforeWrongFalsely : Prop := fnOnlyOnesSeesOnlyTheSymbolBeforeRow.holds Trym.pinned (OpenSpec.ofChange fnOnlyOnesSeesOnlyTheSymbolBeforeWrong)

end Rows
end Go.Proofs.Qxb6000949aMods
