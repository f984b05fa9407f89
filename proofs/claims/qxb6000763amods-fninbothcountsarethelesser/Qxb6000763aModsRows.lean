/-
  No cell of these rows narrows 'for every input' (looked for: loops, veiled, ifaces, maps, wideKeys, modest, calm, conditions, laid).
  DERIVED. THE GIVEN ROWS OF THIS SEAT. 5 by the template 'for every input the law returns true; each argument reads behind the call as it read before'; 0 by the template 'total and deterministic' (their statements: Qxb6000763aModsTotals.lean).
  GIVEN WITH THE SEED: the statements are not yours to turn. If you find one false, say at which input.
  Laid BY PROGRAM, IN A SANDBOX (cutbox-rows.mjs): the forced cells as the released guide's own fill.sh prints them over the translation 52ca01d486c0a3a9… (all of the seat's roots in one cut). By AI agents, Wed Nov 11 2026. No macro, syntax, notation, axiom, sorry.
-/
import Derived.Test.Qxb6000763aModsChecked
import GoSem.Claim
import GoSem.ClaimJoined
import GoSem.ClaimMapViews
import Derived.JoinedTies
import Derived.KernelRfl
namespace Go.Proofs.Qxb6000763aMods
/- THE CELL 'sum', in the pinned program and in every row, IS THE sha256 OF THE DUMP (.gsa) THAT Qxb6000763aModsProg.lean LOADS. Nothing in Lean hashes anything: it is a label: what it is worth is what the hold of that sum in a sandbox is worth. -/
noncomputable def Trym.pinned : Pinned := { name := "qxb6000763amods", sum := "52ca01d486c0a3a933298abae96a31ffcffc284c0aad4089ad2ccc7c966e85ad", checked := Trym.checked }
namespace Rows
def none {H : Type} : Left H := { results := [], args := [] }

/-- 'zzlaws_internal_store_b1.FnPageBoundsWithinHits': WHATEVER THE INPUT: true; the input reads as it did. -/
def fnPageBoundsWithinHitsSpec : ChangeSpec := { name := "fnPageBoundsWithinHits", fn := fun _ => fun
  | [d1, d2, d3] => { results := [.lit (.bool true)], args := [d1, d2, d3] }
  | _ => none }
def fnPageBoundsWithinHitsRow : OpenClaim := { program := "qxb6000763amods", sum := "52ca01d486c0a3a933298abae96a31ffcffc284c0aad4089ad2ccc7c966e85ad", func := "example.com/moorings/moorings/zzlaws_internal_store_b1.FnPageBoundsWithinHits", spec := "fnPageBoundsWithinHits", make := .lifted ["publicsums"], apart := false }
def FnPageBoundsWithinHitsSaid : Prop := fnPageBoundsWithinHitsRow.holds Trym.pinned (OpenSpec.ofChange fnPageBoundsWithinHitsSpec)

/-- ITS FALSE NEIGHBOUR: 'it returns false'. Refute it at one input. -/
def fnPageBoundsWithinHitsWrong : ChangeSpec := { name := "fnPageBoundsWithinHits", fn := fun _ => fun
  | [d1, d2, d3] => { results := [.lit (.bool false)], args := [d1, d2, d3] }
  | _ => none }
def FnPageBoundsWithinHitsWrongFalsely : Prop := fnPageBoundsWithinHitsRow.holds Trym.pinned (OpenSpec.ofChange fnPageBoundsWithinHitsWrong)

/-- 'zzlaws_internal_store_b1.FnPageBoundsNextPageFollows': WHATEVER THE INPUT: true; the input reads as it did. -/
def fnPageBoundsNextPageFollowsSpec : ChangeSpec := { name := "fnPageBoundsNextPageFollows", fn := fun _ => fun
  | [d1, d2, d3] => { results := [.lit (.bool true)], args := [d1, d2, d3] }
  | _ => none }
def fnPageBoundsNextPageFollowsRow : OpenClaim := { program := "qxb6000763amods", sum := "52ca01d486c0a3a933298abae96a31ffcffc284c0aad4089ad2ccc7c966e85ad", func := "example.com/moorings/moorings/zzlaws_internal_store_b1.FnPageBoundsNextPageFollows", spec := "fnPageBoundsNextPageFollows", make := .lifted ["publicsums"], apart := false }
def FnPageBoundsNextPageFollowsSaid : Prop := fnPageBoundsNextPageFollowsRow.holds Trym.pinned (OpenSpec.ofChange fnPageBoundsNextPageFollowsSpec)

/-- ITS FALSE NEIGHBOUR: 'it returns false'. Refute it at one input. -/
def fnPageBoundsNextPageFollowsWrong : ChangeSpec := { name := "fnPageBoundsNextPageFollows", fn := fun _ => fun
  | [d1, d2, d3] => { results := [.lit (.bool false)], args := [d1, d2, d3] }
  | _ => none }
def FnPageBoundsNextPageFollowsWrongFalsely : Prop := fnPageBoundsNextPageFollowsRow.holds Trym.pinned (OpenSpec.ofChange fnPageBoundsNextPageFollowsWrong)

/-- 'zzlaws_internal_store_b1.FnInBothCountsAreTheLesser': WHATEVER THE INPUT: true; the input reads as it did. -/
def fnInBothCountsAreTheLesserSpec : ChangeSpec := { name := "fnInBothCountsAreTheLesser", fn := fun _ => fun
  | [d1, d2] => { results := [.lit (.bool true)], args := [d1, d2] }
  | _ => none }
def fnInBothCountsAreTheLesserRow : OpenClaim := { program := "qxb6000763amods", sum := "52ca01d486c0a3a933298abae96a31ffcffc284c0aad4089ad2ccc7c966e85ad", func := "example.com/moorings/moorings/zzlaws_internal_store_b1.FnInBothCountsAreTheLesser", spec := "fnInBothCountsAreTheLesser", make := .lifted ["publicsums"], apart := false }
def FnInBothCountsAreTheLesserSaid : Prop := fnInBothCountsAreTheLesserRow.holds Trym.pinned (OpenSpec.ofChange fnInBothCountsAreTheLesserSpec)

/-- ITS FALSE NEIGHBOUR: 'it returns false'. Refute it at one input. -/
def fnInBothCountsAreTheLesserWrong : ChangeSpec := { name := "fnInBothCountsAreTheLesser", fn := fun _ => fun
  | [d1, d2] => { results := [.lit (.bool false)], args := [d1, d2] }
  | _ => none }
def FnInBothCountsAreTheLesserWrongFalsely : Prop := fnInBothCountsAreTheLesserRow.holds Trym.pinned (OpenSpec.ofChange fnInBothCountsAreTheLesserWrong)

/-- 'zzlaws_internal_store_b1.FnInBothSymmetric': WHATEVER THE INPUT: true; the input reads as it did. -/
def fnInBothSymmetricSpec : ChangeSpec := { name := "fnInBothSymmetric", fn := fun _ => fun
  | [d1, d2] => { results := [.lit (.bool true)], args := [d1, d2] }
  | _ => none }
def fnInBothSymmetricRow : OpenClaim := { program := "qxb6000763amods", sum := "52ca01d486c0a3a933298abae96a31ffcffc284c0aad4089ad2ccc7c966e85ad", func := "example.com/moorings/moorings/zzlaws_internal_store_b1.FnInBothSymmetric", spec := "fnInBothSymmetric", make := .lifted ["publicsums"], apart := false }
def FnInBothSymmetricSaid : Prop := fnInBothSymmetricRow.holds Trym.pinned (OpenSpec.ofChange fnInBothSymmetricSpec)

/-- ITS FALSE NEIGHBOUR: 'it returns false'. Refute it at one input. -/
def fnInBothSymmetricWrong : ChangeSpec := { name := "fnInBothSymmetric", fn := fun _ => fun
  | [d1, d2] => { results := [.lit (.bool false)], args := [d1, d2] }
  | _ => none }
def FnInBothSymmetricWrongFalsely : Prop := fnInBothSymmetricRow.holds Trym.pinned (OpenSpec.ofChange fnInBothSymmetricWrong)

/-- 'zzlaws_internal_store_b1.FnInBothSelfAndAbsorb': WHATEVER THE INPUT: true; the input reads as it did. -/
def fnInBothSelfAndAbsorbSpec : ChangeSpec := { name := "fnInBothSelfAndAbsorb", fn := fun _ => fun
  | [d1, d2] => { results := [.lit (.bool true)], args := [d1, d2] }
  | _ => none }
def fnInBothSelfAndAbsorbRow : OpenClaim := { program := "qxb6000763amods", sum := "52ca01d486c0a3a933298abae96a31ffcffc284c0aad4089ad2ccc7c966e85ad", func := "example.com/moorings/moorings/zzlaws_internal_store_b1.FnInBothSelfAndAbsorb", spec := "fnInBothSelfAndAbsorb", make := .lifted ["publicsums"], apart := false }
def FnInBothSelfAndAbsorbSaid : Prop := fnInBothSelfAndAbsorbRow.holds Trym.pinned (OpenSpec.ofChange fnInBothSelfAndAbsorbSpec)

/-- ITS FALSE NEIGHBOUR: 'it returns false'. Refute it at one input. -/
def fnInBothSelfAndAbsorbWrong : ChangeSpec := { name := "fnInBothSelfAndAbsorb", fn := fun _ => fun
  | [d1, d2] => { results := [.lit (.bool false)], args := [d1, d2] }
  | _ => none }
def FnInBothSelfAndAbsorbWrongFalsely : Prop := fnInBothSelfAndAbsorbRow.holds Trym.pinned (OpenSpec.ofChange fnInBothSelfAndAbsorbWrong)

end Rows
end Go.Proofs.Qxb6000763aMods
