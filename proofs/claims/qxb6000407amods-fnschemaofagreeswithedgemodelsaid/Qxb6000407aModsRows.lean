/-
  No cell of these rows narrows 'for every input' (looked for: loops, veiled, ifaces, maps, wideKeys, modest, calm, conditions, laid).
  DERIVED. THE GIVEN ROWS OF THIS SEAT. 5 by the template 'for every input the law returns true; each argument reads behind the call as it read before'; 0 by the template 'total and deterministic' (their statements: Qxb6000407aModsTotals.lean).
  GIVEN WITH THE SEED: the statements are not yours to turn. If you find one false, say at which input.
  Laid BY PROGRAM, IN A SANDBOX (cutbox-rows.mjs): the forced cells as the released guide's own fill.sh prints them over the translation 99c587694dda25be… (all of the seat's roots in one cut). By AI agents, Wed Nov 11 2026. No macro, syntax, notation, axiom, sorry.
-/
import Derived.Test.Qxb6000407aModsChecked
import GoSem.Claim
import GoSem.ClaimJoined
import GoSem.ClaimMapViews
import Derived.JoinedTies
import Derived.KernelRfl
namespace Go.Proofs.Qxb6000407aMods
/- THE CELL 'sum', in the pinned program and in every row, IS THE sha256 OF THE DUMP (.gsa) THAT Qxb6000407aModsProg.lean LOADS. Nothing in Lean hashes anything: it is a label: what it is worth is what the hold of that sum in a sandbox is worth. -/
noncomputable def Trym.pinned : Pinned := { name := "qxb6000407amods", sum := "99c587694dda25be094889482fb34624f4776f8047c4238e0e0ffdbc01cb7e34", checked := Trym.checked }
namespace Rows
def none {H : Type} : Left H := { results := [], args := [] }

/-- 'zzlaws_conversion_b1.FnDistinctAgreesWithPairwise': WHATEVER THE INPUT: true; the input reads as it did. -/
def fnDistinctAgreesWithPairwiseSpec : ChangeSpec := { name := "fnDistinctAgreesWithPairwise", fn := fun _ => fun
  | [d] => { results := [.lit (.bool true)], args := [d] }
  | _ => none }
def fnDistinctAgreesWithPairwiseRow : OpenClaim := { program := "qxb6000407amods", sum := "99c587694dda25be094889482fb34624f4776f8047c4238e0e0ffdbc01cb7e34", func := "example.com/kindwright/kindwright/zzlaws_conversion_b1.FnDistinctAgreesWithPairwise", spec := "fnDistinctAgreesWithPairwise", make := .lifted ["publicsums"], apart := false }
def FnDistinctAgreesWithPairwiseSaid : Prop := fnDistinctAgreesWithPairwiseRow.holds Trym.pinned (OpenSpec.ofChange fnDistinctAgreesWithPairwiseSpec)

/-- ITS FALSE NEIGHBOUR: 'it returns false'. Refute it at one input. -/
def fnDistinctAgreesWithPairwiseWrong : ChangeSpec := { name := "fnDistinctAgreesWithPairwise", fn := fun _ => fun
  | [d] => { results := [.lit (.bool false)], args := [d] }
  | _ => none }
def FnDistinctAgreesWithPairwiseWrongFalsely : Prop := fnDistinctAgreesWithPairwiseRow.holds Trym.pinned (OpenSpec.ofChange fnDistinctAgreesWithPairwiseWrong)

/-- 'zzlaws_conversion_b1.FnDistinctOrderFreeAndPrefixClosed': WHATEVER THE INPUT: true; the input reads as it did. -/
def fnDistinctOrderFreeAndPrefixClosedSpec : ChangeSpec := { name := "fnDistinctOrderFreeAndPrefixClosed", fn := fun _ => fun
  | [d1, d2] => { results := [.lit (.bool true)], args := [d1, d2] }
  | _ => none }
def fnDistinctOrderFreeAndPrefixClosedRow : OpenClaim := { program := "qxb6000407amods", sum := "99c587694dda25be094889482fb34624f4776f8047c4238e0e0ffdbc01cb7e34", func := "example.com/kindwright/kindwright/zzlaws_conversion_b1.FnDistinctOrderFreeAndPrefixClosed", spec := "fnDistinctOrderFreeAndPrefixClosed", make := .lifted ["publicsums"], apart := false }
def FnDistinctOrderFreeAndPrefixClosedSaid : Prop := fnDistinctOrderFreeAndPrefixClosedRow.holds Trym.pinned (OpenSpec.ofChange fnDistinctOrderFreeAndPrefixClosedSpec)

/-- ITS FALSE NEIGHBOUR: 'it returns false'. Refute it at one input. -/
def fnDistinctOrderFreeAndPrefixClosedWrong : ChangeSpec := { name := "fnDistinctOrderFreeAndPrefixClosed", fn := fun _ => fun
  | [d1, d2] => { results := [.lit (.bool false)], args := [d1, d2] }
  | _ => none }
def FnDistinctOrderFreeAndPrefixClosedWrongFalsely : Prop := fnDistinctOrderFreeAndPrefixClosedRow.holds Trym.pinned (OpenSpec.ofChange fnDistinctOrderFreeAndPrefixClosedWrong)

/-- 'zzlaws_conversion_b1.FnDistinctExtension': WHATEVER THE INPUT: true; the input reads as it did. -/
def fnDistinctExtensionSpec : ChangeSpec := { name := "fnDistinctExtension", fn := fun _ => fun
  | [d1, d2] => { results := [.lit (.bool true)], args := [d1, d2] }
  | _ => none }
def fnDistinctExtensionRow : OpenClaim := { program := "qxb6000407amods", sum := "99c587694dda25be094889482fb34624f4776f8047c4238e0e0ffdbc01cb7e34", func := "example.com/kindwright/kindwright/zzlaws_conversion_b1.FnDistinctExtension", spec := "fnDistinctExtension", make := .lifted ["publicsums"], apart := false }
def FnDistinctExtensionSaid : Prop := fnDistinctExtensionRow.holds Trym.pinned (OpenSpec.ofChange fnDistinctExtensionSpec)

/-- ITS FALSE NEIGHBOUR: 'it returns false'. Refute it at one input. -/
def fnDistinctExtensionWrong : ChangeSpec := { name := "fnDistinctExtension", fn := fun _ => fun
  | [d1, d2] => { results := [.lit (.bool false)], args := [d1, d2] }
  | _ => none }
def FnDistinctExtensionWrongFalsely : Prop := fnDistinctExtensionRow.holds Trym.pinned (OpenSpec.ofChange fnDistinctExtensionWrong)

/-- 'zzlaws_conversion_b1.FnSchemaOfAgreesWithEdgeModel': WHATEVER THE INPUT: true; the input reads as it did. -/
def fnSchemaOfAgreesWithEdgeModelSpec : ChangeSpec := { name := "fnSchemaOfAgreesWithEdgeModel", fn := fun _ => fun
  | [d1, d2] => { results := [.lit (.bool true)], args := [d1, d2] }
  | _ => none }
def fnSchemaOfAgreesWithEdgeModelRow : OpenClaim := { program := "qxb6000407amods", sum := "99c587694dda25be094889482fb34624f4776f8047c4238e0e0ffdbc01cb7e34", func := "example.com/kindwright/kindwright/zzlaws_conversion_b1.FnSchemaOfAgreesWithEdgeModel", spec := "fnSchemaOfAgreesWithEdgeModel", make := .lifted ["publicsums"], apart := false }
def FnSchemaOfAgreesWithEdgeModelSaid : Prop := fnSchemaOfAgreesWithEdgeModelRow.holds Trym.pinned (OpenSpec.ofChange fnSchemaOfAgreesWithEdgeModelSpec)

/-- ITS FALSE NEIGHBOUR: 'it returns false'. Refute it at one input. -/
def fnSchemaOfAgreesWithEdgeModelWrong : ChangeSpec := { name := "fnSchemaOfAgreesWithEdgeModel", fn := fun _ => fun
  | [d1, d2] => { results := [.lit (.bool false)], args := [d1, d2] }
  | _ => none }
def FnSchemaOfAgreesWithEdgeModelWrongFalsely : Prop := fnSchemaOfAgreesWithEdgeModelRow.holds Trym.pinned (OpenSpec.ofChange fnSchemaOfAgreesWithEdgeModelWrong)

/-- 'zzlaws_conversion_b1.FnSchemaOfComposes': WHATEVER THE INPUT: true; the input reads as it did. -/
def fnSchemaOfComposesSpec : ChangeSpec := { name := "fnSchemaOfComposes", fn := fun _ => fun
  | [d1, d2, d3] => { results := [.lit (.bool true)], args := [d1, d2, d3] }
  | _ => none }
def fnSchemaOfComposesRow : OpenClaim := { program := "qxb6000407amods", sum := "99c587694dda25be094889482fb34624f4776f8047c4238e0e0ffdbc01cb7e34", func := "example.com/kindwright/kindwright/zzlaws_conversion_b1.FnSchemaOfComposes", spec := "fnSchemaOfComposes", make := .lifted ["publicsums"], apart := false }
def FnSchemaOfComposesSaid : Prop := fnSchemaOfComposesRow.holds Trym.pinned (OpenSpec.ofChange fnSchemaOfComposesSpec)

/-- ITS FALSE NEIGHBOUR: 'it returns false'. Refute it at one input. -/
def fnSchemaOfComposesWrong : ChangeSpec := { name := "fnSchemaOfComposes", fn := fun _ => fun
  | [d1, d2, d3] => { results := [.lit (.bool false)], args := [d1, d2, d3] }
  | _ => none }
def FnSchemaOfComposesWrongFalsely : Prop := fnSchemaOfComposesRow.holds Trym.pinned (OpenSpec.ofChange fnSchemaOfComposesWrong)

end Rows
end Go.Proofs.Qxb6000407aMods
