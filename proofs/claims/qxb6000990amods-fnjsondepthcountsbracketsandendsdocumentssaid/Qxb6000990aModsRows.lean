/-
  No cell of these rows narrows 'for every input' (looked for: loops, veiled, ifaces, maps, wideKeys, modest, calm, conditions, laid).
  DERIVED. THE GIVEN ROWS OF THIS SEAT. 5 by the template 'for every input the law returns true; each argument reads behind the call as it read before'; 0 by the template 'total and deterministic' (their statements: Qxb6000990aModsTotals.lean).
  GIVEN WITH THE SEED: the statements are not yours to turn. If you find one false, say at which input.
  Laid BY PROGRAM, IN A SANDBOX (cutbox-rows.mjs): the forced cells as the released guide's own fill.sh prints them over the translation bc0ceb35f5a3b147… (all of the seat's roots in one cut). By AI agents, Wed Nov 11 2026. No macro, syntax, notation, axiom, sorry.
-/
import Derived.Test.Qxb6000990aModsChecked
import GoSem.Claim
import GoSem.ClaimJoined
import GoSem.ClaimMapViews
import Derived.JoinedTies
import Derived.KernelRfl
namespace Go.Proofs.Qxb6000990aMods
/- THE CELL 'sum', in the pinned program and in every row, IS THE sha256 OF THE DUMP (.gsa) THAT Qxb6000990aModsProg.lean LOADS. Nothing in Lean hashes anything: it is a label: what it is worth is what the hold of that sum in a sandbox is worth. -/
noncomputable def Trym.pinned : Pinned := { name := "qxb6000990amods", sum := "bc0ceb35f5a3b147ebe2d2c8c4374d919b615a6787fb2a6692f68e7835c0928f", checked := Trym.checked }
namespace Rows
def none {H : Type} : Left H := { results := [], args := [] }

/-- 'zzlaws_internal_inputfile_b1.FnCountToSplitAgreesWithOneCount': WHATEVER THE INPUT: true; the input reads as it did. -/
def fnCountToSplitAgreesWithOneCountSpec : ChangeSpec := { name := "fnCountToSplitAgreesWithOneCount", fn := fun _ => fun
  | [d1, d2, d3, d4, d5, d6] => { results := [.lit (.bool true)], args := [d1, d2, d3, d4, d5, d6] }
  | _ => none }
def fnCountToSplitAgreesWithOneCountRow : OpenClaim := { program := "qxb6000990amods", sum := "bc0ceb35f5a3b147ebe2d2c8c4374d919b615a6787fb2a6692f68e7835c0928f", func := "example.com/nodewarden/nodewarden/zzlaws_internal_inputfile_b1.FnCountToSplitAgreesWithOneCount", spec := "fnCountToSplitAgreesWithOneCount", make := .lifted ["publicsums"], apart := false }
def FnCountToSplitAgreesWithOneCountSaid : Prop := fnCountToSplitAgreesWithOneCountRow.holds Trym.pinned (OpenSpec.ofChange fnCountToSplitAgreesWithOneCountSpec)

/-- ITS FALSE NEIGHBOUR: 'it returns false'. Refute it at one input. -/
def fnCountToSplitAgreesWithOneCountWrong : ChangeSpec := { name := "fnCountToSplitAgreesWithOneCount", fn := fun _ => fun
  | [d1, d2, d3, d4, d5, d6] => { results := [.lit (.bool false)], args := [d1, d2, d3, d4, d5, d6] }
  | _ => none }
def FnCountToSplitAgreesWithOneCountWrongFalsely : Prop := fnCountToSplitAgreesWithOneCountRow.holds Trym.pinned (OpenSpec.ofChange fnCountToSplitAgreesWithOneCountWrong)

/-- 'zzlaws_internal_inputfile_b1.FnCountToStopsWithinTheObject': WHATEVER THE INPUT: true; the input reads as it did. -/
def fnCountToStopsWithinTheObjectSpec : ChangeSpec := { name := "fnCountToStopsWithinTheObject", fn := fun _ => fun
  | [d1, d2, d3, d4, d5] => { results := [.lit (.bool true)], args := [d1, d2, d3, d4, d5] }
  | _ => none }
def fnCountToStopsWithinTheObjectRow : OpenClaim := { program := "qxb6000990amods", sum := "bc0ceb35f5a3b147ebe2d2c8c4374d919b615a6787fb2a6692f68e7835c0928f", func := "example.com/nodewarden/nodewarden/zzlaws_internal_inputfile_b1.FnCountToStopsWithinTheObject", spec := "fnCountToStopsWithinTheObject", make := .lifted ["publicsums"], apart := false }
def FnCountToStopsWithinTheObjectSaid : Prop := fnCountToStopsWithinTheObjectRow.holds Trym.pinned (OpenSpec.ofChange fnCountToStopsWithinTheObjectSpec)

/-- ITS FALSE NEIGHBOUR: 'it returns false'. Refute it at one input. -/
def fnCountToStopsWithinTheObjectWrong : ChangeSpec := { name := "fnCountToStopsWithinTheObject", fn := fun _ => fun
  | [d1, d2, d3, d4, d5] => { results := [.lit (.bool false)], args := [d1, d2, d3, d4, d5] }
  | _ => none }
def FnCountToStopsWithinTheObjectWrongFalsely : Prop := fnCountToStopsWithinTheObjectRow.holds Trym.pinned (OpenSpec.ofChange fnCountToStopsWithinTheObjectWrong)

/-- 'zzlaws_internal_inputfile_b1.FnJsonDepthCountsBracketsAndEndsDocuments': WHATEVER THE INPUT: true; the input reads as it did. -/
def fnJsonDepthCountsBracketsAndEndsDocumentsSpec : ChangeSpec := { name := "fnJsonDepthCountsBracketsAndEndsDocuments", fn := fun _ => fun
  | [d1, d2, d3] => { results := [.lit (.bool true)], args := [d1, d2, d3] }
  | _ => none }
def fnJsonDepthCountsBracketsAndEndsDocumentsRow : OpenClaim := { program := "qxb6000990amods", sum := "bc0ceb35f5a3b147ebe2d2c8c4374d919b615a6787fb2a6692f68e7835c0928f", func := "example.com/nodewarden/nodewarden/zzlaws_internal_inputfile_b1.FnJsonDepthCountsBracketsAndEndsDocuments", spec := "fnJsonDepthCountsBracketsAndEndsDocuments", make := .lifted ["publicsums"], apart := false }
def FnJsonDepthCountsBracketsAndEndsDocumentsSaid : Prop := fnJsonDepthCountsBracketsAndEndsDocumentsRow.holds Trym.pinned (OpenSpec.ofChange fnJsonDepthCountsBracketsAndEndsDocumentsSpec)

/-- ITS FALSE NEIGHBOUR: 'it returns false'. Refute it at one input. -/
def fnJsonDepthCountsBracketsAndEndsDocumentsWrong : ChangeSpec := { name := "fnJsonDepthCountsBracketsAndEndsDocuments", fn := fun _ => fun
  | [d1, d2, d3] => { results := [.lit (.bool false)], args := [d1, d2, d3] }
  | _ => none }
def FnJsonDepthCountsBracketsAndEndsDocumentsWrongFalsely : Prop := fnJsonDepthCountsBracketsAndEndsDocumentsRow.holds Trym.pinned (OpenSpec.ofChange fnJsonDepthCountsBracketsAndEndsDocumentsWrong)

/-- 'zzlaws_internal_inputfile_b1.FnJsonItemsOpenOnlyRightAfterNamedColon': WHATEVER THE INPUT: true; the input reads as it did. -/
def fnJsonItemsOpenOnlyRightAfterNamedColonSpec : ChangeSpec := { name := "fnJsonItemsOpenOnlyRightAfterNamedColon", fn := fun _ => fun
  | [d1, d2, d3, d4, d5] => { results := [.lit (.bool true)], args := [d1, d2, d3, d4, d5] }
  | _ => none }
def fnJsonItemsOpenOnlyRightAfterNamedColonRow : OpenClaim := { program := "qxb6000990amods", sum := "bc0ceb35f5a3b147ebe2d2c8c4374d919b615a6787fb2a6692f68e7835c0928f", func := "example.com/nodewarden/nodewarden/zzlaws_internal_inputfile_b1.FnJsonItemsOpenOnlyRightAfterNamedColon", spec := "fnJsonItemsOpenOnlyRightAfterNamedColon", make := .lifted ["publicsums"], apart := false }
def FnJsonItemsOpenOnlyRightAfterNamedColonSaid : Prop := fnJsonItemsOpenOnlyRightAfterNamedColonRow.holds Trym.pinned (OpenSpec.ofChange fnJsonItemsOpenOnlyRightAfterNamedColonSpec)

/-- ITS FALSE NEIGHBOUR: 'it returns false'. Refute it at one input. -/
def fnJsonItemsOpenOnlyRightAfterNamedColonWrong : ChangeSpec := { name := "fnJsonItemsOpenOnlyRightAfterNamedColon", fn := fun _ => fun
  | [d1, d2, d3, d4, d5] => { results := [.lit (.bool false)], args := [d1, d2, d3, d4, d5] }
  | _ => none }
def FnJsonItemsOpenOnlyRightAfterNamedColonWrongFalsely : Prop := fnJsonItemsOpenOnlyRightAfterNamedColonRow.holds Trym.pinned (OpenSpec.ofChange fnJsonItemsOpenOnlyRightAfterNamedColonWrong)

/-- 'zzlaws_internal_inputfile_b1.FnYamlSecondLineEndChangesNothing': WHATEVER THE INPUT: true; the input reads as it did. -/
def fnYamlSecondLineEndChangesNothingSpec : ChangeSpec := { name := "fnYamlSecondLineEndChangesNothing", fn := fun _ => fun
  | [d1, d2, d3, d4, d5, d6, d7, d8, d9] => { results := [.lit (.bool true)], args := [d1, d2, d3, d4, d5, d6, d7, d8, d9] }
  | _ => none }
def fnYamlSecondLineEndChangesNothingRow : OpenClaim := { program := "qxb6000990amods", sum := "bc0ceb35f5a3b147ebe2d2c8c4374d919b615a6787fb2a6692f68e7835c0928f", func := "example.com/nodewarden/nodewarden/zzlaws_internal_inputfile_b1.FnYamlSecondLineEndChangesNothing", spec := "fnYamlSecondLineEndChangesNothing", make := .lifted ["publicsums"], apart := false }
def FnYamlSecondLineEndChangesNothingSaid : Prop := fnYamlSecondLineEndChangesNothingRow.holds Trym.pinned (OpenSpec.ofChange fnYamlSecondLineEndChangesNothingSpec)

/-- ITS FALSE NEIGHBOUR: 'it returns false'. Refute it at one input. -/
def fnYamlSecondLineEndChangesNothingWrong : ChangeSpec := { name := "fnYamlSecondLineEndChangesNothing", fn := fun _ => fun
  | [d1, d2, d3, d4, d5, d6, d7, d8, d9] => { results := [.lit (.bool false)], args := [d1, d2, d3, d4, d5, d6, d7, d8, d9] }
  | _ => none }
def FnYamlSecondLineEndChangesNothingWrongFalsely : Prop := fnYamlSecondLineEndChangesNothingRow.holds Trym.pinned (OpenSpec.ofChange fnYamlSecondLineEndChangesNothingWrong)

end Rows
end Go.Proofs.Qxb6000990aMods
