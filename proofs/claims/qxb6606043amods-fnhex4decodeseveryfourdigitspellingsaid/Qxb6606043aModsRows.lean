/-
  No cell of these rows narrows 'for every input' (looked for: loops, veiled, ifaces, maps, wideKeys, modest, calm, conditions, laid).
  DERIVED. THE GIVEN ROWS OF THIS SEAT. 3 by the template 'for every input the law returns true; each argument reads behind the call as it read before'; 0 by the template 'total and deterministic' (their statements: Qxb6606043aModsTotals.lean).
  GIVEN WITH THE SEED: the statements are not yours to turn. If you find one false, say at which input.
  Laid BY PROGRAM, IN A SANDBOX (cutbox-rows.mjs): the forced cells as the released guide's own fill.sh prints them over the translation dae1b5a02af8cb53… (all of the seat's roots in one cut). By AI agents, Wed Nov 11 2026. No macro, syntax, notation, axiom, sorry.
-/
import Derived.Test.Qxb6606043aModsChecked
import GoSem.Claim
import GoSem.ClaimJoined
import GoSem.ClaimMapViews
import Derived.JoinedTies
import Derived.KernelRfl
namespace Go.Proofs.Qxb6606043aMods
/- THE CELL 'sum', in the pinned program and in every row, IS THE sha256 OF THE DUMP (.gsa) THAT Qxb6606043aModsProg.lean LOADS. Nothing in Lean hashes anything: it is a label: what it is worth is what the hold of that sum in a sandbox is worth. -/
noncomputable def Trym.pinned : Pinned := { name := "qxb6606043amods", sum := "dae1b5a02af8cb5310e670e7d0d32d77d24b96a70dbb10438f2d1c57b0ba793e", checked := Trym.checked }
namespace Rows
def none {H : Type} : Left H := { results := [], args := [] }

/-- 'zzlaws_mcp_b1.FnHex4MatchesDigitTable': WHATEVER THE INPUT: true; the input reads as it did. -/
def fnHex4MatchesDigitTableSpec : ChangeSpec := { name := "fnHex4MatchesDigitTable", fn := fun _ => fun
  | [d1, d2] => { results := [.lit (.bool true)], args := [d1, d2] }
  | _ => none }
def fnHex4MatchesDigitTableRow : OpenClaim := { program := "qxb6606043amods", sum := "dae1b5a02af8cb5310e670e7d0d32d77d24b96a70dbb10438f2d1c57b0ba793e", func := "example.com/triagewright/triagewright/zzlaws_mcp_b1.FnHex4MatchesDigitTable", spec := "fnHex4MatchesDigitTable", make := .lifted ["publicsums"], apart := false }
def FnHex4MatchesDigitTableSaid : Prop := fnHex4MatchesDigitTableRow.holds Trym.pinned (OpenSpec.ofChange fnHex4MatchesDigitTableSpec)

/-- ITS FALSE NEIGHBOUR: 'it returns false'. Refute it at one input. -/
def fnHex4MatchesDigitTableWrong : ChangeSpec := { name := "fnHex4MatchesDigitTable", fn := fun _ => fun
  | [d1, d2] => { results := [.lit (.bool false)], args := [d1, d2] }
  | _ => none }
def FnHex4MatchesDigitTableWrongFalsely : Prop := fnHex4MatchesDigitTableRow.holds Trym.pinned (OpenSpec.ofChange fnHex4MatchesDigitTableWrong)

/-- 'zzlaws_mcp_b1.FnHex4DecodesEveryFourDigitSpelling': WHATEVER THE INPUT: true; the input reads as it did. -/
def fnHex4DecodesEveryFourDigitSpellingSpec : ChangeSpec := { name := "fnHex4DecodesEveryFourDigitSpelling", fn := fun _ => fun
  | [d1, d2, d3, d4] => { results := [.lit (.bool true)], args := [d1, d2, d3, d4] }
  | _ => none }
def fnHex4DecodesEveryFourDigitSpellingRow : OpenClaim := { program := "qxb6606043amods", sum := "dae1b5a02af8cb5310e670e7d0d32d77d24b96a70dbb10438f2d1c57b0ba793e", func := "example.com/triagewright/triagewright/zzlaws_mcp_b1.FnHex4DecodesEveryFourDigitSpelling", spec := "fnHex4DecodesEveryFourDigitSpelling", make := .lifted ["publicsums"], apart := false }
def FnHex4DecodesEveryFourDigitSpellingSaid : Prop := fnHex4DecodesEveryFourDigitSpellingRow.holds Trym.pinned (OpenSpec.ofChange fnHex4DecodesEveryFourDigitSpellingSpec)

/-- ITS FALSE NEIGHBOUR: 'it returns false'. Refute it at one input. -/
def fnHex4DecodesEveryFourDigitSpellingWrong : ChangeSpec := { name := "fnHex4DecodesEveryFourDigitSpelling", fn := fun _ => fun
  | [d1, d2, d3, d4] => { results := [.lit (.bool false)], args := [d1, d2, d3, d4] }
  | _ => none }
def FnHex4DecodesEveryFourDigitSpellingWrongFalsely : Prop := fnHex4DecodesEveryFourDigitSpellingRow.holds Trym.pinned (OpenSpec.ofChange fnHex4DecodesEveryFourDigitSpellingWrong)

/-- 'zzlaws_mcp_b1.FnHex4ReadsOnlyItsFourBytes': WHATEVER THE INPUT: true; the input reads as it did. -/
def fnHex4ReadsOnlyItsFourBytesSpec : ChangeSpec := { name := "fnHex4ReadsOnlyItsFourBytes", fn := fun _ => fun
  | [d1, d2] => { results := [.lit (.bool true)], args := [d1, d2] }
  | _ => none }
def fnHex4ReadsOnlyItsFourBytesRow : OpenClaim := { program := "qxb6606043amods", sum := "dae1b5a02af8cb5310e670e7d0d32d77d24b96a70dbb10438f2d1c57b0ba793e", func := "example.com/triagewright/triagewright/zzlaws_mcp_b1.FnHex4ReadsOnlyItsFourBytes", spec := "fnHex4ReadsOnlyItsFourBytes", make := .lifted ["publicsums"], apart := false }
def FnHex4ReadsOnlyItsFourBytesSaid : Prop := fnHex4ReadsOnlyItsFourBytesRow.holds Trym.pinned (OpenSpec.ofChange fnHex4ReadsOnlyItsFourBytesSpec)

/-- ITS FALSE NEIGHBOUR: 'it returns false'. Refute it at one input. -/
def fnHex4ReadsOnlyItsFourBytesWrong : ChangeSpec := { name := "fnHex4ReadsOnlyItsFourBytes", fn := fun _ => fun
  | [d1, d2] => { results := [.lit (.bool false)], args := [d1, d2] }
  | _ => none }
def FnHex4ReadsOnlyItsFourBytesWrongFalsely : Prop := fnHex4ReadsOnlyItsFourBytesRow.holds Trym.pinned (OpenSpec.ofChange fnHex4ReadsOnlyItsFourBytesWrong)

end Rows
end Go.Proofs.Qxb6606043aMods
