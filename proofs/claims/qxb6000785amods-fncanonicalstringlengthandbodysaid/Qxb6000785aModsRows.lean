/-
  No cell of these rows narrows 'for every input' (looked for: loops, veiled, ifaces, maps, wideKeys, modest, calm, conditions, laid).
  DERIVED. THE GIVEN ROWS OF THIS SEAT. 6 by the template 'for every input the law returns true; each argument reads behind the call as it read before'; 0 by the template 'total and deterministic' (their statements: Qxb6000785aModsTotals.lean).
  GIVEN WITH THE SEED: the statements are not yours to turn. If you find one false, say at which input.
  Laid BY PROGRAM, IN A SANDBOX (cutbox-rows.mjs): the forced cells as the released guide's own fill.sh prints them over the translation 038dc948878d42b1… (all of the seat's roots in one cut). By AI agents, Wed Nov 11 2026. No macro, syntax, notation, axiom, sorry.
-/
import Derived.Test.Qxb6000785aModsChecked
import GoSem.Claim
import GoSem.ClaimJoined
import GoSem.ClaimMapViews
import Derived.JoinedTies
import Derived.KernelRfl
namespace Go.Proofs.Qxb6000785aMods
/- THE CELL 'sum', in the pinned program and in every row, IS THE sha256 OF THE DUMP (.gsa) THAT Qxb6000785aModsProg.lean LOADS. Nothing in Lean hashes anything: it is a label: what it is worth is what the hold of that sum in a sandbox is worth. -/
noncomputable def Trym.pinned : Pinned := { name := "qxb6000785amods", sum := "038dc948878d42b1601207e9cbe68c3572b056b61892154914d606db420ddd10", checked := Trym.checked }
namespace Rows
def none {H : Type} : Left H := { results := [], args := [] }

/-- 'zzlaws_pkg_gateway_b1.FnCanonicalStringSplitsBack': WHATEVER THE INPUT: true; the input reads as it did. -/
def fnCanonicalStringSplitsBackSpec : ChangeSpec := { name := "fnCanonicalStringSplitsBack", fn := fun _ => fun
  | [d1, d2, d3, d4, d5] => { results := [.lit (.bool true)], args := [d1, d2, d3, d4, d5] }
  | _ => none }
def fnCanonicalStringSplitsBackRow : OpenClaim := { program := "qxb6000785amods", sum := "038dc948878d42b1601207e9cbe68c3572b056b61892154914d606db420ddd10", func := "example.com/watchword/watchword/zzlaws_pkg_gateway_b1.FnCanonicalStringSplitsBack", spec := "fnCanonicalStringSplitsBack", make := .lifted ["publicsums"], apart := false }
def FnCanonicalStringSplitsBackSaid : Prop := fnCanonicalStringSplitsBackRow.holds Trym.pinned (OpenSpec.ofChange fnCanonicalStringSplitsBackSpec)

/-- ITS FALSE NEIGHBOUR: 'it returns false'. Refute it at one input. -/
def fnCanonicalStringSplitsBackWrong : ChangeSpec := { name := "fnCanonicalStringSplitsBack", fn := fun _ => fun
  | [d1, d2, d3, d4, d5] => { results := [.lit (.bool false)], args := [d1, d2, d3, d4, d5] }
  | _ => none }
def FnCanonicalStringSplitsBackWrongFalsely : Prop := fnCanonicalStringSplitsBackRow.holds Trym.pinned (OpenSpec.ofChange fnCanonicalStringSplitsBackWrong)

/-- 'zzlaws_pkg_gateway_b1.FnCanonicalStringLengthAndBody': WHATEVER THE INPUT: true; the input reads as it did. -/
def fnCanonicalStringLengthAndBodySpec : ChangeSpec := { name := "fnCanonicalStringLengthAndBody", fn := fun _ => fun
  | [d1, d2, d3, d4, d5] => { results := [.lit (.bool true)], args := [d1, d2, d3, d4, d5] }
  | _ => none }
def fnCanonicalStringLengthAndBodyRow : OpenClaim := { program := "qxb6000785amods", sum := "038dc948878d42b1601207e9cbe68c3572b056b61892154914d606db420ddd10", func := "example.com/watchword/watchword/zzlaws_pkg_gateway_b1.FnCanonicalStringLengthAndBody", spec := "fnCanonicalStringLengthAndBody", make := .lifted ["publicsums"], apart := false }
def FnCanonicalStringLengthAndBodySaid : Prop := fnCanonicalStringLengthAndBodyRow.holds Trym.pinned (OpenSpec.ofChange fnCanonicalStringLengthAndBodySpec)

/-- ITS FALSE NEIGHBOUR: 'it returns false'. Refute it at one input. -/
def fnCanonicalStringLengthAndBodyWrong : ChangeSpec := { name := "fnCanonicalStringLengthAndBody", fn := fun _ => fun
  | [d1, d2, d3, d4, d5] => { results := [.lit (.bool false)], args := [d1, d2, d3, d4, d5] }
  | _ => none }
def FnCanonicalStringLengthAndBodyWrongFalsely : Prop := fnCanonicalStringLengthAndBodyRow.holds Trym.pinned (OpenSpec.ofChange fnCanonicalStringLengthAndBodyWrong)

/-- 'zzlaws_pkg_gateway_b1.FnCanonicalStringFreshBuffer': WHATEVER THE INPUT: true; the input reads as it did. -/
def fnCanonicalStringFreshBufferSpec : ChangeSpec := { name := "fnCanonicalStringFreshBuffer", fn := fun _ => fun
  | [d1, d2, d3, d4, d5] => { results := [.lit (.bool true)], args := [d1, d2, d3, d4, d5] }
  | _ => none }
def fnCanonicalStringFreshBufferRow : OpenClaim := { program := "qxb6000785amods", sum := "038dc948878d42b1601207e9cbe68c3572b056b61892154914d606db420ddd10", func := "example.com/watchword/watchword/zzlaws_pkg_gateway_b1.FnCanonicalStringFreshBuffer", spec := "fnCanonicalStringFreshBuffer", make := .lifted ["publicsums"], apart := false }
def FnCanonicalStringFreshBufferSaid : Prop := fnCanonicalStringFreshBufferRow.holds Trym.pinned (OpenSpec.ofChange fnCanonicalStringFreshBufferSpec)

/-- ITS FALSE NEIGHBOUR: 'it returns false'. Refute it at one input. -/
def fnCanonicalStringFreshBufferWrong : ChangeSpec := { name := "fnCanonicalStringFreshBuffer", fn := fun _ => fun
  | [d1, d2, d3, d4, d5] => { results := [.lit (.bool false)], args := [d1, d2, d3, d4, d5] }
  | _ => none }
def FnCanonicalStringFreshBufferWrongFalsely : Prop := fnCanonicalStringFreshBufferRow.holds Trym.pinned (OpenSpec.ofChange fnCanonicalStringFreshBufferWrong)

/-- 'zzlaws_pkg_gateway_b1.FnValidNonceMonotoneAndTight': WHATEVER THE INPUT: true; the input reads as it did. -/
def fnValidNonceMonotoneAndTightSpec : ChangeSpec := { name := "fnValidNonceMonotoneAndTight", fn := fun _ => fun
  | [d1, d2, d3] => { results := [.lit (.bool true)], args := [d1, d2, d3] }
  | _ => none }
def fnValidNonceMonotoneAndTightRow : OpenClaim := { program := "qxb6000785amods", sum := "038dc948878d42b1601207e9cbe68c3572b056b61892154914d606db420ddd10", func := "example.com/watchword/watchword/zzlaws_pkg_gateway_b1.FnValidNonceMonotoneAndTight", spec := "fnValidNonceMonotoneAndTight", make := .lifted ["publicsums"], apart := false }
def FnValidNonceMonotoneAndTightSaid : Prop := fnValidNonceMonotoneAndTightRow.holds Trym.pinned (OpenSpec.ofChange fnValidNonceMonotoneAndTightSpec)

/-- ITS FALSE NEIGHBOUR: 'it returns false'. Refute it at one input. -/
def fnValidNonceMonotoneAndTightWrong : ChangeSpec := { name := "fnValidNonceMonotoneAndTight", fn := fun _ => fun
  | [d1, d2, d3] => { results := [.lit (.bool false)], args := [d1, d2, d3] }
  | _ => none }
def FnValidNonceMonotoneAndTightWrongFalsely : Prop := fnValidNonceMonotoneAndTightRow.holds Trym.pinned (OpenSpec.ofChange fnValidNonceMonotoneAndTightWrong)

/-- 'zzlaws_pkg_gateway_b1.FnValidNonceSubstring': WHATEVER THE INPUT: true; the input reads as it did. -/
def fnValidNonceSubstringSpec : ChangeSpec := { name := "fnValidNonceSubstring", fn := fun _ => fun
  | [d1, d2, d3, d4] => { results := [.lit (.bool true)], args := [d1, d2, d3, d4] }
  | _ => none }
def fnValidNonceSubstringRow : OpenClaim := { program := "qxb6000785amods", sum := "038dc948878d42b1601207e9cbe68c3572b056b61892154914d606db420ddd10", func := "example.com/watchword/watchword/zzlaws_pkg_gateway_b1.FnValidNonceSubstring", spec := "fnValidNonceSubstring", make := .lifted ["publicsums"], apart := false }
def FnValidNonceSubstringSaid : Prop := fnValidNonceSubstringRow.holds Trym.pinned (OpenSpec.ofChange fnValidNonceSubstringSpec)

/-- ITS FALSE NEIGHBOUR: 'it returns false'. Refute it at one input. -/
def fnValidNonceSubstringWrong : ChangeSpec := { name := "fnValidNonceSubstring", fn := fun _ => fun
  | [d1, d2, d3, d4] => { results := [.lit (.bool false)], args := [d1, d2, d3, d4] }
  | _ => none }
def FnValidNonceSubstringWrongFalsely : Prop := fnValidNonceSubstringRow.holds Trym.pinned (OpenSpec.ofChange fnValidNonceSubstringWrong)

/-- 'zzlaws_pkg_gateway_b1.FnValidNonceRefusesUnprintableByte': WHATEVER THE INPUT: true; the input reads as it did. -/
def fnValidNonceRefusesUnprintableByteSpec : ChangeSpec := { name := "fnValidNonceRefusesUnprintableByte", fn := fun _ => fun
  | [d1, d2, d3, d4] => { results := [.lit (.bool true)], args := [d1, d2, d3, d4] }
  | _ => none }
def fnValidNonceRefusesUnprintableByteRow : OpenClaim := { program := "qxb6000785amods", sum := "038dc948878d42b1601207e9cbe68c3572b056b61892154914d606db420ddd10", func := "example.com/watchword/watchword/zzlaws_pkg_gateway_b1.FnValidNonceRefusesUnprintableByte", spec := "fnValidNonceRefusesUnprintableByte", make := .lifted ["publicsums"], apart := false }
def FnValidNonceRefusesUnprintableByteSaid : Prop := fnValidNonceRefusesUnprintableByteRow.holds Trym.pinned (OpenSpec.ofChange fnValidNonceRefusesUnprintableByteSpec)

/-- ITS FALSE NEIGHBOUR: 'it returns false'. Refute it at one input. -/
def fnValidNonceRefusesUnprintableByteWrong : ChangeSpec := { name := "fnValidNonceRefusesUnprintableByte", fn := fun _ => fun
  | [d1, d2, d3, d4] => { results := [.lit (.bool false)], args := [d1, d2, d3, d4] }
  | _ => none }
def FnValidNonceRefusesUnprintableByteWrongFalsely : Prop := fnValidNonceRefusesUnprintableByteRow.holds Trym.pinned (OpenSpec.ofChange fnValidNonceRefusesUnprintableByteWrong)

end Rows
end Go.Proofs.Qxb6000785aMods
