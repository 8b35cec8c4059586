/-
  No cell of these rows narrows 'for every input' (looked for: loops, veiled, ifaces, maps, wideKeys, modest, calm, conditions, laid).
  DERIVED. THE GIVEN ROWS OF THIS SEAT. 3 by the template 'for every input the law returns true; each argument reads behind the call as it read before'; 0 by the template 'total and deterministic' (their statements: Qxb6606315aTotals.lean).
  GIVEN WITH THE SEED: the statements are not yours to turn. If you find one false, say at which input.
  Laid BY PROGRAM, IN A SANDBOX (cutbox-rows.mjs): the forced cells as the released guide's own fill.sh prints them over the translation 37f7e246d74a64ae… (all of the seat's roots in one cut). By AI agents, Wed Nov 11 2026. No macro, syntax, notation, axiom, sorry.
-/
import Derived.Test.Qxb6606315aChecked
import GoSem.Claim
import GoSem.ClaimJoined
import GoSem.ClaimMapViews
import Derived.JoinedTies
import Derived.KernelRfl
namespace Go.Proofs.Qxb6606315a
/- THE CELL 'sum', in the pinned program and in every row, IS THE sha256 OF THE DUMP (.gsa) THAT Qxb6606315aProg.lean LOADS. Nothing in Lean hashes anything: it is a label: what it is worth is what the hold of that sum in a sandbox is worth. -/
noncomputable def Try.pinned : Pinned := { name := "qxb6606315a", sum := "37f7e246d74a64aea96049d60e11b74a84dbf18237c4c70dfbdfaa64e4f47c4b", checked := Try.checked }
namespace Rows
def none {H : Type} : Left H := { results := [], args := [] }

/-- 'zzlaws_packet_b1.FnHex4IsEveryByteAHexDigit': WHATEVER THE INPUT: true; the input reads as it did. -/
def fnHex4IsEveryByteAHexDigitSpec : ChangeSpec := { name := "fnHex4IsEveryByteAHexDigit", fn := fun _ => fun
  | [d] => { results := [.lit (.bool true)], args := [d] }
  | _ => none }
def fnHex4IsEveryByteAHexDigitRow : OpenClaim := { program := "qxb6606315a", sum := "37f7e246d74a64aea96049d60e11b74a84dbf18237c4c70dfbdfaa64e4f47c4b", func := "example.com/wireloom/wireloom/zzlaws_packet_b1.FnHex4IsEveryByteAHexDigit", spec := "fnHex4IsEveryByteAHexDigit", apart := false }
def FnHex4IsEveryByteAHexDigitSaid : Prop := fnHex4IsEveryByteAHexDigitRow.holds Try.pinned (OpenSpec.ofChange fnHex4IsEveryByteAHexDigitSpec)

/-- ITS FALSE NEIGHBOUR: 'it returns false'. Refute it at one input. -/
def fnHex4IsEveryByteAHexDigitWrong : ChangeSpec := { name := "fnHex4IsEveryByteAHexDigit", fn := fun _ => fun
  | [d] => { results := [.lit (.bool false)], args := [d] }
  | _ => none }
def FnHex4IsEveryByteAHexDigitWrongFalsely : Prop := fnHex4IsEveryByteAHexDigitRow.holds Try.pinned (OpenSpec.ofChange fnHex4IsEveryByteAHexDigitWrong)

/-- 'zzlaws_packet_b1.FnHex4AcceptsEncodingsRefusesOneBadByte': WHATEVER THE INPUT: true; the input reads as it did. -/
def fnHex4AcceptsEncodingsRefusesOneBadByteSpec : ChangeSpec := { name := "fnHex4AcceptsEncodingsRefusesOneBadByte", fn := fun _ => fun
  | [d1, d2, d3, d4] => { results := [.lit (.bool true)], args := [d1, d2, d3, d4] }
  | _ => none }
def fnHex4AcceptsEncodingsRefusesOneBadByteRow : OpenClaim := { program := "qxb6606315a", sum := "37f7e246d74a64aea96049d60e11b74a84dbf18237c4c70dfbdfaa64e4f47c4b", func := "example.com/wireloom/wireloom/zzlaws_packet_b1.FnHex4AcceptsEncodingsRefusesOneBadByte", spec := "fnHex4AcceptsEncodingsRefusesOneBadByte", apart := false }
def FnHex4AcceptsEncodingsRefusesOneBadByteSaid : Prop := fnHex4AcceptsEncodingsRefusesOneBadByteRow.holds Try.pinned (OpenSpec.ofChange fnHex4AcceptsEncodingsRefusesOneBadByteSpec)

/-- ITS FALSE NEIGHBOUR: 'it returns false'. Refute it at one input. -/
def fnHex4AcceptsEncodingsRefusesOneBadByteWrong : ChangeSpec := { name := "fnHex4AcceptsEncodingsRefusesOneBadByte", fn := fun _ => fun
  | [d1, d2, d3, d4] => { results := [.lit (.bool false)], args := [d1, d2, d3, d4] }
  | _ => none }
def FnHex4AcceptsEncodingsRefusesOneBadByteWrongFalsely : Prop := fnHex4AcceptsEncodingsRefusesOneBadByteRow.holds Try.pinned (OpenSpec.ofChange fnHex4AcceptsEncodingsRefusesOneBadByteWrong)

/-- 'zzlaws_packet_b1.FnHex4SplitsOverConcatenation': WHATEVER THE INPUT: true; the input reads as it did. -/
def fnHex4SplitsOverConcatenationSpec : ChangeSpec := { name := "fnHex4SplitsOverConcatenation", fn := fun _ => fun
  | [d1, d2] => { results := [.lit (.bool true)], args := [d1, d2] }
  | _ => none }
def fnHex4SplitsOverConcatenationRow : OpenClaim := { program := "qxb6606315a", sum := "37f7e246d74a64aea96049d60e11b74a84dbf18237c4c70dfbdfaa64e4f47c4b", func := "example.com/wireloom/wireloom/zzlaws_packet_b1.FnHex4SplitsOverConcatenation", spec := "fnHex4SplitsOverConcatenation", apart := false }
def FnHex4SplitsOverConcatenationSaid : Prop := fnHex4SplitsOverConcatenationRow.holds Try.pinned (OpenSpec.ofChange fnHex4SplitsOverConcatenationSpec)

/-- ITS FALSE NEIGHBOUR: 'it returns false'. Refute it at one input. -/
def fnHex4SplitsOverConcatenationWrong : ChangeSpec := { name := "fnHex4SplitsOverConcatenation", fn := fun _ => fun
  | [d1, d2] => { results := [.lit (.bool false)], args := [d1, d2] }
  | _ => none }
def FnHex4SplitsOverConcatenationWrongFalsely : Prop := fnHex4SplitsOverConcatenationRow.holds Try.pinned (OpenSpec.ofChange fnHex4SplitsOverConcatenationWrong)

end Rows
end Go.Proofs.Qxb6606315a
