/-
  No cell of these rows narrows 'for every input' (looked for: loops, veiled, ifaces, maps, wideKeys, modest, calm, conditions, laid).
  DERIVED. THE GIVEN ROWS OF THIS SEAT. 4 by the template 'for every input the law returns true; each argument reads behind the call as it read before'; 0 by the template 'total and deterministic' (their statements: Qxb6606318aTotals.lean).
  GIVEN WITH THE SEED: the statements are not yours to turn. If you find one false, say at which input.
  Laid BY PROGRAM, IN A SANDBOX (cutbox-rows.mjs): the forced cells as the released guide's own fill.sh prints them over the translation 74f4294488e6a024… (all of the seat's roots in one cut). By AI agents, Wed Nov 11 2026. No macro, syntax, notation, axiom, sorry.
-/
import Derived.Test.Qxb6606318aChecked
import GoSem.Claim
import GoSem.ClaimJoined
import GoSem.ClaimMapViews
import Derived.JoinedTies
import Derived.KernelRfl
namespace Go.Proofs.Qxb6606318a
/- THE CELL 'sum', in the pinned program and in every row, IS THE sha256 OF THE DUMP (.gsa) THAT Qxb6606318aProg.lean LOADS. Nothing in Lean hashes anything: it is a label: what it is worth is what the hold of that sum in a sandbox is worth. -/
noncomputable def Try.pinned : Pinned := { name := "qxb6606318a", sum := "74f4294488e6a024743d49b21a794a13cadf9077262d85687ae9ecd0f7e10bd8", checked := Try.checked }
namespace Rows
def none {H : Type} : Left H := { results := [], args := [] }

/-- 'zzlaws_internal_jsonform_b1.FnReaderIntReadsBackDecimal': WHATEVER THE INPUT: true; the input reads as it did. -/
def fnReaderIntReadsBackDecimalSpec : ChangeSpec := { name := "fnReaderIntReadsBackDecimal", fn := fun _ => fun
  | [d1, d2] => { results := [.lit (.bool true)], args := [d1, d2] }
  | _ => none }
def fnReaderIntReadsBackDecimalRow : OpenClaim := { program := "qxb6606318a", sum := "74f4294488e6a024743d49b21a794a13cadf9077262d85687ae9ecd0f7e10bd8", func := "example.com/careful-courier/careful-courier/zzlaws_internal_jsonform_b1.FnReaderIntReadsBackDecimal", spec := "fnReaderIntReadsBackDecimal", apart := false }
def FnReaderIntReadsBackDecimalSaid : Prop := fnReaderIntReadsBackDecimalRow.holds Try.pinned (OpenSpec.ofChange fnReaderIntReadsBackDecimalSpec)

/-- ITS FALSE NEIGHBOUR: 'it returns false'. Refute it at one input. -/
def fnReaderIntReadsBackDecimalWrong : ChangeSpec := { name := "fnReaderIntReadsBackDecimal", fn := fun _ => fun
  | [d1, d2] => { results := [.lit (.bool false)], args := [d1, d2] }
  | _ => none }
def FnReaderIntReadsBackDecimalWrongFalsely : Prop := fnReaderIntReadsBackDecimalRow.holds Try.pinned (OpenSpec.ofChange fnReaderIntReadsBackDecimalWrong)

/-- 'zzlaws_internal_jsonform_b1.FnSpaceMatchesSpec': WHATEVER THE INPUT: true; the input reads as it did. -/
def fnSpaceMatchesSpecSpec : ChangeSpec := { name := "fnSpaceMatchesSpec", fn := fun _ => fun
  | [d1, d2, d3, d4] => { results := [.lit (.bool true)], args := [d1, d2, d3, d4] }
  | _ => none }
def fnSpaceMatchesSpecRow : OpenClaim := { program := "qxb6606318a", sum := "74f4294488e6a024743d49b21a794a13cadf9077262d85687ae9ecd0f7e10bd8", func := "example.com/careful-courier/careful-courier/zzlaws_internal_jsonform_b1.FnSpaceMatchesSpec", spec := "fnSpaceMatchesSpec", apart := false }
def FnSpaceMatchesSpecSaid : Prop := fnSpaceMatchesSpecRow.holds Try.pinned (OpenSpec.ofChange fnSpaceMatchesSpecSpec)

/-- ITS FALSE NEIGHBOUR: 'it returns false'. Refute it at one input. -/
def fnSpaceMatchesSpecWrong : ChangeSpec := { name := "fnSpaceMatchesSpec", fn := fun _ => fun
  | [d1, d2, d3, d4] => { results := [.lit (.bool false)], args := [d1, d2, d3, d4] }
  | _ => none }
def FnSpaceMatchesSpecWrongFalsely : Prop := fnSpaceMatchesSpecRow.holds Try.pinned (OpenSpec.ofChange fnSpaceMatchesSpecWrong)

/-- 'zzlaws_internal_jsonform_b1.FnSpaceIdempotent': WHATEVER THE INPUT: true; the input reads as it did. -/
def fnSpaceIdempotentSpec : ChangeSpec := { name := "fnSpaceIdempotent", fn := fun _ => fun
  | [d1, d2, d3, d4] => { results := [.lit (.bool true)], args := [d1, d2, d3, d4] }
  | _ => none }
def fnSpaceIdempotentRow : OpenClaim := { program := "qxb6606318a", sum := "74f4294488e6a024743d49b21a794a13cadf9077262d85687ae9ecd0f7e10bd8", func := "example.com/careful-courier/careful-courier/zzlaws_internal_jsonform_b1.FnSpaceIdempotent", spec := "fnSpaceIdempotent", apart := false }
def FnSpaceIdempotentSaid : Prop := fnSpaceIdempotentRow.holds Try.pinned (OpenSpec.ofChange fnSpaceIdempotentSpec)

/-- ITS FALSE NEIGHBOUR: 'it returns false'. Refute it at one input. -/
def fnSpaceIdempotentWrong : ChangeSpec := { name := "fnSpaceIdempotent", fn := fun _ => fun
  | [d1, d2, d3, d4] => { results := [.lit (.bool false)], args := [d1, d2, d3, d4] }
  | _ => none }
def FnSpaceIdempotentWrongFalsely : Prop := fnSpaceIdempotentRow.holds Try.pinned (OpenSpec.ofChange fnSpaceIdempotentWrong)

/-- 'zzlaws_internal_jsonform_b1.FnSpaceSameEndFromInside': WHATEVER THE INPUT: true; the input reads as it did. -/
def fnSpaceSameEndFromInsideSpec : ChangeSpec := { name := "fnSpaceSameEndFromInside", fn := fun _ => fun
  | [d1, d2, d3, d4, d5] => { results := [.lit (.bool true)], args := [d1, d2, d3, d4, d5] }
  | _ => none }
def fnSpaceSameEndFromInsideRow : OpenClaim := { program := "qxb6606318a", sum := "74f4294488e6a024743d49b21a794a13cadf9077262d85687ae9ecd0f7e10bd8", func := "example.com/careful-courier/careful-courier/zzlaws_internal_jsonform_b1.FnSpaceSameEndFromInside", spec := "fnSpaceSameEndFromInside", apart := false }
def FnSpaceSameEndFromInsideSaid : Prop := fnSpaceSameEndFromInsideRow.holds Try.pinned (OpenSpec.ofChange fnSpaceSameEndFromInsideSpec)

/-- ITS FALSE NEIGHBOUR: 'it returns false'. Refute it at one input. -/
def fnSpaceSameEndFromInsideWrong : ChangeSpec := { name := "fnSpaceSameEndFromInside", fn := fun _ => fun
  | [d1, d2, d3, d4, d5] => { results := [.lit (.bool false)], args := [d1, d2, d3, d4, d5] }
  | _ => none }
def FnSpaceSameEndFromInsideWrongFalsely : Prop := fnSpaceSameEndFromInsideRow.holds Try.pinned (OpenSpec.ofChange fnSpaceSameEndFromInsideWrong)

end Rows
end Go.Proofs.Qxb6606318a
