/-
  No cell of these rows narrows 'for every input' (looked for: loops, veiled, ifaces, maps, wideKeys, modest, calm, conditions, laid).
  DERIVED. THE GIVEN ROWS OF THIS SEAT. 3 by the template 'for every input the law returns true; each argument reads behind the call as it read before'; 0 by the template 'total and deterministic' (their statements: Qxb6606351aTotals.lean).
  GIVEN WITH THE SEED: the statements are not yours to turn. If you find one false, say at which input.
  Laid BY PROGRAM, IN A SANDBOX (cutbox-rows.mjs): the forced cells as the released guide's own fill.sh prints them over the translation e800a428906a4505… (all of the seat's roots in one cut). By AI agents, Wed Nov 11 2026. No macro, syntax, notation, axiom, sorry.
-/
import Derived.Test.Qxb6606351aChecked
import GoSem.Claim
import GoSem.ClaimJoined
import GoSem.ClaimMapViews
import Derived.JoinedTies
import Derived.KernelRfl
namespace Go.Proofs.Qxb6606351a
/- THE CELL 'sum', in the pinned program and in every row, IS THE sha256 OF THE DUMP (.gsa) THAT Qxb6606351aProg.lean LOADS. Nothing in Lean hashes anything: it is a label: what it is worth is what the hold of that sum in a sandbox is worth. -/
noncomputable def Try.pinned : Pinned := { name := "qxb6606351a", sum := "e800a428906a45051bf50b7d426aa00621383ff986ddd9274ecea15fd9921ff4", checked := Try.checked }
namespace Rows
def none {H : Type} : Left H := { results := [], args := [] }

/-- 'zzlaws_trace_b1.FnStampMaxAppendToIsEntrywiseMax': WHATEVER THE INPUT: true; the input reads as it did. -/
def fnStampMaxAppendToIsEntrywiseMaxSpec : ChangeSpec := { name := "fnStampMaxAppendToIsEntrywiseMax", fn := fun _ => fun
  | [d1, d2, d3, d4, d5, d6] => { results := [.lit (.bool true)], args := [d1, d2, d3, d4, d5, d6] }
  | _ => none }
def fnStampMaxAppendToIsEntrywiseMaxRow : OpenClaim := { program := "qxb6606351a", sum := "e800a428906a45051bf50b7d426aa00621383ff986ddd9274ecea15fd9921ff4", func := "example.com/happenstance/happenstance/zzlaws_trace_b1.FnStampMaxAppendToIsEntrywiseMax", spec := "fnStampMaxAppendToIsEntrywiseMax", apart := false }
def FnStampMaxAppendToIsEntrywiseMaxSaid : Prop := fnStampMaxAppendToIsEntrywiseMaxRow.holds Try.pinned (OpenSpec.ofChange fnStampMaxAppendToIsEntrywiseMaxSpec)

/-- ITS FALSE NEIGHBOUR: 'it returns false'. Refute it at one input. -/
def fnStampMaxAppendToIsEntrywiseMaxWrong : ChangeSpec := { name := "fnStampMaxAppendToIsEntrywiseMax", fn := fun _ => fun
  | [d1, d2, d3, d4, d5, d6] => { results := [.lit (.bool false)], args := [d1, d2, d3, d4, d5, d6] }
  | _ => none }
def FnStampMaxAppendToIsEntrywiseMaxWrongFalsely : Prop := fnStampMaxAppendToIsEntrywiseMaxRow.holds Try.pinned (OpenSpec.ofChange fnStampMaxAppendToIsEntrywiseMaxWrong)

/-- 'zzlaws_trace_b1.FnStampMaxSecondAppendToAddsNothing': WHATEVER THE INPUT: true; the input reads as it did. -/
def fnStampMaxSecondAppendToAddsNothingSpec : ChangeSpec := { name := "fnStampMaxSecondAppendToAddsNothing", fn := fun _ => fun
  | [d1, d2, d3, d4, d5, d6, d7] => { results := [.lit (.bool true)], args := [d1, d2, d3, d4, d5, d6, d7] }
  | _ => none }
def fnStampMaxSecondAppendToAddsNothingRow : OpenClaim := { program := "qxb6606351a", sum := "e800a428906a45051bf50b7d426aa00621383ff986ddd9274ecea15fd9921ff4", func := "example.com/happenstance/happenstance/zzlaws_trace_b1.FnStampMaxSecondAppendToAddsNothing", spec := "fnStampMaxSecondAppendToAddsNothing", apart := false }
def FnStampMaxSecondAppendToAddsNothingSaid : Prop := fnStampMaxSecondAppendToAddsNothingRow.holds Try.pinned (OpenSpec.ofChange fnStampMaxSecondAppendToAddsNothingSpec)

/-- ITS FALSE NEIGHBOUR: 'it returns false'. Refute it at one input. -/
def fnStampMaxSecondAppendToAddsNothingWrong : ChangeSpec := { name := "fnStampMaxSecondAppendToAddsNothing", fn := fun _ => fun
  | [d1, d2, d3, d4, d5, d6, d7] => { results := [.lit (.bool false)], args := [d1, d2, d3, d4, d5, d6, d7] }
  | _ => none }
def FnStampMaxSecondAppendToAddsNothingWrongFalsely : Prop := fnStampMaxSecondAppendToAddsNothingRow.holds Try.pinned (OpenSpec.ofChange fnStampMaxSecondAppendToAddsNothingWrong)

/-- 'zzlaws_trace_b1.FnStampMaxResultIsAfterEveryStamp': WHATEVER THE INPUT: true; the input reads as it did. -/
def fnStampMaxResultIsAfterEveryStampSpec : ChangeSpec := { name := "fnStampMaxResultIsAfterEveryStamp", fn := fun _ => fun
  | [d1, d2, d3, d4, d5, d6] => { results := [.lit (.bool true)], args := [d1, d2, d3, d4, d5, d6] }
  | _ => none }
def fnStampMaxResultIsAfterEveryStampRow : OpenClaim := { program := "qxb6606351a", sum := "e800a428906a45051bf50b7d426aa00621383ff986ddd9274ecea15fd9921ff4", func := "example.com/happenstance/happenstance/zzlaws_trace_b1.FnStampMaxResultIsAfterEveryStamp", spec := "fnStampMaxResultIsAfterEveryStamp", apart := false }
def FnStampMaxResultIsAfterEveryStampSaid : Prop := fnStampMaxResultIsAfterEveryStampRow.holds Try.pinned (OpenSpec.ofChange fnStampMaxResultIsAfterEveryStampSpec)

/-- ITS FALSE NEIGHBOUR: 'it returns false'. Refute it at one input. -/
def fnStampMaxResultIsAfterEveryStampWrong : ChangeSpec := { name := "fnStampMaxResultIsAfterEveryStamp", fn := fun _ => fun
  | [d1, d2, d3, d4, d5, d6] => { results := [.lit (.bool false)], args := [d1, d2, d3, d4, d5, d6] }
  | _ => none }
def FnStampMaxResultIsAfterEveryStampWrongFalsely : Prop := fnStampMaxResultIsAfterEveryStampRow.holds Try.pinned (OpenSpec.ofChange fnStampMaxResultIsAfterEveryStampWrong)

end Rows
end Go.Proofs.Qxb6606351a
