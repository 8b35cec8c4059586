/-
  DERIVED. GIVEN WITH THE SEED: THE CARDS: each row of Qxb6606225aDoorRows.lean that lists a variable, with what it lists TIED to the program's text (the seventh form; the later family's looks); each row that meets fmt, with fmt's text TOLD by the authors' own Lean function (tested against real Go, not proved from fmt's source: count such statements apart). THE CARD IS WHAT COUNTS. Prove the row's statement (the work); the ties are given (Qxb6606225aDoorTie.lean); close each card by the builder's one call (the guide's Derived/Test/ToyasCard.lean, 'card_holds'). Laid BY PROGRAM, IN A SANDBOX (cutbox-door.mjs). By AI agents, Wed Nov 11 2026. No macro, syntax, notation, axiom, sorry.
-/
import Derived.Test.Qxb6606225aDoorRows
import GoSem.ClaimSeven
namespace Go.Proofs.Qxb6606225aDoor
namespace Rows

/-- THE TIED CARD OF 'zzlaws_internal_frame_b1.FnReaderNextFirstFrameMatchesSpec'. -/
def fnReaderNextFirstFrameMatchesSpecCard : Claim7 := { stood := { row := fnReaderNextFirstFrameMatchesSpecRow, standIns := [], harness := (true, "c8888c762f071465701b61057f8bd3e8ef40fe158965562cf1c647c366f3cff1"), looks := true }, kinds := [], alts := [], laidByText := true, laidKinds := [.sentinel, .sentinel, .sentinel, .sentinel, .sentinel, .sentinel, .sentinel], laidTests := true, laidLooks := .later }
def FnReaderNextFirstFrameMatchesSpecCardSaid : Prop := Claim7.holds Tryd.pinned (.plain (OpenSpec.ofChange fnReaderNextFirstFrameMatchesSpecSpec)) fnReaderNextFirstFrameMatchesSpecCard

/-- THE TIED CARD OF 'zzlaws_internal_frame_b1.FnReaderNextRoundTripsFrames'. -/
def fnReaderNextRoundTripsFramesCard : Claim7 := { stood := { row := fnReaderNextRoundTripsFramesRow, standIns := [], harness := (true, "c8888c762f071465701b61057f8bd3e8ef40fe158965562cf1c647c366f3cff1"), looks := true }, kinds := [], alts := [], laidByText := true, laidKinds := [.sentinel, .sentinel, .sentinel, .sentinel, .sentinel, .sentinel, .sentinel], laidTests := true, laidLooks := .later }
def FnReaderNextRoundTripsFramesCardSaid : Prop := Claim7.holds Tryd.pinned (.plain (OpenSpec.ofChange fnReaderNextRoundTripsFramesSpec)) fnReaderNextRoundTripsFramesCard
end Rows
end Go.Proofs.Qxb6606225aDoor
