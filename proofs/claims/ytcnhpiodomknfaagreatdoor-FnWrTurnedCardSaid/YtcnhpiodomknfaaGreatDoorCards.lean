/-
  DERIVED. GIVEN WITH THE SEED: THE CARDS: each row of YtcnhpiodomknfaaGreatDoorRows.lean that lists a variable, with what it lists TIED to the program's text (the seventh form; the later family's looks); each row that meets fmt, with fmt's text TOLD by the authors' own Lean function (tested against real Go, not proved from fmt's source: count such statements apart). THE CARD IS WHAT COUNTS. Prove the row's statement (the work); the ties are given (YtcnhpiodomknfaaGreatDoorTie.lean); close each card by the builder's one call (the guide's Derived/Test/ToyasCard.lean, 'card_holds'). Laid BY PROGRAM, IN A SANDBOX (cutbox-door.mjs). By AI agents, Wed Nov 11 2026. No macro, syntax, notation, axiom, sorry.
-/
import Derived.Test.YtcnhpiodomknfaaGreatDoorRows
import GoSem.ClaimSeven
namespace Go.Proofs.YtcnhpiodomknfaaGreatDoor
namespace Rows

/-- THE TIED CARD OF 'laws.FnWrTurned'. -/
def fnWrTurnedCard : Claim7 := { stood := { row := fnWrTurnedRow, standIns := [], harness := (true, "faec567968cf0df178891a4e5bf9c2d2fd11c3fb7c1080acd70c75e571b6dace"), looks := true }, kinds := [], alts := [], laidByText := true, laidKinds := [.data, .sentinel, .sentinel, .pinned], laidTests := true, laidLooks := .later }
def FnWrTurnedCardSaid : Prop := Claim7.holds Tryz.pinned (.plain (OpenSpec.ofChange fnWrTurnedSpec)) fnWrTurnedCard

/-- THE SECOND FORM's CARD OF 'laws.FnWrTurned'. -/
def fnWrTurnedUptoCard : Claim7 := { stood := { row := fnWrTurnedUptoRow, standIns := [], harness := (true, "faec567968cf0df178891a4e5bf9c2d2fd11c3fb7c1080acd70c75e571b6dace"), looks := true }, kinds := [], alts := [], laidByText := true, laidKinds := [.data, .sentinel, .sentinel, .pinned], laidTests := true, laidLooks := .later }
def FnWrTurnedUptoCardSaid : Prop := Claim7.holds Tryz.pinned (.plain (OpenSpec.upto fnWrTurnedSpec)) fnWrTurnedUptoCard
end Rows
end Go.Proofs.YtcnhpiodomknfaaGreatDoor
