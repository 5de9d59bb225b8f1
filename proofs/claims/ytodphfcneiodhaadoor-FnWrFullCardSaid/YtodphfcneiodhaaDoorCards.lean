/-
  DERIVED. GIVEN WITH THE SEED: THE CARDS: each row of YtodphfcneiodhaaDoorRows.lean that lists a variable, with what it lists TIED to the program's text (the seventh form; the later family's looks); each row that meets fmt, with fmt's text TOLD by the authors' own Lean function (tested against real Go, not proved from fmt's source: count such statements apart). THE CARD IS WHAT COUNTS. Prove the row's statement (the work); the ties are given (YtodphfcneiodhaaDoorTie.lean); close each card by the builder's one call (the guide's Derived/Test/ToyasCard.lean, 'card_holds'). Laid BY PROGRAM, IN A SANDBOX (cutbox-door.mjs). By AI agents, Wed Nov 11 2026. No macro, syntax, notation, axiom, sorry.
-/
import Derived.Test.YtodphfcneiodhaaDoorRows
import GoSem.ClaimSeven
namespace Go.Proofs.YtodphfcneiodhaaDoor
namespace Rows

/-- THE TIED CARD OF 'laws.FnWrFull'. -/
def fnWrFullCard : Claim7 := { stood := { row := fnWrFullRow, standIns := [], harness := (true, "409a8d15279e6222e7c72f0d334ddc1f9092f7a8032c1b42bae7c03492e5aa0c"), looks := true }, kinds := [], alts := [], laidByText := true, laidKinds := [.sentinel, .sentinel, .sentinel], laidTests := true, laidLooks := .later }
def FnWrFullCardSaid : Prop := Claim7.holds Tryd.pinned (.plain (OpenSpec.ofChange fnWrFullSpec)) fnWrFullCard

/-- THE SECOND FORM's CARD OF 'laws.FnWrFull'. -/
def fnWrFullUptoCard : Claim7 := { stood := { row := fnWrFullUptoRow, standIns := [], harness := (true, "409a8d15279e6222e7c72f0d334ddc1f9092f7a8032c1b42bae7c03492e5aa0c"), looks := true }, kinds := [], alts := [], laidByText := true, laidKinds := [.sentinel, .sentinel, .sentinel], laidTests := true, laidLooks := .later }
def FnWrFullUptoCardSaid : Prop := Claim7.holds Tryd.pinned (.plain (OpenSpec.upto fnWrFullSpec)) fnWrFullUptoCard
end Rows
end Go.Proofs.YtodphfcneiodhaaDoor
