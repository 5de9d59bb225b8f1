/-
  DERIVED. GIVEN WITH THE SEED: THE CARDS: each row of YtngbhojjjkdofaaDoorRows.lean that lists a variable, with what it lists TIED to the program's text (the seventh form; the later family's looks); each row that meets fmt, with fmt's text TOLD by the authors' own Lean function (tested against real Go, not proved from fmt's source: count such statements apart). THE CARD IS WHAT COUNTS. Prove the row's statement (the work); the ties are given (YtngbhojjjkdofaaDoorTie.lean); close each card by the builder's one call (the guide's Derived/Test/ToyasCard.lean, 'card_holds'). Laid BY PROGRAM, IN A SANDBOX (cutbox-door.mjs). By AI agents, Wed Nov 11 2026. No macro, syntax, notation, axiom, sorry.
-/
import Derived.Test.YtngbhojjjkdofaaDoorRows
import GoSem.ClaimSeven
namespace Go.Proofs.YtngbhojjjkdofaaDoor
namespace Rows

/-- THE TIED CARD OF 'laws.FnVtBytes'. -/
def fnVtBytesCard : Claim7 := { stood := { row := fnVtBytesRow, standIns := [], harness := (true, "d35e7acbb163d800b6f9af3a4f8c5c8295e0e3aae55ece3f5a4c54f67c82a053"), looks := true }, kinds := [], alts := [], laidByText := true, laidKinds := [.data, .data, .data, .sentinel, .sentinel], laidTests := true, laidLooks := .later }
def FnVtBytesCardSaid : Prop := Claim7.holds Tryd.pinned (.plain (OpenSpec.ofChange fnVtBytesSpec)) fnVtBytesCard

/-- THE TIED CARD OF 'laws.FnVtBytesHex'. -/
def fnVtBytesHexCard : Claim7 := { stood := { row := fnVtBytesHexRow, standIns := [], harness := (true, "d35e7acbb163d800b6f9af3a4f8c5c8295e0e3aae55ece3f5a4c54f67c82a053"), looks := true }, kinds := [], alts := [], laidByText := true, laidKinds := [.data, .data, .data, .sentinel, .sentinel], laidTests := true, laidLooks := .later }
def FnVtBytesHexCardSaid : Prop := Claim7.holds Tryd.pinned (.plain (OpenSpec.ofChange fnVtBytesHexSpec)) fnVtBytesHexCard

/-- THE SECOND FORM's CARD OF 'laws.FnVtBytes'. -/
def fnVtBytesUptoCard : Claim7 := { stood := { row := fnVtBytesUptoRow, standIns := [], harness := (true, "d35e7acbb163d800b6f9af3a4f8c5c8295e0e3aae55ece3f5a4c54f67c82a053"), looks := true }, kinds := [], alts := [], laidByText := true, laidKinds := [.data, .data, .data, .sentinel, .sentinel], laidTests := true, laidLooks := .later }
def FnVtBytesUptoCardSaid : Prop := Claim7.holds Tryd.pinned (.plain (OpenSpec.upto fnVtBytesSpec)) fnVtBytesUptoCard

/-- THE SECOND FORM's CARD OF 'laws.FnVtBytesHex'. -/
def fnVtBytesHexUptoCard : Claim7 := { stood := { row := fnVtBytesHexUptoRow, standIns := [], harness := (true, "d35e7acbb163d800b6f9af3a4f8c5c8295e0e3aae55ece3f5a4c54f67c82a053"), looks := true }, kinds := [], alts := [], laidByText := true, laidKinds := [.data, .data, .data, .sentinel, .sentinel], laidTests := true, laidLooks := .later }
def FnVtBytesHexUptoCardSaid : Prop := Claim7.holds Tryd.pinned (.plain (OpenSpec.upto fnVtBytesHexSpec)) fnVtBytesHexUptoCard
end Rows
end Go.Proofs.YtngbhojjjkdofaaDoor
