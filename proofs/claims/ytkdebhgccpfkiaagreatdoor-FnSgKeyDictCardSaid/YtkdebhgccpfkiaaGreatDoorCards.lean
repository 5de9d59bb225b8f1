/-
  DERIVED. GIVEN WITH THE SEED: THE CARDS: each row of YtkdebhgccpfkiaaGreatDoorRows.lean that lists a variable, with what it lists TIED to the program's text (the seventh form; the later family's looks); each row that meets fmt, with fmt's text TOLD by the authors' own Lean function (tested against real Go, not proved from fmt's source: count such statements apart). THE CARD IS WHAT COUNTS. Prove the row's statement (the work); the ties are given (YtkdebhgccpfkiaaGreatDoorTie.lean); close each card by the builder's one call (the guide's Derived/Test/ToyasCard.lean, 'card_holds'). Laid BY PROGRAM, IN A SANDBOX (cutbox-door.mjs). By AI agents, Wed Nov 11 2026. No macro, syntax, notation, axiom, sorry.
-/
import Derived.Test.YtkdebhgccpfkiaaGreatDoorRows
import GoSem.ClaimSeven
namespace Go.Proofs.YtkdebhgccpfkiaaGreatDoor
namespace Rows

/-- THE TIED CARD OF 'laws.FnSgKeyDict'. -/
def fnSgKeyDictCard : Claim7 := { stood := { row := fnSgKeyDictRow, standIns := [], harness := (true, "121d7ee7f0fad305de8fcb6da79cc094dd3129c37a5ee805f4b6fb67601d918f"), looks := true }, kinds := [], alts := [], laidByText := true, laidKinds := [.data, .sentinel, .sentinel, .pinned], laidTests := true, laidLooks := .later }
def FnSgKeyDictCardSaid : Prop := Claim7.holds Tryz.pinned (.plain (OpenSpec.ofChange fnSgKeyDictSpec)) fnSgKeyDictCard

/-- THE SECOND FORM's CARD OF 'laws.FnSgKeyDict'. -/
def fnSgKeyDictUptoCard : Claim7 := { stood := { row := fnSgKeyDictUptoRow, standIns := [], harness := (true, "121d7ee7f0fad305de8fcb6da79cc094dd3129c37a5ee805f4b6fb67601d918f"), looks := true }, kinds := [], alts := [], laidByText := true, laidKinds := [.data, .sentinel, .sentinel, .pinned], laidTests := true, laidLooks := .later }
def FnSgKeyDictUptoCardSaid : Prop := Claim7.holds Tryz.pinned (.plain (OpenSpec.upto fnSgKeyDictSpec)) fnSgKeyDictUptoCard
end Rows
end Go.Proofs.YtkdebhgccpfkiaaGreatDoor
