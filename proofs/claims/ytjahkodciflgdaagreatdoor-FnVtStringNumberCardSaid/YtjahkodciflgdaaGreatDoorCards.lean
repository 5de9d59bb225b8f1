/-
  DERIVED. GIVEN WITH THE SEED: THE CARDS: each row of YtjahkodciflgdaaGreatDoorRows.lean that lists a variable, with what it lists TIED to the program's text (the seventh form; the later family's looks); each row that meets fmt, with fmt's text TOLD by the authors' own Lean function (tested against real Go, not proved from fmt's source: count such statements apart). THE CARD IS WHAT COUNTS. Prove the row's statement (the work); the ties are given (YtjahkodciflgdaaGreatDoorTie.lean); close each card by the builder's one call (the guide's Derived/Test/ToyasCard.lean, 'card_holds'). Laid BY PROGRAM, IN A SANDBOX (cutbox-door.mjs). By AI agents, Wed Nov 11 2026. No macro, syntax, notation, axiom, sorry.
-/
import Derived.Test.YtjahkodciflgdaaGreatDoorRows
import GoSem.ClaimSeven
namespace Go.Proofs.YtjahkodciflgdaaGreatDoor
namespace Rows

/-- THE TIED CARD OF 'laws.FnVtStringNumber'. -/
def fnVtStringNumberCard : Claim7 := { stood := { row := fnVtStringNumberRow, standIns := [], harness := (true, "8af05c90de318801ce5b4dc539d101155c3e06e71e581ff45fb4dbb78af8dfd7"), looks := true }, kinds := [], alts := [], laidByText := true, laidKinds := [.data, .data, .data, .data, .data, .sentinel, .sentinel, .pinned, .pinned, .pinned, .pinned, .pinned, .pinned, .pinned, .pinned], laidTests := true, laidLooks := .later }
def FnVtStringNumberCardSaid : Prop := Claim7.holds Tryz.pinned (.plain (OpenSpec.ofChange fnVtStringNumberSpec)) fnVtStringNumberCard

/-- THE SECOND FORM's CARD OF 'laws.FnVtStringNumber'. -/
def fnVtStringNumberUptoCard : Claim7 := { stood := { row := fnVtStringNumberUptoRow, standIns := [], harness := (true, "8af05c90de318801ce5b4dc539d101155c3e06e71e581ff45fb4dbb78af8dfd7"), looks := true }, kinds := [], alts := [], laidByText := true, laidKinds := [.data, .data, .data, .data, .data, .sentinel, .sentinel, .pinned, .pinned, .pinned, .pinned, .pinned, .pinned, .pinned, .pinned], laidTests := true, laidLooks := .later }
def FnVtStringNumberUptoCardSaid : Prop := Claim7.holds Tryz.pinned (.plain (OpenSpec.upto fnVtStringNumberSpec)) fnVtStringNumberUptoCard
end Rows
end Go.Proofs.YtjahkodciflgdaaGreatDoor
