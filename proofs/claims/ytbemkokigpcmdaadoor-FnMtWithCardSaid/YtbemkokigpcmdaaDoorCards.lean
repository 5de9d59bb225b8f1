/-
  DERIVED. GIVEN WITH THE SEED: THE CARDS: each row of YtbemkokigpcmdaaDoorRows.lean that lists a variable, with what it lists TIED to the program's text (the seventh form; the later family's looks); each row that meets fmt, with fmt's text TOLD by the authors' own Lean function (tested against real Go, not proved from fmt's source: count such statements apart). THE CARD IS WHAT COUNTS. Prove the row's statement (the work); the ties are given (YtbemkokigpcmdaaDoorTie.lean); close each card by the builder's one call (the guide's Derived/Test/ToyasCard.lean, 'card_holds'). Laid BY PROGRAM, IN A SANDBOX (cutbox-door.mjs). By AI agents, Wed Nov 11 2026. No macro, syntax, notation, axiom, sorry.
-/
import Derived.Test.YtbemkokigpcmdaaDoorRows
import GoSem.ClaimSeven
namespace Go.Proofs.YtbemkokigpcmdaaDoor
namespace Rows

/-- THE TIED CARD OF 'laws.FnMtWith'. -/
def fnMtWithCard : Claim7 := { stood := { row := fnMtWithRow, standIns := [], harness := (true, "99ced60c7021aee972ddbfaab34c48f03d36054e0265d731bb76eb949aab195d"), looks := false }, kinds := [], alts := [], laidByText := true, laidKinds := [.data, .data, .data], laidTests := true, laidLooks := .later }
def FnMtWithCardSaid : Prop := Claim7.holds Tryd.pinned (.plain (OpenSpec.ofChange fnMtWithSpec)) fnMtWithCard

/-- THE SECOND FORM's CARD OF 'laws.FnMtWith'. -/
def fnMtWithUptoCard : Claim7 := { stood := { row := fnMtWithUptoRow, standIns := [], harness := (true, "99ced60c7021aee972ddbfaab34c48f03d36054e0265d731bb76eb949aab195d"), looks := false }, kinds := [], alts := [], laidByText := true, laidKinds := [.data, .data, .data], laidTests := true, laidLooks := .later }
def FnMtWithUptoCardSaid : Prop := Claim7.holds Tryd.pinned (.plain (OpenSpec.upto fnMtWithSpec)) fnMtWithUptoCard
end Rows
end Go.Proofs.YtbemkokigpcmdaaDoor
