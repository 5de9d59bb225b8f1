/-
  DERIVED. GIVEN WITH THE SEED: THE CARDS: each row of YtboioihppjhjcaaDoorRows.lean that lists a variable, with what it lists TIED to the program's text (the seventh form; the later family's looks); each row that meets fmt, with fmt's text TOLD by the authors' own Lean function (tested against real Go, not proved from fmt's source: count such statements apart). THE CARD IS WHAT COUNTS. Prove the row's statement (the work); the ties are given (YtboioihppjhjcaaDoorTie.lean); close each card by the builder's one call (the guide's Derived/Test/ToyasCard.lean, 'card_holds'). Laid BY PROGRAM, IN A SANDBOX (cutbox-door.mjs). By AI agents, Wed Nov 11 2026. No macro, syntax, notation, axiom, sorry.
-/
import Derived.Test.YtboioihppjhjcaaDoorRows
import GoSem.ClaimSeven
namespace Go.Proofs.YtboioihppjhjcaaDoor
namespace Rows

/-- THE TIED CARD OF 'laws.FnSgOf'. -/
def fnSgOfCard : Claim7 := { stood := { row := fnSgOfRow, standIns := [], harness := (true, "83f1955a11069437e49b9b0a09a0d40fc7a9d5107afe24f4bc36adb446eccb3f"), looks := true }, kinds := [], alts := [], laidByText := true, laidKinds := [.data, .sentinel, .pinned], laidTests := true, laidLooks := .later }
def FnSgOfCardSaid : Prop := Claim7.holds Tryd.pinned (.plain (OpenSpec.ofChange fnSgOfSpec)) fnSgOfCard

/-- THE TIED CARD OF 'laws.FnSgOfParse'. -/
def fnSgOfParseCard : Claim7 := { stood := { row := fnSgOfParseRow, standIns := [], harness := (true, "83f1955a11069437e49b9b0a09a0d40fc7a9d5107afe24f4bc36adb446eccb3f"), looks := true }, kinds := [], alts := [], laidByText := true, laidKinds := [.data, .sentinel, .pinned], laidTests := true, laidLooks := .later }
def FnSgOfParseCardSaid : Prop := Claim7.holds Tryd.pinned (.plain (OpenSpec.ofChange fnSgOfParseSpec)) fnSgOfParseCard

/-- THE SECOND FORM's CARD OF 'laws.FnSgOf'. -/
def fnSgOfUptoCard : Claim7 := { stood := { row := fnSgOfUptoRow, standIns := [], harness := (true, "83f1955a11069437e49b9b0a09a0d40fc7a9d5107afe24f4bc36adb446eccb3f"), looks := true }, kinds := [], alts := [], laidByText := true, laidKinds := [.data, .sentinel, .pinned], laidTests := true, laidLooks := .later }
def FnSgOfUptoCardSaid : Prop := Claim7.holds Tryd.pinned (.plain (OpenSpec.upto fnSgOfSpec)) fnSgOfUptoCard

/-- THE SECOND FORM's CARD OF 'laws.FnSgOfParse'. -/
def fnSgOfParseUptoCard : Claim7 := { stood := { row := fnSgOfParseUptoRow, standIns := [], harness := (true, "83f1955a11069437e49b9b0a09a0d40fc7a9d5107afe24f4bc36adb446eccb3f"), looks := true }, kinds := [], alts := [], laidByText := true, laidKinds := [.data, .sentinel, .pinned], laidTests := true, laidLooks := .later }
def FnSgOfParseUptoCardSaid : Prop := Claim7.holds Tryd.pinned (.plain (OpenSpec.upto fnSgOfParseSpec)) fnSgOfParseUptoCard
end Rows
end Go.Proofs.YtboioihppjhjcaaDoor
