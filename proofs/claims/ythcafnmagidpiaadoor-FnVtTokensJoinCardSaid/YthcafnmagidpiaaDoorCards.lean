/-
  DERIVED. GIVEN WITH THE SEED: THE CARDS: each row of YthcafnmagidpiaaDoorRows.lean that lists a variable, with what it lists TIED to the program's text (the seventh form; the later family's looks); each row that meets fmt, with fmt's text TOLD by the authors' own Lean function (tested against real Go, not proved from fmt's source: count such statements apart). THE CARD IS WHAT COUNTS. Prove the row's statement (the work); the ties are given (YthcafnmagidpiaaDoorTie.lean); close each card by the builder's one call (the guide's Derived/Test/ToyasCard.lean, 'card_holds'). Laid BY PROGRAM, IN A SANDBOX (cutbox-door.mjs). By AI agents, Wed Nov 11 2026. No macro, syntax, notation, axiom, sorry.
-/
import Derived.Test.YthcafnmagidpiaaDoorRows
import GoSem.ClaimSeven
namespace Go.Proofs.YthcafnmagidpiaaDoor
namespace Rows

/-- THE TIED CARD OF 'laws.FnVtTokens'. -/
def fnVtTokensCard : Claim7 := { stood := { row := fnVtTokensRow, standIns := [], harness := (true, "38a83499e05e37d071d1e1f36f8046e71b5266d66961e4ff979aaf3dc4851fc0"), looks := false }, kinds := [], alts := [], laidByText := true, laidKinds := [.data, .pinned], laidTests := true, laidLooks := .later }
def FnVtTokensCardSaid : Prop := Claim7.holds Tryd.pinned (.plain (OpenSpec.ofChange fnVtTokensSpec)) fnVtTokensCard

/-- THE TIED CARD OF 'laws.FnVtTokensJoin'. -/
def fnVtTokensJoinCard : Claim7 := { stood := { row := fnVtTokensJoinRow, standIns := [], harness := (true, "38a83499e05e37d071d1e1f36f8046e71b5266d66961e4ff979aaf3dc4851fc0"), looks := false }, kinds := [], alts := [], laidByText := true, laidKinds := [.data, .pinned], laidTests := true, laidLooks := .later }
def FnVtTokensJoinCardSaid : Prop := Claim7.holds Tryd.pinned (.plain (OpenSpec.ofChange fnVtTokensJoinSpec)) fnVtTokensJoinCard

/-- THE SECOND FORM's CARD OF 'laws.FnVtTokens'. -/
def fnVtTokensUptoCard : Claim7 := { stood := { row := fnVtTokensUptoRow, standIns := [], harness := (true, "38a83499e05e37d071d1e1f36f8046e71b5266d66961e4ff979aaf3dc4851fc0"), looks := false }, kinds := [], alts := [], laidByText := true, laidKinds := [.data, .pinned], laidTests := true, laidLooks := .later }
def FnVtTokensUptoCardSaid : Prop := Claim7.holds Tryd.pinned (.plain (OpenSpec.upto fnVtTokensSpec)) fnVtTokensUptoCard

/-- THE SECOND FORM's CARD OF 'laws.FnVtTokensJoin'. -/
def fnVtTokensJoinUptoCard : Claim7 := { stood := { row := fnVtTokensJoinUptoRow, standIns := [], harness := (true, "38a83499e05e37d071d1e1f36f8046e71b5266d66961e4ff979aaf3dc4851fc0"), looks := false }, kinds := [], alts := [], laidByText := true, laidKinds := [.data, .pinned], laidTests := true, laidLooks := .later }
def FnVtTokensJoinUptoCardSaid : Prop := Claim7.holds Tryd.pinned (.plain (OpenSpec.upto fnVtTokensJoinSpec)) fnVtTokensJoinUptoCard
end Rows
end Go.Proofs.YthcafnmagidpiaaDoor
