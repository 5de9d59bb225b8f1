/-
  No cell of these rows narrows 'for every input' (looked for: loops, veiled, ifaces, maps, wideKeys, modest, calm, conditions, laid).
  DERIVED. THE GIVEN ROWS OF THIS SEAT. 2 by the template 'for every input the law returns true; each argument reads behind the call as it read before'; 0 by the template 'total and deterministic' (their statements: YtodphfcneiodhaaTotals.lean).
  GIVEN WITH THE SEED: the statements are not yours to turn. If you find one false, say at which input.
  Laid BY PROGRAM, IN A SANDBOX (cutbox-rows.mjs): the forced cells as the released guide's own fill.sh prints them over the translation 356f56b3469d9535… (all of the seat's roots in one cut). By AI agents, Wed Nov 11 2026. No macro, syntax, notation, axiom, sorry.
-/
import Derived.Test.YtodphfcneiodhaaChecked
import GoSem.Claim
import GoSem.ClaimJoined
import GoSem.ClaimMapViews
import Derived.JoinedTies
import Derived.KernelRfl
namespace Go.Proofs.Ytodphfcneiodhaa
/- THE CELL 'sum', in the pinned program and in every row, IS THE sha256 OF THE DUMP (.gsa) THAT YtodphfcneiodhaaProg.lean LOADS. Nothing in Lean hashes anything: it is a label: what it is worth is what the hold of that sum in a sandbox is worth. -/
noncomputable def Try.pinned : Pinned := { name := "ytodphfcneiodhaa", sum := "356f56b3469d95352d7dccaf15374aaef63f6c1dba11a1c04917e03d713891b7", checked := Try.checked }
namespace Rows
def none {H : Type} : Left H := { results := [], args := [] }

/-- 'laws.FnWrStringsLarge': WHATEVER THE INPUT: true; the input reads as it did. -/
def fnWrStringsLargeSpec : ChangeSpec := { name := "fnWrStringsLarge", fn := fun _ => fun
  | [d1, d2, d3] => { results := [.lit (.bool true)], args := [d1, d2, d3] }
  | _ => none }
def fnWrStringsLargeRow : OpenClaim := { program := "ytodphfcneiodhaa", sum := "356f56b3469d95352d7dccaf15374aaef63f6c1dba11a1c04917e03d713891b7", func := "pub-barouche/laws.FnWrStringsLarge", spec := "fnWrStringsLarge", apart := false }
def FnWrStringsLargeSaid : Prop := fnWrStringsLargeRow.holds Try.pinned (OpenSpec.ofChange fnWrStringsLargeSpec)

/-- ITS FALSE NEIGHBOUR: 'it returns false'. Refute it at one input. -/
def fnWrStringsLargeWrong : ChangeSpec := { name := "fnWrStringsLarge", fn := fun _ => fun
  | [d1, d2, d3] => { results := [.lit (.bool false)], args := [d1, d2, d3] }
  | _ => none }
def FnWrStringsLargeWrongFalsely : Prop := fnWrStringsLargeRow.holds Try.pinned (OpenSpec.ofChange fnWrStringsLargeWrong)

/-- 'laws.FnWrSize': WHATEVER THE INPUT: true; the input reads as it did. -/
def fnWrSizeSpec : ChangeSpec := { name := "fnWrSize", fn := fun _ => fun
  | [d] => { results := [.lit (.bool true)], args := [d] }
  | _ => none }
def fnWrSizeRow : OpenClaim := { program := "ytodphfcneiodhaa", sum := "356f56b3469d95352d7dccaf15374aaef63f6c1dba11a1c04917e03d713891b7", func := "pub-barouche/laws.FnWrSize", spec := "fnWrSize", recurses := true, apart := false }
def FnWrSizeSaid : Prop := fnWrSizeRow.holds Try.pinned (OpenSpec.ofChange fnWrSizeSpec)

/-- ITS FALSE NEIGHBOUR: 'it returns false'. Refute it at one input. -/
def fnWrSizeWrong : ChangeSpec := { name := "fnWrSize", fn := fun _ => fun
  | [d] => { results := [.lit (.bool false)], args := [d] }
  | _ => none }
def FnWrSizeWrongFalsely : Prop := fnWrSizeRow.holds Try.pinned (OpenSpec.ofChange fnWrSizeWrong)

/- THE SECOND FORM. 'bulk': how many values and letters a reading holds, each counted each time it is reached (what is shared counts as often as it is met; a slice's spare places count too). A statement '..UptoSaid' is the law's where the arguments, and the package variables that the reading takes, are together of bulk at most 1048576: NARROWER than '..Said'. Prove '..Said' where nothing that the law and all that it calls make is longer than what came in: it says more and counts as full. Else prove '..UptoSaid'. A law counts once. -/
mutual
def uptoBulk {H : Type} : DataW H → Nat
  | .lit (.string bytes) => bytes.length + 1
  | .lit _ => 1
  | .nil => 1
  | .ptr d => uptoBulk d + 1
  | .slice elems spare => uptoBulkAll elems + uptoBulkAll spare + 1
  | .agg parts => uptoBulkAll parts + 1
  | .iface _ d => uptoBulk d + 1
  | .map entries => uptoBulkEntries entries + 1
  | .held _ => 1
def uptoBulkAll {H : Type} : List (DataW H) → Nat
  | [] => 0
  | d :: r => uptoBulk d + uptoBulkAll r
def uptoBulkEntries {H : Type} : List (Lit × DataW H) → Nat
  | [] => 0
  | x :: r => uptoBulkEntry x + uptoBulkEntries r
def uptoBulkEntry {H : Type} : Lit × DataW H → Nat
  | (.string bytes, d) => bytes.length + uptoBulk d + 1
  | (_, d) => uptoBulk d + 1
 end
def uptoSmall : (H : Type) → List (DataW H) → Bool := fun _ ds => decide (uptoBulkAll ds ≤ 1048576)
def OpenSpec.upto (s : _root_.Go.ChangeSpec) : _root_.Go.OpenSpec := { _root_.Go.OpenSpec.ofChange s with cond := some uptoSmall }

/-- 'laws.FnWrStringsLarge', WHERE WHAT IT READS IS OF BULK AT MOST 1048576: true; the input reads as it did. -/
def fnWrStringsLargeUptoRow : OpenClaim := { program := "ytodphfcneiodhaa", sum := "356f56b3469d95352d7dccaf15374aaef63f6c1dba11a1c04917e03d713891b7", func := "pub-barouche/laws.FnWrStringsLarge", spec := "fnWrStringsLarge", apart := false, narrowed := true }
def FnWrStringsLargeUptoSaid : Prop := fnWrStringsLargeUptoRow.holds Try.pinned (OpenSpec.upto fnWrStringsLargeSpec)

/-- 'laws.FnWrSize', WHERE WHAT IT READS IS OF BULK AT MOST 1048576: true; the input reads as it did. -/
def fnWrSizeUptoRow : OpenClaim := { program := "ytodphfcneiodhaa", sum := "356f56b3469d95352d7dccaf15374aaef63f6c1dba11a1c04917e03d713891b7", func := "pub-barouche/laws.FnWrSize", spec := "fnWrSize", recurses := true, apart := false, narrowed := true }
def FnWrSizeUptoSaid : Prop := fnWrSizeUptoRow.holds Try.pinned (OpenSpec.upto fnWrSizeSpec)

end Rows
end Go.Proofs.Ytodphfcneiodhaa
