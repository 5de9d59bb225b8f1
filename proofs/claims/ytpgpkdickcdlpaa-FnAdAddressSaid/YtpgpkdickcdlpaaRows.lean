/-
  No cell of these rows narrows 'for every input' (looked for: loops, veiled, ifaces, maps, wideKeys, modest, calm, conditions, laid).
  DERIVED. THE GIVEN ROWS OF THIS SEAT. 4 by the template 'for every input the law returns true; each argument reads behind the call as it read before'; 0 by the template 'total and deterministic' (their statements: YtpgpkdickcdlpaaTotals.lean).
  GIVEN WITH THE SEED: the statements are not yours to turn. If you find one false, say at which input.
  Laid BY PROGRAM, IN A SANDBOX (cutbox-rows.mjs): the forced cells as the released guide's own fill.sh prints them over the translation edeb2e65ca0002e9… (all of the seat's roots in one cut). By AI agents, Wed Nov 11 2026. No macro, syntax, notation, axiom, sorry.
-/
import Derived.Test.YtpgpkdickcdlpaaChecked
import GoSem.Claim
import GoSem.ClaimJoined
import GoSem.ClaimMapViews
import Derived.JoinedTies
import Derived.KernelRfl
namespace Go.Proofs.Ytpgpkdickcdlpaa
/- THE CELL 'sum', in the pinned program and in every row, IS THE sha256 OF THE DUMP (.gsa) THAT YtpgpkdickcdlpaaProg.lean LOADS. Nothing in Lean hashes anything: it is a label: what it is worth is what the hold of that sum in a sandbox is worth. -/
noncomputable def Try.pinned : Pinned := { name := "ytpgpkdickcdlpaa", sum := "edeb2e65ca0002e9a644b1e523447c357e81437e9555199ba367f46ea62fedb9", checked := Try.checked }
namespace Rows
def none {H : Type} : Left H := { results := [], args := [] }

/-- 'laws.FnAdReadJoin': WHATEVER THE INPUT: true; the input reads as it did. -/
def fnAdReadJoinSpec : ChangeSpec := { name := "fnAdReadJoin", fn := fun _ => fun
  | [d1, d2] => { results := [.lit (.bool true)], args := [d1, d2] }
  | _ => none }
def fnAdReadJoinRow : OpenClaim := { program := "ytpgpkdickcdlpaa", sum := "edeb2e65ca0002e9a644b1e523447c357e81437e9555199ba367f46ea62fedb9", func := "pub-barouche/laws.FnAdReadJoin", spec := "fnAdReadJoin", apart := false }
def FnAdReadJoinSaid : Prop := fnAdReadJoinRow.holds Try.pinned (OpenSpec.ofChange fnAdReadJoinSpec)

/-- ITS FALSE NEIGHBOUR: 'it returns false'. Refute it at one input. -/
def fnAdReadJoinWrong : ChangeSpec := { name := "fnAdReadJoin", fn := fun _ => fun
  | [d1, d2] => { results := [.lit (.bool false)], args := [d1, d2] }
  | _ => none }
def FnAdReadJoinWrongFalsely : Prop := fnAdReadJoinRow.holds Try.pinned (OpenSpec.ofChange fnAdReadJoinWrong)

/-- 'laws.FnAdEscape': WHATEVER THE INPUT: true; the input reads as it did. -/
def fnAdEscapeSpec : ChangeSpec := { name := "fnAdEscape", fn := fun _ => fun
  | [d] => { results := [.lit (.bool true)], args := [d] }
  | _ => none }
def fnAdEscapeRow : OpenClaim := { program := "ytpgpkdickcdlpaa", sum := "edeb2e65ca0002e9a644b1e523447c357e81437e9555199ba367f46ea62fedb9", func := "pub-barouche/laws.FnAdEscape", spec := "fnAdEscape", apart := false }
def FnAdEscapeSaid : Prop := fnAdEscapeRow.holds Try.pinned (OpenSpec.ofChange fnAdEscapeSpec)

/-- ITS FALSE NEIGHBOUR: 'it returns false'. Refute it at one input. -/
def fnAdEscapeWrong : ChangeSpec := { name := "fnAdEscape", fn := fun _ => fun
  | [d] => { results := [.lit (.bool false)], args := [d] }
  | _ => none }
def FnAdEscapeWrongFalsely : Prop := fnAdEscapeRow.holds Try.pinned (OpenSpec.ofChange fnAdEscapeWrong)

/-- 'laws.FnAdAddress': WHATEVER THE INPUT: true; the input reads as it did. -/
def fnAdAddressSpec : ChangeSpec := { name := "fnAdAddress", fn := fun _ => fun
  | [d1, d2, d3] => { results := [.lit (.bool true)], args := [d1, d2, d3] }
  | _ => none }
def fnAdAddressRow : OpenClaim := { program := "ytpgpkdickcdlpaa", sum := "edeb2e65ca0002e9a644b1e523447c357e81437e9555199ba367f46ea62fedb9", func := "pub-barouche/laws.FnAdAddress", spec := "fnAdAddress", apart := false }
def FnAdAddressSaid : Prop := fnAdAddressRow.holds Try.pinned (OpenSpec.ofChange fnAdAddressSpec)

/-- ITS FALSE NEIGHBOUR: 'it returns false'. Refute it at one input. -/
def fnAdAddressWrong : ChangeSpec := { name := "fnAdAddress", fn := fun _ => fun
  | [d1, d2, d3] => { results := [.lit (.bool false)], args := [d1, d2, d3] }
  | _ => none }
def FnAdAddressWrongFalsely : Prop := fnAdAddressRow.holds Try.pinned (OpenSpec.ofChange fnAdAddressWrong)

/-- 'laws.FnAdBack': WHATEVER THE INPUT: true; the input reads as it did. -/
def fnAdBackSpec : ChangeSpec := { name := "fnAdBack", fn := fun _ => fun
  | [d] => { results := [.lit (.bool true)], args := [d] }
  | _ => none }
def fnAdBackRow : OpenClaim := { program := "ytpgpkdickcdlpaa", sum := "edeb2e65ca0002e9a644b1e523447c357e81437e9555199ba367f46ea62fedb9", func := "pub-barouche/laws.FnAdBack", spec := "fnAdBack", apart := false }
def FnAdBackSaid : Prop := fnAdBackRow.holds Try.pinned (OpenSpec.ofChange fnAdBackSpec)

/-- ITS FALSE NEIGHBOUR: 'it returns false'. Refute it at one input. -/
def fnAdBackWrong : ChangeSpec := { name := "fnAdBack", fn := fun _ => fun
  | [d] => { results := [.lit (.bool false)], args := [d] }
  | _ => none }
def FnAdBackWrongFalsely : Prop := fnAdBackRow.holds Try.pinned (OpenSpec.ofChange fnAdBackWrong)

/- THE SECOND FORM. 'bulk': how many values and letters a reading holds, each counted each time it is reached (what is shared counts as often as it is met; a slice's spare places count too). A statement '..UptoSaid' is the law's where the arguments, and the package variables that the reading takes, are together of bulk at most 1048576: NARROWER than '..Said'. Prove '..Said' where nothing that the law and all that it calls make is longer than what came in: it says more and counts as full. Else prove '..UptoSaid'. A law counts once. -/
mutual
def uptoBulk {H : Type} : DataW H → Nat
  | .lit (.string bytes) => bytes.length + 1
  | .lit _ => 1
  | .nil => 1
  | .ptr d => uptoBulk d + 1
  | .slice elems spare => uptoBulkAll elems + uptoBulkAll spare + 1
  | .agg parts => uptoBulkAll parts + 1
  | .iface _ d => uptoBulk d + 1
  | .map entries => uptoBulkEntries entries + 1
  | .held _ => 1
def uptoBulkAll {H : Type} : List (DataW H) → Nat
  | [] => 0
  | d :: r => uptoBulk d + uptoBulkAll r
def uptoBulkEntries {H : Type} : List (Lit × DataW H) → Nat
  | [] => 0
  | x :: r => uptoBulkEntry x + uptoBulkEntries r
def uptoBulkEntry {H : Type} : Lit × DataW H → Nat
  | (.string bytes, d) => bytes.length + uptoBulk d + 1
  | (_, d) => uptoBulk d + 1
 end
def uptoSmall : (H : Type) → List (DataW H) → Bool := fun _ ds => decide (uptoBulkAll ds ≤ 1048576)
def OpenSpec.upto (s : _root_.Go.ChangeSpec) : _root_.Go.OpenSpec := { _root_.Go.OpenSpec.ofChange s with cond := some uptoSmall }

/-- 'laws.FnAdReadJoin', WHERE WHAT IT READS IS OF BULK AT MOST 1048576: true; the input reads as it did. -/
def fnAdReadJoinUptoRow : OpenClaim := { program := "ytpgpkdickcdlpaa", sum := "edeb2e65ca0002e9a644b1e523447c357e81437e9555199ba367f46ea62fedb9", func := "pub-barouche/laws.FnAdReadJoin", spec := "fnAdReadJoin", apart := false, narrowed := true }
def FnAdReadJoinUptoSaid : Prop := fnAdReadJoinUptoRow.holds Try.pinned (OpenSpec.upto fnAdReadJoinSpec)

/-- 'laws.FnAdEscape', WHERE WHAT IT READS IS OF BULK AT MOST 1048576: true; the input reads as it did. -/
def fnAdEscapeUptoRow : OpenClaim := { program := "ytpgpkdickcdlpaa", sum := "edeb2e65ca0002e9a644b1e523447c357e81437e9555199ba367f46ea62fedb9", func := "pub-barouche/laws.FnAdEscape", spec := "fnAdEscape", apart := false, narrowed := true }
def FnAdEscapeUptoSaid : Prop := fnAdEscapeUptoRow.holds Try.pinned (OpenSpec.upto fnAdEscapeSpec)

/-- 'laws.FnAdAddress', WHERE WHAT IT READS IS OF BULK AT MOST 1048576: true; the input reads as it did. -/
def fnAdAddressUptoRow : OpenClaim := { program := "ytpgpkdickcdlpaa", sum := "edeb2e65ca0002e9a644b1e523447c357e81437e9555199ba367f46ea62fedb9", func := "pub-barouche/laws.FnAdAddress", spec := "fnAdAddress", apart := false, narrowed := true }
def FnAdAddressUptoSaid : Prop := fnAdAddressUptoRow.holds Try.pinned (OpenSpec.upto fnAdAddressSpec)

/-- 'laws.FnAdBack', WHERE WHAT IT READS IS OF BULK AT MOST 1048576: true; the input reads as it did. -/
def fnAdBackUptoRow : OpenClaim := { program := "ytpgpkdickcdlpaa", sum := "edeb2e65ca0002e9a644b1e523447c357e81437e9555199ba367f46ea62fedb9", func := "pub-barouche/laws.FnAdBack", spec := "fnAdBack", apart := false, narrowed := true }
def FnAdBackUptoSaid : Prop := fnAdBackUptoRow.holds Try.pinned (OpenSpec.upto fnAdBackSpec)

end Rows
end Go.Proofs.Ytpgpkdickcdlpaa
