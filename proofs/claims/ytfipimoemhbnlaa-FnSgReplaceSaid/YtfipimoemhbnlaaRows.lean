/-
  No cell of these rows narrows 'for every input' (looked for: loops, veiled, ifaces, maps, wideKeys, modest, calm, conditions, laid).
  DERIVED. THE GIVEN ROWS OF THIS SEAT. 5 by the template 'for every input the law returns true; each argument reads behind the call as it read before'; 0 by the template 'total and deterministic' (their statements: YtfipimoemhbnlaaTotals.lean).
  GIVEN WITH THE SEED: the statements are not yours to turn. If you find one false, say at which input.
  Laid BY PROGRAM, IN A SANDBOX (cutbox-rows.mjs): the forced cells as the released guide's own fill.sh prints them over the translation 393ec76fa46cb3ae… (all of the seat's roots in one cut). By AI agents, Wed Nov 11 2026. No macro, syntax, notation, axiom, sorry.
-/
import Derived.Test.YtfipimoemhbnlaaChecked
import GoSem.Claim
import GoSem.ClaimJoined
import GoSem.ClaimMapViews
import Derived.JoinedTies
import Derived.KernelRfl
namespace Go.Proofs.Ytfipimoemhbnlaa
/- THE CELL 'sum', in the pinned program and in every row, IS THE sha256 OF THE DUMP (.gsa) THAT YtfipimoemhbnlaaProg.lean LOADS. Nothing in Lean hashes anything: it is a label: what it is worth is what the hold of that sum in a sandbox is worth. -/
noncomputable def Try.pinned : Pinned := { name := "ytfipimoemhbnlaa", sum := "393ec76fa46cb3ae4f5b10534ead2557066575bc3c698000ae21433a36012979", checked := Try.checked }
namespace Rows
def none {H : Type} : Left H := { results := [], args := [] }

/-- 'laws.FnSgEntry': WHATEVER THE INPUT: true; the input reads as it did. -/
def fnSgEntrySpec : ChangeSpec := { name := "fnSgEntry", fn := fun _ => fun
  | [d1, d2] => { results := [.lit (.bool true)], args := [d1, d2] }
  | _ => none }
def fnSgEntryRow : OpenClaim := { program := "ytfipimoemhbnlaa", sum := "393ec76fa46cb3ae4f5b10534ead2557066575bc3c698000ae21433a36012979", func := "pub-barouche/laws.FnSgEntry", spec := "fnSgEntry", recurses := true, apart := false }
def FnSgEntrySaid : Prop := fnSgEntryRow.holds Try.pinned (OpenSpec.ofChange fnSgEntrySpec)

/-- ITS FALSE NEIGHBOUR: 'it returns false'. Refute it at one input. -/
def fnSgEntryWrong : ChangeSpec := { name := "fnSgEntry", fn := fun _ => fun
  | [d1, d2] => { results := [.lit (.bool false)], args := [d1, d2] }
  | _ => none }
def FnSgEntryWrongFalsely : Prop := fnSgEntryRow.holds Try.pinned (OpenSpec.ofChange fnSgEntryWrong)

/-- 'laws.FnSgJoin': WHATEVER THE INPUT: true; the input reads as it did. -/
def fnSgJoinSpec : ChangeSpec := { name := "fnSgJoin", fn := fun _ => fun
  | [d1, d2] => { results := [.lit (.bool true)], args := [d1, d2] }
  | _ => none }
def fnSgJoinRow : OpenClaim := { program := "ytfipimoemhbnlaa", sum := "393ec76fa46cb3ae4f5b10534ead2557066575bc3c698000ae21433a36012979", func := "pub-barouche/laws.FnSgJoin", spec := "fnSgJoin", recurses := true, apart := false }
def FnSgJoinSaid : Prop := fnSgJoinRow.holds Try.pinned (OpenSpec.ofChange fnSgJoinSpec)

/-- ITS FALSE NEIGHBOUR: 'it returns false'. Refute it at one input. -/
def fnSgJoinWrong : ChangeSpec := { name := "fnSgJoin", fn := fun _ => fun
  | [d1, d2] => { results := [.lit (.bool false)], args := [d1, d2] }
  | _ => none }
def FnSgJoinWrongFalsely : Prop := fnSgJoinRow.holds Try.pinned (OpenSpec.ofChange fnSgJoinWrong)

/-- 'laws.FnSgReplace': WHATEVER THE INPUT: true; the input reads as it did. -/
def fnSgReplaceSpec : ChangeSpec := { name := "fnSgReplace", fn := fun _ => fun
  | [d1, d2, d3] => { results := [.lit (.bool true)], args := [d1, d2, d3] }
  | _ => none }
def fnSgReplaceRow : OpenClaim := { program := "ytfipimoemhbnlaa", sum := "393ec76fa46cb3ae4f5b10534ead2557066575bc3c698000ae21433a36012979", func := "pub-barouche/laws.FnSgReplace", spec := "fnSgReplace", recurses := true, apart := false }
def FnSgReplaceSaid : Prop := fnSgReplaceRow.holds Try.pinned (OpenSpec.ofChange fnSgReplaceSpec)

/-- ITS FALSE NEIGHBOUR: 'it returns false'. Refute it at one input. -/
def fnSgReplaceWrong : ChangeSpec := { name := "fnSgReplace", fn := fun _ => fun
  | [d1, d2, d3] => { results := [.lit (.bool false)], args := [d1, d2, d3] }
  | _ => none }
def FnSgReplaceWrongFalsely : Prop := fnSgReplaceRow.holds Try.pinned (OpenSpec.ofChange fnSgReplaceWrong)

/-- 'laws.FnSgBegins': WHATEVER THE INPUT: true; the input reads as it did. -/
def fnSgBeginsSpec : ChangeSpec := { name := "fnSgBegins", fn := fun _ => fun
  | [d] => { results := [.lit (.bool true)], args := [d] }
  | _ => none }
def fnSgBeginsRow : OpenClaim := { program := "ytfipimoemhbnlaa", sum := "393ec76fa46cb3ae4f5b10534ead2557066575bc3c698000ae21433a36012979", func := "pub-barouche/laws.FnSgBegins", spec := "fnSgBegins", recurses := true, apart := false }
def FnSgBeginsSaid : Prop := fnSgBeginsRow.holds Try.pinned (OpenSpec.ofChange fnSgBeginsSpec)

/-- ITS FALSE NEIGHBOUR: 'it returns false'. Refute it at one input. -/
def fnSgBeginsWrong : ChangeSpec := { name := "fnSgBegins", fn := fun _ => fun
  | [d] => { results := [.lit (.bool false)], args := [d] }
  | _ => none }
def FnSgBeginsWrongFalsely : Prop := fnSgBeginsRow.holds Try.pinned (OpenSpec.ofChange fnSgBeginsWrong)

/-- 'laws.FnSgDrop': WHATEVER THE INPUT: true; the input reads as it did. -/
def fnSgDropSpec : ChangeSpec := { name := "fnSgDrop", fn := fun _ => fun
  | [d1, d2] => { results := [.lit (.bool true)], args := [d1, d2] }
  | _ => none }
def fnSgDropRow : OpenClaim := { program := "ytfipimoemhbnlaa", sum := "393ec76fa46cb3ae4f5b10534ead2557066575bc3c698000ae21433a36012979", func := "pub-barouche/laws.FnSgDrop", spec := "fnSgDrop", recurses := true, apart := false }
def FnSgDropSaid : Prop := fnSgDropRow.holds Try.pinned (OpenSpec.ofChange fnSgDropSpec)

/-- ITS FALSE NEIGHBOUR: 'it returns false'. Refute it at one input. -/
def fnSgDropWrong : ChangeSpec := { name := "fnSgDrop", fn := fun _ => fun
  | [d1, d2] => { results := [.lit (.bool false)], args := [d1, d2] }
  | _ => none }
def FnSgDropWrongFalsely : Prop := fnSgDropRow.holds Try.pinned (OpenSpec.ofChange fnSgDropWrong)

/- THE SECOND FORM. 'bulk': how many values and letters a reading holds, each counted each time it is reached (what is shared counts as often as it is met; a slice's spare places count too). A statement '..UptoSaid' is the law's where the arguments, and the package variables that the reading takes, are together of bulk at most 1048576: NARROWER than '..Said'. Prove '..Said' where nothing that the law and all that it calls make is longer than what came in: it says more and counts as full. Else prove '..UptoSaid'. A law counts once. -/
mutual
def uptoBulk {H : Type} : DataW H → Nat
  | .lit (.string bytes) => bytes.length + 1
  | .lit _ => 1
  | .nil => 1
  | .ptr d => uptoBulk d + 1
  | .slice elems spare => uptoBulkAll elems + uptoBulkAll spare + 1
  | .agg parts => uptoBulkAll parts + 1
  | .iface _ d => uptoBulk d + 1
  | .map entries => uptoBulkEntries entries + 1
  | .held _ => 1
def uptoBulkAll {H : Type} : List (DataW H) → Nat
  | [] => 0
  | d :: r => uptoBulk d + uptoBulkAll r
def uptoBulkEntries {H : Type} : List (Lit × DataW H) → Nat
  | [] => 0
  | x :: r => uptoBulkEntry x + uptoBulkEntries r
def uptoBulkEntry {H : Type} : Lit × DataW H → Nat
  | (.string bytes, d) => bytes.length + uptoBulk d + 1
  | (_, d) => uptoBulk d + 1
 end
def uptoSmall : (H : Type) → List (DataW H) → Bool := fun _ ds => decide (uptoBulkAll ds ≤ 1048576)
def OpenSpec.upto (s : _root_.Go.ChangeSpec) : _root_.Go.OpenSpec := { _root_.Go.OpenSpec.ofChange s with cond := some uptoSmall }

/-- 'laws.FnSgEntry', WHERE WHAT IT READS IS OF BULK AT MOST 1048576: true; the input reads as it did. -/
def fnSgEntryUptoRow : OpenClaim := { program := "ytfipimoemhbnlaa", sum := "393ec76fa46cb3ae4f5b10534ead2557066575bc3c698000ae21433a36012979", func := "pub-barouche/laws.FnSgEntry", spec := "fnSgEntry", recurses := true, apart := false, narrowed := true }
def FnSgEntryUptoSaid : Prop := fnSgEntryUptoRow.holds Try.pinned (OpenSpec.upto fnSgEntrySpec)

/-- 'laws.FnSgJoin', WHERE WHAT IT READS IS OF BULK AT MOST 1048576: true; the input reads as it did. -/
def fnSgJoinUptoRow : OpenClaim := { program := "ytfipimoemhbnlaa", sum := "393ec76fa46cb3ae4f5b10534ead2557066575bc3c698000ae21433a36012979", func := "pub-barouche/laws.FnSgJoin", spec := "fnSgJoin", recurses := true, apart := false, narrowed := true }
def FnSgJoinUptoSaid : Prop := fnSgJoinUptoRow.holds Try.pinned (OpenSpec.upto fnSgJoinSpec)

/-- 'laws.FnSgReplace', WHERE WHAT IT READS IS OF BULK AT MOST 1048576: true; the input reads as it did. -/
def fnSgReplaceUptoRow : OpenClaim := { program := "ytfipimoemhbnlaa", sum := "393ec76fa46cb3ae4f5b10534ead2557066575bc3c698000ae21433a36012979", func := "pub-barouche/laws.FnSgReplace", spec := "fnSgReplace", recurses := true, apart := false, narrowed := true }
def FnSgReplaceUptoSaid : Prop := fnSgReplaceUptoRow.holds Try.pinned (OpenSpec.upto fnSgReplaceSpec)

/-- 'laws.FnSgBegins', WHERE WHAT IT READS IS OF BULK AT MOST 1048576: true; the input reads as it did. -/
def fnSgBeginsUptoRow : OpenClaim := { program := "ytfipimoemhbnlaa", sum := "393ec76fa46cb3ae4f5b10534ead2557066575bc3c698000ae21433a36012979", func := "pub-barouche/laws.FnSgBegins", spec := "fnSgBegins", recurses := true, apart := false, narrowed := true }
def FnSgBeginsUptoSaid : Prop := fnSgBeginsUptoRow.holds Try.pinned (OpenSpec.upto fnSgBeginsSpec)

/-- 'laws.FnSgDrop', WHERE WHAT IT READS IS OF BULK AT MOST 1048576: true; the input reads as it did. -/
def fnSgDropUptoRow : OpenClaim := { program := "ytfipimoemhbnlaa", sum := "393ec76fa46cb3ae4f5b10534ead2557066575bc3c698000ae21433a36012979", func := "pub-barouche/laws.FnSgDrop", spec := "fnSgDrop", recurses := true, apart := false, narrowed := true }
def FnSgDropUptoSaid : Prop := fnSgDropUptoRow.holds Try.pinned (OpenSpec.upto fnSgDropSpec)

end Rows
end Go.Proofs.Ytfipimoemhbnlaa
