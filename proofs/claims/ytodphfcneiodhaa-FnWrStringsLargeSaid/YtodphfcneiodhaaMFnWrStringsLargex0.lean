-- Written by a program of this session (myprint.py, out of the translation). Not trusted: Lean checks it.
import Derived.Test.YtodphfcneiodhaaProg
import Derived.Below
import Derived.Deep.Draws
import Derived.Deep.AppendLies
import Derived.Maps.AppendAt
import Derived.OwnWalk
import Derived.Laws.BytesArg
import Derived.Laws.MakeOwn
import Derived.Laws.OwnMore
import Derived.Deep.OwnRows
import Derived.Tactics
import Derived.Lib.ConvBytes
import Derived.Laws.Slices
import Derived.WalkKit
import Derived.KernelRfl
import Derived.RowKit3
import Derived.Deep.LoopGhost
import Derived.Deep.QuietTactic
import Derived.BigQuiet
import Derived.WideLaws
import Derived.Deep.DeepCutAuto
import Derived.Deep.CutBlock
import Derived.Deep.RegionHeld3
import Derived.Laws.Rows
import Derived.Lib.AppendStr
import Derived.ArgAppend
import Derived.Laws.IdiomCopy
import Derived.OrdersHeld
import Derived.Laws.BitsLemmas
import Derived.RowKit
import Derived.Lib.OthersKept
import Derived.Test.YtodphfcneiodhaaWWords
import Derived.Test.YtodphfcneiodhaaWLast
import Derived.Test.YtodphfcneiodhaaWTab
import Derived.Test.YtodphfcneiodhaaWFour
import Derived.Test.YtodphfcneiodhaaWQPut
import Derived.Test.YtodphfcneiodhaaWApart
import Derived.Test.YtodphfcneiodhaaWArr
import Derived.Test.YtodphfcneiodhaaWZeros
import Derived.Test.YtodphfcneiodhaaWFoot
import Derived.Test.YtodphfcneiodhaaWKept
import Derived.Test.YtodphfcneiodhaaWShare
import Derived.Test.YtodphfcneiodhaaWN
import Derived.Test.YtodphfcneiodhaaWFootNe
import Derived.Test.YtodphfcneiodhaaWAt
import Derived.Test.YtodphfcneiodhaaWEqStruct
import Derived.Test.YtodphfcneiodhaaWRepsOne
import Derived.Test.YtodphfcneiodhaaWInv
import Derived.Test.YtodphfcneiodhaaWInvWords
import Derived.Test.YtodphfcneiodhaaWGuard
import Derived.Test.YtodphfcneiodhaaWNEv
import Derived.Test.YtodphfcneiodhaaWMore
namespace Go.Proofs.Ytodphfcneiodhaa.MFnWrStringsLarge
open Go.RowKit Go.Proofs.YtodphfcneiodhaaW.PrintWords Go.Proofs.YtodphfcneiodhaaW.PrintLast Go.Proofs.YtodphfcneiodhaaW.PrintMore
attribute [local go_sem] max2_int min2_int max_two min_two max_three min_three max_four min_four   -- for this text's walks alone
set_option linter.unusedVariables false
set_option linter.unusedSimpArgs false



def errW : Option (TypeId × Value) → Value
  | none => .nilIface
  | some c => .iface c.1 c.2
theorem wrap64_id {x : Int} (h1 : -9223372036854775808 ≤ x) (h2 : x ≤ 9223372036854775807) : wrap64 x = x := by unfold wrap64; omega
theorem errW_none : errW none = .nilIface := rfl
theorem errW_some (c : TypeId × Value) : errW (some c) = .iface c.1 c.2 := rfl

theorem info5 : (Try.prog.info? 5).map (fun i => (i.zero, i.size, i.bytes)) = some (some (.int .u8 0), 1, 1) := by kernel_rfl
theorem info9 : (Try.prog.info? 9).map (fun i => (i.zero, i.size, i.bytes)) = some (some (.string ⟨#[]⟩), 1, 16) := by kernel_rfl
-- the values' own types

end Go.Proofs.Ytodphfcneiodhaa.MFnWrStringsLarge
