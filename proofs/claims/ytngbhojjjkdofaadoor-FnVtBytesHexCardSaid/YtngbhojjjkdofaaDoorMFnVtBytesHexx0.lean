-- Written by a program of this session (myprint.py, out of the translation). Not trusted: Lean checks it.
import Derived.Test.YtngbhojjjkdofaaDoorProg
import Derived.Below
import Derived.Deep.Draws
import Derived.Deep.AppendLies
import Derived.Maps.AppendAt
import Derived.OwnWalk
import Derived.Laws.BytesArg
import Derived.Laws.MakeOwn
import Derived.Laws.OwnMore
import Derived.Deep.OwnRows
import Derived.Tactics
import Derived.Lib.ConvBytes
import Derived.Laws.Slices
import Derived.WalkKit
import Derived.KernelRfl
import Derived.RowKit3
import Derived.Deep.LoopGhost
import Derived.Deep.QuietTactic
import Derived.BigQuiet
import Derived.WideLaws
import Derived.Deep.DeepCutAuto
import Derived.Deep.CutBlock
import Derived.Deep.RegionHeld3
import Derived.Laws.Rows
import Derived.Lib.AppendStr
import Derived.ArgAppend
import Derived.Laws.IdiomCopy
import Derived.OrdersHeld
import Derived.Laws.BitsLemmas
import Derived.RowKit
import Derived.Lib.OthersKept
import Derived.Lib.ConvBytes
import Derived.Lib.BufferWrite
import Derived.Test.YtngbhojjjkdofaaDoorShelf
import Derived.Test.YtngbhojjjkdofaaDoorWWords
import Derived.Test.YtngbhojjjkdofaaDoorWLast
import Derived.Test.YtngbhojjjkdofaaDoorWTab
import Derived.Test.YtngbhojjjkdofaaDoorWFour
import Derived.Test.YtngbhojjjkdofaaDoorWQPut
import Derived.Test.YtngbhojjjkdofaaDoorWApart
import Derived.Test.YtngbhojjjkdofaaDoorWArr
import Derived.Test.YtngbhojjjkdofaaDoorWZeros
import Derived.Test.YtngbhojjjkdofaaDoorWFoot
import Derived.Test.YtngbhojjjkdofaaDoorWKept
import Derived.Test.YtngbhojjjkdofaaDoorWShare
import Derived.Test.YtngbhojjjkdofaaDoorWN
import Derived.Test.YtngbhojjjkdofaaDoorWFootNe
import Derived.Test.YtngbhojjjkdofaaDoorWAt
import Derived.Test.YtngbhojjjkdofaaDoorWEqStruct
import Derived.Test.YtngbhojjjkdofaaDoorWRepsOne
import Derived.Test.YtngbhojjjkdofaaDoorWInv
import Derived.Test.YtngbhojjjkdofaaDoorWInvWords
import Derived.Test.YtngbhojjjkdofaaDoorWGuard
import Derived.Test.YtngbhojjjkdofaaDoorWNEv
import Derived.Test.YtngbhojjjkdofaaDoorWMore
namespace Go.Proofs.YtngbhojjjkdofaaDoor.MFnVtBytesHex
open Go.RowKit Go.Proofs.YtngbhojjjkdofaaDoorW.PrintWords Go.Proofs.YtngbhojjjkdofaaDoorW.PrintLast Go.Proofs.YtngbhojjjkdofaaDoorW.PrintMore
attribute [local go_sem] max2_int min2_int max_two min_two max_three min_three max_four min_four   -- for this text's walks alone
set_option linter.unusedVariables false
set_option linter.unusedSimpArgs false



def errW : Option (TypeId × Value) → Value
  | none => .nilIface
  | some c => .iface c.1 c.2
theorem wrap64_id {x : Int} (h1 : -9223372036854775808 ≤ x) (h2 : x ≤ 9223372036854775807) : wrap64 x = x := by unfold wrap64; omega
theorem errW_none : errW none = .nilIface := rfl
theorem errW_some (c : TypeId × Value) : errW (some c) = .iface c.1 c.2 := rfl

theorem info5 : (Tryd.prog.info? 5).map (fun i => (i.zero, i.size, i.bytes)) = some (some (.int .u8 0), 1, 1) := by kernel_rfl
theorem info9 : (Tryd.prog.info? 9).map (fun i => (i.zero, i.size, i.bytes)) = some (some (.string ⟨#[]⟩), 1, 16) := by kernel_rfl
-- the values' own types

end Go.Proofs.YtngbhojjjkdofaaDoor.MFnVtBytesHex
