-- Written by a program of this session (myprint.py, out of the translation). Not trusted: Lean checks it.
import Derived.Test.YtbemkokigpcmdaaDoorProg
import Derived.Below
import Derived.Deep.Draws
import Derived.Deep.AppendLies
import Derived.Maps.AppendAt
import Derived.OwnWalk
import Derived.Laws.BytesArg
import Derived.Laws.MakeOwn
import Derived.Laws.OwnMore
import Derived.Deep.OwnRows
import Derived.Tactics
import Derived.Lib.ConvBytes
import Derived.Laws.Slices
import Derived.WalkKit
import Derived.KernelRfl
import Derived.RowKit3
import Derived.Deep.LoopGhost
import Derived.Deep.QuietTactic
import Derived.BigQuiet
import Derived.WideLaws
import Derived.Deep.DeepCutAuto
import Derived.Deep.CutBlock
import Derived.Deep.RegionHeld3
import Derived.Laws.Rows
import Derived.Lib.AppendStr
import Derived.ArgAppend
import Derived.Laws.IdiomCopy
import Derived.OrdersHeld
import Derived.Laws.BitsLemmas
import Derived.RowKit
import Derived.Lib.OthersKept
import Derived.Defers
import Derived.Recover
import Derived.Laws.Pointers
import Derived.RegionTactic
import Derived.ChangeAlike
import Derived.Test.YtbemkokigpcmdaaDoorWWords
import Derived.Test.YtbemkokigpcmdaaDoorWLast
import Derived.Test.YtbemkokigpcmdaaDoorWTab
import Derived.Test.YtbemkokigpcmdaaDoorWFour
import Derived.Test.YtbemkokigpcmdaaDoorWQPut
import Derived.Test.YtbemkokigpcmdaaDoorWApart
import Derived.Test.YtbemkokigpcmdaaDoorWArr
import Derived.Test.YtbemkokigpcmdaaDoorWZeros
import Derived.Test.YtbemkokigpcmdaaDoorWFoot
import Derived.Test.YtbemkokigpcmdaaDoorWKept
import Derived.Test.YtbemkokigpcmdaaDoorWShare
import Derived.Test.YtbemkokigpcmdaaDoorWN
import Derived.Test.YtbemkokigpcmdaaDoorWFootNe
import Derived.Test.YtbemkokigpcmdaaDoorWAt
import Derived.Test.YtbemkokigpcmdaaDoorWEqStruct
import Derived.Test.YtbemkokigpcmdaaDoorWRepsOne
import Derived.Test.YtbemkokigpcmdaaDoorWInv
import Derived.Test.YtbemkokigpcmdaaDoorWInvWords
import Derived.Test.YtbemkokigpcmdaaDoorWGuard
import Derived.Test.YtbemkokigpcmdaaDoorWNEv
import Derived.Test.YtbemkokigpcmdaaDoorWMore
namespace Go.Proofs.YtbemkokigpcmdaaDoor.MFnMtWith
open Go.RowKit Go.Proofs.YtbemkokigpcmdaaDoorW.PrintWords Go.Proofs.YtbemkokigpcmdaaDoorW.PrintLast Go.Proofs.YtbemkokigpcmdaaDoorW.PrintMore
attribute [local go_sem] max2_int min2_int max_two min_two max_three min_three max_four min_four   -- for this text's walks alone
set_option linter.unusedVariables false
set_option linter.unusedSimpArgs false



def errW : Option (TypeId × Value) → Value
  | none => .nilIface
  | some c => .iface c.1 c.2
theorem wrap64_id {x : Int} (h1 : -9223372036854775808 ≤ x) (h2 : x ≤ 9223372036854775807) : wrap64 x = x := by unfold wrap64; omega
theorem errW_none : errW none = .nilIface := rfl
theorem errW_some (c : TypeId × Value) : errW (some c) = .iface c.1 c.2 := rfl

theorem info5 : (Tryd.prog.info? 5).map (fun i => (i.zero, i.size, i.bytes)) = some (some (.int .u8 0), 1, 1) := by kernel_rfl
theorem info9 : (Tryd.prog.info? 9).map (fun i => (i.zero, i.size, i.bytes)) = some (some (.string ⟨#[]⟩), 1, 16) := by kernel_rfl
-- the values' own types

end Go.Proofs.YtbemkokigpcmdaaDoor.MFnMtWith
