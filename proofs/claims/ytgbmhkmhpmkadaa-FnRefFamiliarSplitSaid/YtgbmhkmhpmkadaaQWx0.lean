-- written by a program of mine (wip/tools/myprint.py) for this claim. Not trusted: Lean checks it.
import Derived.Test.YtgbmhkmhpmkadaaProg
import Derived.Below
import Derived.Deep.Draws
import Derived.Deep.AppendLies
import Derived.Maps.AppendAt
import Derived.OwnWalk
import Derived.Laws.BytesArg
import Derived.Laws.MakeOwn
import Derived.Laws.OwnMore
import Derived.Deep.OwnRows
import Derived.Tactics
import Derived.Lib.ConvBytes
import Derived.Laws.Slices
import Derived.WalkKit
import Derived.KernelRfl
import Derived.RowKit3
import Derived.Deep.LoopGhost
import Derived.Deep.QuietTactic
import Derived.BigQuiet
import Derived.WideLaws
import Derived.Deep.DeepCutAuto
import Derived.Deep.CutBlock
import Derived.Deep.RegionHeld3
import Derived.Laws.Rows
import Derived.Lib.AppendStr
import Derived.ArgAppend
import Derived.Laws.IdiomCopy
import Derived.OrdersHeld
import Derived.Laws.BitsLemmas
import Derived.RowKit
import Derived.Test.YtgbmhkmhpmkadaaWWords
import Derived.Test.YtgbmhkmhpmkadaaWLast
import Derived.Test.YtgbmhkmhpmkadaaWTab
import Derived.Test.YtgbmhkmhpmkadaaWFour
import Derived.Test.YtgbmhkmhpmkadaaWQPut
import Derived.Test.YtgbmhkmhpmkadaaWApart
import Derived.Test.YtgbmhkmhpmkadaaWArr
import Derived.Test.YtgbmhkmhpmkadaaWZeros
import Derived.Test.YtgbmhkmhpmkadaaWFoot
import Derived.Test.YtgbmhkmhpmkadaaWKept
import Derived.Test.YtgbmhkmhpmkadaaWShare
import Derived.Test.YtgbmhkmhpmkadaaWN
import Derived.Test.YtgbmhkmhpmkadaaWFootNe
import Derived.Test.YtgbmhkmhpmkadaaWAt
import Derived.Test.YtgbmhkmhpmkadaaWEqStruct
import Derived.Test.YtgbmhkmhpmkadaaWRepsOne
import Derived.Test.YtgbmhkmhpmkadaaWInv
import Derived.Test.YtgbmhkmhpmkadaaWInvWords
import Derived.Test.YtgbmhkmhpmkadaaWGuard
import Derived.Test.YtgbmhkmhpmkadaaWNEv
import Derived.Test.YtgbmhkmhpmkadaaWMore
namespace Go.Proofs.Ytgbmhkmhpmkadaa.QW
open Go.RowKit Go.Proofs.YtgbmhkmhpmkadaaW.PrintWords Go.Proofs.YtgbmhkmhpmkadaaW.PrintLast Go.Proofs.YtgbmhkmhpmkadaaW.PrintMore
attribute [local go_sem] max2_int min2_int max_two min_two max_three min_three max_four min_four   -- for this text's walks alone
set_option linter.unusedVariables false
set_option linter.unusedSimpArgs false



def errW : Option Int → Value
  | none => .nilIface
  | some c => .iface 0 (.int .i64 c)
theorem errW_none : errW none = .nilIface := rfl
theorem errW_some (c : Int) : errW (some c) = .iface 0 (.int .i64 c) := rfl

theorem info5 : (Try.prog.info? 5).map (fun i => (i.zero, i.size, i.bytes)) = some (some (.int .u8 0), 1, 1) := by kernel_rfl
-- the values' own types

end Go.Proofs.Ytgbmhkmhpmkadaa.QW
