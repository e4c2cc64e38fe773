-- written by a program of mine (wip/tools/myprint.py) for this claim. Not trusted: Lean checks it.
import Derived.Test.YtapdpmjbfplmfaaProg
import Derived.Below
import Derived.Deep.Draws
import Derived.Deep.AppendLies
import Derived.Maps.AppendAt
import Derived.OwnWalk
import Derived.Laws.BytesArg
import Derived.Laws.MakeOwn
import Derived.Laws.OwnMore
import Derived.Deep.OwnRows
import Derived.Tactics
import Derived.Lib.ConvBytes
import Derived.Laws.Slices
import Derived.WalkKit
import Derived.KernelRfl
import Derived.RowKit3
import Derived.Deep.LoopGhost
import Derived.Deep.QuietTactic
import Derived.BigQuiet
import Derived.WideLaws
import Derived.Deep.DeepCutAuto
import Derived.Deep.CutBlock
import Derived.Deep.RegionHeld3
import Derived.Laws.Rows
import Derived.Lib.AppendStr
import Derived.ArgAppend
import Derived.Laws.IdiomCopy
import Derived.OrdersHeld
import Derived.Laws.BitsLemmas
import Derived.RowKit
import Derived.Test.YtapdpmjbfplmfaaMyWords
import Derived.Test.YtapdpmjbfplmfaaWWords
import Derived.Test.YtapdpmjbfplmfaaWLast
import Derived.Test.YtapdpmjbfplmfaaWTab
import Derived.Test.YtapdpmjbfplmfaaWFour
import Derived.Test.YtapdpmjbfplmfaaWQPut
import Derived.Test.YtapdpmjbfplmfaaWApart
import Derived.Test.YtapdpmjbfplmfaaWArr
import Derived.Test.YtapdpmjbfplmfaaWZeros
import Derived.Test.YtapdpmjbfplmfaaWFoot
import Derived.Test.YtapdpmjbfplmfaaWKept
import Derived.Test.YtapdpmjbfplmfaaWShare
import Derived.Test.YtapdpmjbfplmfaaWN
import Derived.Test.YtapdpmjbfplmfaaWFootNe
import Derived.Test.YtapdpmjbfplmfaaWAt
import Derived.Test.YtapdpmjbfplmfaaWEqStruct
import Derived.Test.YtapdpmjbfplmfaaWRepsOne
import Derived.Test.YtapdpmjbfplmfaaWInv
import Derived.Test.YtapdpmjbfplmfaaWInvWords
import Derived.Test.YtapdpmjbfplmfaaWGuard
import Derived.Test.YtapdpmjbfplmfaaWNEv
import Derived.Test.YtapdpmjbfplmfaaWMore
namespace Go.Proofs.Ytapdpmjbfplmfaa.QDigest
open Go.RowKit Go.Proofs.YtapdpmjbfplmfaaW.PrintWords Go.Proofs.YtapdpmjbfplmfaaW.PrintLast Go.Proofs.YtapdpmjbfplmfaaW.PrintMore
attribute [local go_sem] max2_int min2_int max_two min_two max_three min_three max_four min_four   -- for this text's walks alone
set_option linter.unusedVariables false
set_option linter.unusedSimpArgs false



def errW : Option Int → Value
  | none => .nilIface
  | some c => .iface 0 (.int .i64 c)
theorem errW_none : errW none = .nilIface := rfl
theorem errW_some (c : Int) : errW (some c) = .iface 0 (.int .i64 c) := rfl

theorem info5 : (Try.prog.info? 5).map (fun i => (i.zero, i.size, i.bytes)) = some (some (.int .u8 0), 1, 1) := by kernel_rfl
-- the values' own types

end Go.Proofs.Ytapdpmjbfplmfaa.QDigest
