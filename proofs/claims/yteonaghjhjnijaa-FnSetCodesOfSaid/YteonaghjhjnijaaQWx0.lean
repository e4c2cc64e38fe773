-- written by a program of mine (wip/tools/myprint.py) for this claim. Not trusted: Lean checks it.
import Derived.Test.YteonaghjhjnijaaProg
import Derived.Below
import Derived.Deep.Draws
import Derived.Deep.AppendLies
import Derived.Maps.AppendAt
import Derived.OwnWalk
import Derived.Laws.BytesArg
import Derived.Laws.MakeOwn
import Derived.Laws.OwnMore
import Derived.Deep.OwnRows
import Derived.Tactics
import Derived.Lib.ConvBytes
import Derived.Laws.Slices
import Derived.WalkKit
import Derived.KernelRfl
import Derived.RowKit3
import Derived.Deep.LoopGhost
import Derived.Deep.QuietTactic
import Derived.BigQuiet
import Derived.WideLaws
import Derived.Deep.DeepCutAuto
import Derived.Deep.CutBlock
import Derived.Deep.RegionHeld3
import Derived.Laws.Rows
import Derived.Lib.AppendStr
import Derived.ArgAppend
import Derived.Laws.IdiomCopy
import Derived.OrdersHeld
import Derived.Laws.BitsLemmas
import Derived.RowKit
import Derived.Test.YteonaghjhjnijaaWWords
import Derived.Test.YteonaghjhjnijaaWLast
import Derived.Test.YteonaghjhjnijaaWTab
import Derived.Test.YteonaghjhjnijaaWFour
import Derived.Test.YteonaghjhjnijaaWQPut
import Derived.Test.YteonaghjhjnijaaWApart
import Derived.Test.YteonaghjhjnijaaWArr
import Derived.Test.YteonaghjhjnijaaWZeros
import Derived.Test.YteonaghjhjnijaaWFoot
import Derived.Test.YteonaghjhjnijaaWKept
import Derived.Test.YteonaghjhjnijaaWShare
import Derived.Test.YteonaghjhjnijaaWN
import Derived.Test.YteonaghjhjnijaaWFootNe
import Derived.Test.YteonaghjhjnijaaWAt
import Derived.Test.YteonaghjhjnijaaWEqStruct
import Derived.Test.YteonaghjhjnijaaWRepsOne
import Derived.Test.YteonaghjhjnijaaWInv
import Derived.Test.YteonaghjhjnijaaWInvWords
import Derived.Test.YteonaghjhjnijaaWGuard
import Derived.Test.YteonaghjhjnijaaWNEv
import Derived.Test.YteonaghjhjnijaaWMore
namespace Go.Proofs.Yteonaghjhjnijaa.QW
open Go.RowKit Go.Proofs.YteonaghjhjnijaaW.PrintWords Go.Proofs.YteonaghjhjnijaaW.PrintLast Go.Proofs.YteonaghjhjnijaaW.PrintMore
attribute [local go_sem] max2_int min2_int max_two min_two max_three min_three max_four min_four   -- for this text's walks alone
set_option linter.unusedVariables false
set_option linter.unusedSimpArgs false



def errW : Option Int → Value
  | none => .nilIface
  | some c => .iface 0 (.int .i64 c)
theorem errW_none : errW none = .nilIface := rfl
theorem errW_some (c : Int) : errW (some c) = .iface 0 (.int .i64 c) := rfl

theorem info9 : (Try.prog.info? 9).map (fun i => (i.zero, i.size, i.bytes)) = some (some (.string ⟨#[]⟩), 1, 16) := by kernel_rfl
-- the values' own types

end Go.Proofs.Yteonaghjhjnijaa.QW
