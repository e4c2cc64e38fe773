-- written by a program of mine (wip/tools/myprint.py) for this claim. Not trusted: Lean checks it.
import Derived.Test.YtnphijkoaalpnaaProg
import Derived.Below
import Derived.Deep.Draws
import Derived.Deep.AppendLies
import Derived.Maps.AppendAt
import Derived.OwnWalk
import Derived.Laws.BytesArg
import Derived.Laws.MakeOwn
import Derived.Laws.OwnMore
import Derived.Deep.OwnRows
import Derived.Tactics
import Derived.Lib.ConvBytes
import Derived.Laws.Slices
import Derived.WalkKit
import Derived.KernelRfl
import Derived.RowKit3
import Derived.Deep.LoopGhost
import Derived.Deep.QuietTactic
import Derived.BigQuiet
import Derived.WideLaws
import Derived.Deep.DeepCutAuto
import Derived.Deep.CutBlock
import Derived.Deep.RegionHeld3
import Derived.Laws.Rows
import Derived.Lib.AppendStr
import Derived.ArgAppend
import Derived.Laws.IdiomCopy
import Derived.OrdersHeld
import Derived.Laws.BitsLemmas
import Derived.RowKit
import Derived.Test.YtnphijkoaalpnaaWWords
import Derived.Test.YtnphijkoaalpnaaWLast
import Derived.Test.YtnphijkoaalpnaaWTab
import Derived.Test.YtnphijkoaalpnaaWFour
import Derived.Test.YtnphijkoaalpnaaWQPut
import Derived.Test.YtnphijkoaalpnaaWApart
import Derived.Test.YtnphijkoaalpnaaWArr
import Derived.Test.YtnphijkoaalpnaaWZeros
import Derived.Test.YtnphijkoaalpnaaWFoot
import Derived.Test.YtnphijkoaalpnaaWKept
import Derived.Test.YtnphijkoaalpnaaWShare
import Derived.Test.YtnphijkoaalpnaaWN
import Derived.Test.YtnphijkoaalpnaaWFootNe
import Derived.Test.YtnphijkoaalpnaaWAt
import Derived.Test.YtnphijkoaalpnaaWEqStruct
import Derived.Test.YtnphijkoaalpnaaWRepsOne
import Derived.Test.YtnphijkoaalpnaaWInv
import Derived.Test.YtnphijkoaalpnaaWInvWords
import Derived.Test.YtnphijkoaalpnaaWGuard
import Derived.Test.YtnphijkoaalpnaaWNEv
import Derived.Test.YtnphijkoaalpnaaWMore
namespace Go.Proofs.Ytnphijkoaalpnaa.QW
open Go.RowKit Go.Proofs.YtnphijkoaalpnaaW.PrintWords Go.Proofs.YtnphijkoaalpnaaW.PrintLast Go.Proofs.YtnphijkoaalpnaaW.PrintMore
attribute [local go_sem] max2_int min2_int max_two min_two max_three min_three max_four min_four   -- for this text's walks alone
set_option linter.unusedVariables false
set_option linter.unusedSimpArgs false



def errW : Option Int → Value
  | none => .nilIface
  | some c => .iface 0 (.int .i64 c)
theorem errW_none : errW none = .nilIface := rfl
theorem errW_some (c : Int) : errW (some c) = .iface 0 (.int .i64 c) := rfl

theorem info3 : (Try.prog.info? 3).map (fun i => (i.zero, i.size, i.bytes)) = some (some (.int .i64 0), 1, 8) := by kernel_rfl
-- the values' own types

end Go.Proofs.Ytnphijkoaalpnaa.QW
