-- written by a program of mine (wip/tools/myprint.py) for this claim. Not trusted: Lean checks it.
import Derived.Test.YtlooelfkkbgmhaaDoorProg
import Derived.Below
import Derived.Deep.Draws
import Derived.Deep.AppendLies
import Derived.Maps.AppendAt
import Derived.OwnWalk
import Derived.Laws.BytesArg
import Derived.Laws.MakeOwn
import Derived.Laws.OwnMore
import Derived.Deep.OwnRows
import Derived.Tactics
import Derived.Lib.ConvBytes
import Derived.Laws.Slices
import Derived.WalkKit
import Derived.KernelRfl
import Derived.RowKit3
import Derived.Deep.LoopGhost
import Derived.Deep.QuietTactic
import Derived.BigQuiet
import Derived.WideLaws
import Derived.Deep.DeepCutAuto
import Derived.Deep.CutBlock
import Derived.Deep.RegionHeld3
import Derived.Laws.Rows
import Derived.Lib.AppendStr
import Derived.ArgAppend
import Derived.Laws.IdiomCopy
import Derived.OrdersHeld
import Derived.Laws.BitsLemmas
import Derived.RowKit
import Derived.Test.YtlooelfkkbgmhaaDoorMyWords
import Derived.Test.YtlooelfkkbgmhaaDoorPart
import Derived.Test.YtlooelfkkbgmhaaDoorWWords
import Derived.Test.YtlooelfkkbgmhaaDoorWLast
import Derived.Test.YtlooelfkkbgmhaaDoorWTab
import Derived.Test.YtlooelfkkbgmhaaDoorWFour
import Derived.Test.YtlooelfkkbgmhaaDoorWQPut
import Derived.Test.YtlooelfkkbgmhaaDoorWApart
import Derived.Test.YtlooelfkkbgmhaaDoorWArr
import Derived.Test.YtlooelfkkbgmhaaDoorWZeros
import Derived.Test.YtlooelfkkbgmhaaDoorWFoot
import Derived.Test.YtlooelfkkbgmhaaDoorWKept
import Derived.Test.YtlooelfkkbgmhaaDoorWShare
import Derived.Test.YtlooelfkkbgmhaaDoorWN
import Derived.Test.YtlooelfkkbgmhaaDoorWFootNe
import Derived.Test.YtlooelfkkbgmhaaDoorWAt
import Derived.Test.YtlooelfkkbgmhaaDoorWEqStruct
import Derived.Test.YtlooelfkkbgmhaaDoorWRepsOne
import Derived.Test.YtlooelfkkbgmhaaDoorWInv
import Derived.Test.YtlooelfkkbgmhaaDoorWInvWords
import Derived.Test.YtlooelfkkbgmhaaDoorWGuard
import Derived.Test.YtlooelfkkbgmhaaDoorWNEv
import Derived.Test.YtlooelfkkbgmhaaDoorWMore
namespace Go.Proofs.YtlooelfkkbgmhaaDoor
open Go.RowKit Go.Proofs.YtlooelfkkbgmhaaDoorW.PrintWords Go.Proofs.YtlooelfkkbgmhaaDoorW.PrintLast Go.Proofs.YtlooelfkkbgmhaaDoorW.PrintMore
attribute [local go_sem] max2_int min2_int max_two min_two max_three min_three max_four min_four   -- for this text's walks alone
set_option linter.unusedVariables false
set_option linter.unusedSimpArgs false



def errW : Option Int → Value
  | none => .nilIface
  | some c => .iface 0 (.int .i64 c)
theorem errW_none : errW none = .nilIface := rfl
theorem errW_some (c : Int) : errW (some c) = .iface 0 (.int .i64 c) := rfl

theorem info9 : (Tryd.prog.info? 9).map (fun i => (i.zero, i.size, i.bytes)) = some (some (.string ⟨#[]⟩), 1, 16) := by kernel_rfl
-- the values' own types

end Go.Proofs.YtlooelfkkbgmhaaDoor
