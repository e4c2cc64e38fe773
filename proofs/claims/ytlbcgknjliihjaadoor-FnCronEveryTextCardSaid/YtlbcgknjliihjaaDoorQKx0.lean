-- written by a program of mine (wip/tools/myprint.py) for this claim. Not trusted: Lean checks it.
import Derived.Test.YtlbcgknjliihjaaDoorProg
import Derived.Below
import Derived.Deep.Draws
import Derived.Deep.AppendLies
import Derived.Maps.AppendAt
import Derived.OwnWalk
import Derived.Laws.BytesArg
import Derived.Laws.MakeOwn
import Derived.Laws.OwnMore
import Derived.Deep.OwnRows
import Derived.Tactics
import Derived.Lib.ConvBytes
import Derived.Laws.Slices
import Derived.WalkKit
import Derived.KernelRfl
import Derived.RowKit3
import Derived.Deep.LoopGhost
import Derived.Deep.QuietTactic
import Derived.BigQuiet
import Derived.WideLaws
import Derived.Deep.DeepCutAuto
import Derived.Deep.CutBlock
import Derived.Deep.RegionHeld3
import Derived.Laws.Rows
import Derived.Lib.AppendStr
import Derived.ArgAppend
import Derived.Laws.IdiomCopy
import Derived.OrdersHeld
import Derived.Laws.BitsLemmas
import Derived.RowKit
import Derived.Test.YtlbcgknjliihjaaDoorWWords
import Derived.Test.YtlbcgknjliihjaaDoorWLast
import Derived.Test.YtlbcgknjliihjaaDoorWTab
import Derived.Test.YtlbcgknjliihjaaDoorWFour
import Derived.Test.YtlbcgknjliihjaaDoorWQPut
import Derived.Test.YtlbcgknjliihjaaDoorWApart
import Derived.Test.YtlbcgknjliihjaaDoorWArr
import Derived.Test.YtlbcgknjliihjaaDoorWZeros
import Derived.Test.YtlbcgknjliihjaaDoorWFoot
import Derived.Test.YtlbcgknjliihjaaDoorWKept
import Derived.Test.YtlbcgknjliihjaaDoorWShare
import Derived.Test.YtlbcgknjliihjaaDoorWN
import Derived.Test.YtlbcgknjliihjaaDoorWFootNe
import Derived.Test.YtlbcgknjliihjaaDoorWAt
import Derived.Test.YtlbcgknjliihjaaDoorWEqStruct
import Derived.Test.YtlbcgknjliihjaaDoorWRepsOne
import Derived.Test.YtlbcgknjliihjaaDoorWInv
import Derived.Test.YtlbcgknjliihjaaDoorWInvWords
import Derived.Test.YtlbcgknjliihjaaDoorWGuard
import Derived.Test.YtlbcgknjliihjaaDoorWNEv
import Derived.Test.YtlbcgknjliihjaaDoorWMore
namespace Go.Proofs.YtlbcgknjliihjaaDoor.QK
open Go.RowKit Go.Proofs.YtlbcgknjliihjaaDoorW.PrintWords Go.Proofs.YtlbcgknjliihjaaDoorW.PrintLast Go.Proofs.YtlbcgknjliihjaaDoorW.PrintMore
attribute [local go_sem] max2_int min2_int max_two min_two max_three min_three max_four min_four   -- for this text's walks alone
set_option linter.unusedVariables false
set_option linter.unusedSimpArgs false



def errW : Option Int → Value
  | none => .nilIface
  | some c => .iface 0 (.int .i64 c)
theorem errW_none : errW none = .nilIface := rfl
theorem errW_some (c : Int) : errW (some c) = .iface 0 (.int .i64 c) := rfl

-- the values' own types

end Go.Proofs.YtlbcgknjliihjaaDoor.QK
