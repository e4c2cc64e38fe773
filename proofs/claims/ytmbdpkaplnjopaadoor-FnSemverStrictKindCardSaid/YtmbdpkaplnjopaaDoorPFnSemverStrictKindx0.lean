-- PRINTED BY print.sh 35421559b90ae4d0a3588c463048766b98c2df88dd9212a6774a882060cdf62d: not written by this session
import Derived.Test.YtmbdpkaplnjopaaDoorProg
import Derived.Below
import Derived.Deep.Draws
import Derived.Deep.AppendLies
import Derived.Maps.AppendAt
import Derived.OwnWalk
import Derived.Laws.BytesArg
import Derived.Laws.MakeOwn
import Derived.Laws.OwnMore
import Derived.Deep.OwnRows
import Derived.Tactics
import Derived.Lib.ConvBytes
import Derived.Laws.Slices
import Derived.WalkKit
import Derived.KernelRfl
import Derived.RowKit3
import Derived.Deep.LoopGhost
import Derived.Deep.QuietTactic
import Derived.BigQuiet
import Derived.WideLaws
import Derived.Deep.DeepCutAuto
import Derived.Deep.CutBlock
import Derived.Deep.RegionHeld3
import Derived.Laws.Rows
import Derived.Lib.AppendStr
import Derived.ArgAppend
import Derived.Laws.IdiomCopy
import Derived.OrdersHeld
import Derived.Laws.BitsLemmas
import Derived.RowKit
import Derived.Test.YtmbdpkaplnjopaaDoorWWords
import Derived.Test.YtmbdpkaplnjopaaDoorWLast
import Derived.Test.YtmbdpkaplnjopaaDoorWTab
import Derived.Test.YtmbdpkaplnjopaaDoorWFour
import Derived.Test.YtmbdpkaplnjopaaDoorWQPut
import Derived.Test.YtmbdpkaplnjopaaDoorWApart
import Derived.Test.YtmbdpkaplnjopaaDoorWArr
import Derived.Test.YtmbdpkaplnjopaaDoorWZeros
import Derived.Test.YtmbdpkaplnjopaaDoorWFoot
import Derived.Test.YtmbdpkaplnjopaaDoorWKept
import Derived.Test.YtmbdpkaplnjopaaDoorWShare
import Derived.Test.YtmbdpkaplnjopaaDoorWN
import Derived.Test.YtmbdpkaplnjopaaDoorWFootNe
import Derived.Test.YtmbdpkaplnjopaaDoorWAt
import Derived.Test.YtmbdpkaplnjopaaDoorWEqStruct
import Derived.Test.YtmbdpkaplnjopaaDoorWRepsOne
import Derived.Test.YtmbdpkaplnjopaaDoorWInv
import Derived.Test.YtmbdpkaplnjopaaDoorWInvWords
import Derived.Test.YtmbdpkaplnjopaaDoorWGuard
import Derived.Test.YtmbdpkaplnjopaaDoorWNEv
import Derived.Test.YtmbdpkaplnjopaaDoorWMore
namespace Go.Proofs.YtmbdpkaplnjopaaDoor.PFnSemverStrictKind
open Go.RowKit Go.Proofs.YtmbdpkaplnjopaaDoorW.PrintWords Go.Proofs.YtmbdpkaplnjopaaDoorW.PrintLast Go.Proofs.YtmbdpkaplnjopaaDoorW.PrintMore
attribute [local go_sem] max2_int min2_int max_two min_two max_three min_three max_four min_four   -- for this text's walks alone
set_option linter.unusedVariables false
set_option linter.unusedSimpArgs false



def errW : Option Int → Value
  | none => .nilIface
  | some c => .iface 63 (.int .i64 c)
theorem errW_none : errW none = .nilIface := rfl
theorem errW_some (c : Int) : errW (some c) = .iface 63 (.int .i64 c) := rfl

theorem info9 : (Tryd.prog.info? 9).map (fun i => (i.zero, i.size, i.bytes)) = some (some (.string ⟨#[]⟩), 1, 16) := by kernel_rfl
-- the values' own types

end Go.Proofs.YtmbdpkaplnjopaaDoor.PFnSemverStrictKind
