-- PRINTED BY print.sh 35421559b90ae4d0a3588c463048766b98c2df88dd9212a6774a882060cdf62d: not written by this session
import Derived.Test.YtleefaheifjelaaDoorProg
import Derived.Below
import Derived.Deep.Draws
import Derived.Deep.AppendLies
import Derived.Maps.AppendAt
import Derived.OwnWalk
import Derived.Laws.BytesArg
import Derived.Laws.MakeOwn
import Derived.Laws.OwnMore
import Derived.Deep.OwnRows
import Derived.Tactics
import Derived.Lib.ConvBytes
import Derived.Laws.Slices
import Derived.WalkKit
import Derived.KernelRfl
import Derived.RowKit3
import Derived.Deep.LoopGhost
import Derived.Deep.QuietTactic
import Derived.BigQuiet
import Derived.WideLaws
import Derived.Deep.DeepCutAuto
import Derived.Deep.CutBlock
import Derived.Deep.RegionHeld3
import Derived.Laws.Rows
import Derived.Lib.AppendStr
import Derived.ArgAppend
import Derived.Laws.IdiomCopy
import Derived.OrdersHeld
import Derived.Laws.BitsLemmas
import Derived.RowKit
import Derived.Test.YtleefaheifjelaaDoorWWords
import Derived.Test.YtleefaheifjelaaDoorWLast
import Derived.Test.YtleefaheifjelaaDoorWTab
import Derived.Test.YtleefaheifjelaaDoorWFour
import Derived.Test.YtleefaheifjelaaDoorWQPut
import Derived.Test.YtleefaheifjelaaDoorWApart
import Derived.Test.YtleefaheifjelaaDoorWArr
import Derived.Test.YtleefaheifjelaaDoorWZeros
import Derived.Test.YtleefaheifjelaaDoorWFoot
import Derived.Test.YtleefaheifjelaaDoorWKept
import Derived.Test.YtleefaheifjelaaDoorWShare
import Derived.Test.YtleefaheifjelaaDoorWN
import Derived.Test.YtleefaheifjelaaDoorWFootNe
import Derived.Test.YtleefaheifjelaaDoorWAt
import Derived.Test.YtleefaheifjelaaDoorWEqStruct
import Derived.Test.YtleefaheifjelaaDoorWRepsOne
import Derived.Test.YtleefaheifjelaaDoorWInv
import Derived.Test.YtleefaheifjelaaDoorWInvWords
import Derived.Test.YtleefaheifjelaaDoorWGuard
import Derived.Test.YtleefaheifjelaaDoorWNEv
import Derived.Test.YtleefaheifjelaaDoorWMore
namespace Go.Proofs.YtleefaheifjelaaDoor.PFnUnitText
open Go.RowKit Go.Proofs.YtleefaheifjelaaDoorW.PrintWords Go.Proofs.YtleefaheifjelaaDoorW.PrintLast Go.Proofs.YtleefaheifjelaaDoorW.PrintMore
attribute [local go_sem] max2_int min2_int max_two min_two max_three min_three max_four min_four   -- for this text's walks alone
set_option linter.unusedVariables false
set_option linter.unusedSimpArgs false



def errW : Option Int → Value
  | none => .nilIface
  | some c => .iface 0 (.int .i64 c)
theorem errW_none : errW none = .nilIface := rfl
theorem errW_some (c : Int) : errW (some c) = .iface 0 (.int .i64 c) := rfl

theorem info5 : (Tryd.prog.info? 5).map (fun i => (i.zero, i.size, i.bytes)) = some (some (.int .u8 0), 1, 1) := by kernel_rfl
-- the values' own types

end Go.Proofs.YtleefaheifjelaaDoor.PFnUnitText
