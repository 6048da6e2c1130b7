-- PRINTED BY print.sh 35421559b90ae4d0a3588c463048766b98c2df88dd9212a6774a882060cdf62d: not written by this session
import Derived.Test.YtloflgkidclhoaaDoorProg
import Derived.Below
import Derived.Deep.Draws
import Derived.Deep.AppendLies
import Derived.Maps.AppendAt
import Derived.OwnWalk
import Derived.Laws.BytesArg
import Derived.Laws.MakeOwn
import Derived.Laws.OwnMore
import Derived.Deep.OwnRows
import Derived.Tactics
import Derived.Lib.ConvBytes
import Derived.Laws.Slices
import Derived.WalkKit
import Derived.KernelRfl
import Derived.RowKit3
import Derived.Deep.LoopGhost
import Derived.Deep.QuietTactic
import Derived.BigQuiet
import Derived.WideLaws
import Derived.Deep.DeepCutAuto
import Derived.Deep.CutBlock
import Derived.Deep.RegionHeld3
import Derived.Laws.Rows
import Derived.Lib.AppendStr
import Derived.ArgAppend
import Derived.Laws.IdiomCopy
import Derived.OrdersHeld
import Derived.Laws.BitsLemmas
import Derived.RowKit
import Derived.Test.YtloflgkidclhoaaDoorWWords
import Derived.Test.YtloflgkidclhoaaDoorWLast
import Derived.Test.YtloflgkidclhoaaDoorWTab
import Derived.Test.YtloflgkidclhoaaDoorWFour
import Derived.Test.YtloflgkidclhoaaDoorWQPut
import Derived.Test.YtloflgkidclhoaaDoorWApart
import Derived.Test.YtloflgkidclhoaaDoorWArr
import Derived.Test.YtloflgkidclhoaaDoorWZeros
import Derived.Test.YtloflgkidclhoaaDoorWFoot
import Derived.Test.YtloflgkidclhoaaDoorWKept
import Derived.Test.YtloflgkidclhoaaDoorWShare
import Derived.Test.YtloflgkidclhoaaDoorWN
import Derived.Test.YtloflgkidclhoaaDoorWFootNe
import Derived.Test.YtloflgkidclhoaaDoorWAt
import Derived.Test.YtloflgkidclhoaaDoorWEqStruct
import Derived.Test.YtloflgkidclhoaaDoorWRepsOne
import Derived.Test.YtloflgkidclhoaaDoorWInv
import Derived.Test.YtloflgkidclhoaaDoorWInvWords
import Derived.Test.YtloflgkidclhoaaDoorWGuard
import Derived.Test.YtloflgkidclhoaaDoorWNEv
import Derived.Test.YtloflgkidclhoaaDoorWMore
namespace Go.Proofs.YtloflgkidclhoaaDoor.PFnPackBitsBack
open Go.RowKit Go.Proofs.YtloflgkidclhoaaDoorW.PrintWords Go.Proofs.YtloflgkidclhoaaDoorW.PrintLast Go.Proofs.YtloflgkidclhoaaDoorW.PrintMore
attribute [local go_sem] max2_int min2_int max_two min_two max_three min_three max_four min_four   -- for this text's walks alone
set_option linter.unusedVariables false
set_option linter.unusedSimpArgs false



def errW : Option Int → Value
  | none => .nilIface
  | some c => .iface 0 (.int .i64 c)
theorem errW_none : errW none = .nilIface := rfl
theorem errW_some (c : Int) : errW (some c) = .iface 0 (.int .i64 c) := rfl

theorem info5 : (Tryd.prog.info? 5).map (fun i => (i.zero, i.size, i.bytes)) = some (some (.int .u8 0), 1, 1) := by kernel_rfl
-- the values' own types

end Go.Proofs.YtloflgkidclhoaaDoor.PFnPackBitsBack
