-- PRINTED BY print.sh 35421559b90ae4d0a3588c463048766b98c2df88dd9212a6774a882060cdf62d: not written by this session
import Derived.Test.YtfanlhkpblemgaaDoorProg
import Derived.Below
import Derived.Deep.Draws
import Derived.Deep.AppendLies
import Derived.Maps.AppendAt
import Derived.OwnWalk
import Derived.Laws.BytesArg
import Derived.Laws.MakeOwn
import Derived.Laws.OwnMore
import Derived.Deep.OwnRows
import Derived.Tactics
import Derived.Lib.ConvBytes
import Derived.Laws.Slices
import Derived.WalkKit
import Derived.KernelRfl
import Derived.RowKit3
import Derived.Deep.LoopGhost
import Derived.Deep.QuietTactic
import Derived.BigQuiet
import Derived.WideLaws
import Derived.Deep.DeepCutAuto
import Derived.Deep.CutBlock
import Derived.Deep.RegionHeld3
import Derived.Laws.Rows
import Derived.Lib.AppendStr
import Derived.ArgAppend
import Derived.Laws.IdiomCopy
import Derived.OrdersHeld
import Derived.Laws.BitsLemmas
import Derived.RowKit
import Derived.Test.YtfanlhkpblemgaaDoorWWords
import Derived.Test.YtfanlhkpblemgaaDoorWLast
import Derived.Test.YtfanlhkpblemgaaDoorWTab
import Derived.Test.YtfanlhkpblemgaaDoorWFour
import Derived.Test.YtfanlhkpblemgaaDoorWQPut
import Derived.Test.YtfanlhkpblemgaaDoorWApart
import Derived.Test.YtfanlhkpblemgaaDoorWArr
import Derived.Test.YtfanlhkpblemgaaDoorWZeros
import Derived.Test.YtfanlhkpblemgaaDoorWFoot
import Derived.Test.YtfanlhkpblemgaaDoorWKept
import Derived.Test.YtfanlhkpblemgaaDoorWShare
import Derived.Test.YtfanlhkpblemgaaDoorWN
import Derived.Test.YtfanlhkpblemgaaDoorWFootNe
import Derived.Test.YtfanlhkpblemgaaDoorWAt
import Derived.Test.YtfanlhkpblemgaaDoorWEqStruct
import Derived.Test.YtfanlhkpblemgaaDoorWRepsOne
import Derived.Test.YtfanlhkpblemgaaDoorWInv
import Derived.Test.YtfanlhkpblemgaaDoorWInvWords
import Derived.Test.YtfanlhkpblemgaaDoorWGuard
import Derived.Test.YtfanlhkpblemgaaDoorWNEv
import Derived.Test.YtfanlhkpblemgaaDoorWMore
namespace Go.Proofs.YtfanlhkpblemgaaDoor.PFnVerityBack
open Go.RowKit Go.Proofs.YtfanlhkpblemgaaDoorW.PrintWords Go.Proofs.YtfanlhkpblemgaaDoorW.PrintLast Go.Proofs.YtfanlhkpblemgaaDoorW.PrintMore
attribute [local go_sem] max2_int min2_int max_two min_two max_three min_three max_four min_four   -- for this text's walks alone
set_option linter.unusedVariables false
set_option linter.unusedSimpArgs false



def errW : Option Int → Value
  | none => .nilIface
  | some c => .iface 0 (.int .i64 c)
theorem errW_none : errW none = .nilIface := rfl
theorem errW_some (c : Int) : errW (some c) = .iface 0 (.int .i64 c) := rfl

theorem info5 : (Tryd.prog.info? 5).map (fun i => (i.zero, i.size, i.bytes)) = some (some (.int .u8 0), 1, 1) := by kernel_rfl
-- the values' own types

end Go.Proofs.YtfanlhkpblemgaaDoor.PFnVerityBack
