-- written by gprint.py, a program of this claim's own, by means of the kit's print
import Derived.Test.YthicaehcoingeaaProg
import Derived.Below
import Derived.Deep.Draws
import Derived.Deep.AppendLies
import Derived.Maps.AppendAt
import Derived.OwnWalk
import Derived.Laws.BytesArg
import Derived.Laws.MakeOwn
import Derived.Laws.OwnMore
import Derived.Deep.OwnRows
import Derived.Tactics
import Derived.Lib.ConvBytes
import Derived.Laws.Slices
import Derived.WalkKit
import Derived.KernelRfl
import Derived.RowKit3
import Derived.Deep.LoopGhost
import Derived.Deep.QuietTactic
import Derived.BigQuiet
import Derived.WideLaws
import Derived.Deep.DeepCutAuto
import Derived.Deep.CutBlock
import Derived.Deep.RegionHeld3
import Derived.Laws.Rows
import Derived.Lib.AppendStr
import Derived.ArgAppend
import Derived.Laws.IdiomCopy
import Derived.OrdersHeld
import Derived.Laws.BitsLemmas
import Derived.RowKit
import Derived.Test.YthicaehcoingeaaWWords
import Derived.Test.YthicaehcoingeaaWLast
import Derived.Test.YthicaehcoingeaaWTab
import Derived.Test.YthicaehcoingeaaWFour
import Derived.Test.YthicaehcoingeaaWQPut
import Derived.Test.YthicaehcoingeaaWApart
import Derived.Test.YthicaehcoingeaaWArr
import Derived.Test.YthicaehcoingeaaWZeros
import Derived.Test.YthicaehcoingeaaWFoot
import Derived.Test.YthicaehcoingeaaWKept
import Derived.Test.YthicaehcoingeaaWShare
import Derived.Test.YthicaehcoingeaaWN
import Derived.Test.YthicaehcoingeaaWFootNe
import Derived.Test.YthicaehcoingeaaWAt
import Derived.Test.YthicaehcoingeaaWEqStruct
import Derived.Test.YthicaehcoingeaaWRepsOne
import Derived.Test.YthicaehcoingeaaWInv
import Derived.Test.YthicaehcoingeaaWInvWords
import Derived.Test.YthicaehcoingeaaWGuard
import Derived.Test.YthicaehcoingeaaWNEv
import Derived.Test.YthicaehcoingeaaWMore
namespace Go.Proofs.Ythicaehcoingeaa.PTX
open Go.RowKit Go.Proofs.YthicaehcoingeaaW.PrintWords Go.Proofs.YthicaehcoingeaaW.PrintLast Go.Proofs.YthicaehcoingeaaW.PrintMore
attribute [local go_sem] max2_int min2_int max_two min_two max_three min_three max_four min_four   -- for this text's walks alone
set_option linter.unusedVariables false
set_option linter.unusedSimpArgs false



def errW : Option Int → Value
  | none => .nilIface
  | some c => .iface 0 (.int .i64 c)
theorem errW_none : errW none = .nilIface := rfl
theorem errW_some (c : Int) : errW (some c) = .iface 0 (.int .i64 c) := rfl

theorem info5 : (Try.prog.info? 5).map (fun i => (i.zero, i.size, i.bytes)) = some (some (.int .u8 0), 1, 1) := by kernel_rfl
-- the values' own types

end Go.Proofs.Ythicaehcoingeaa.PTX
