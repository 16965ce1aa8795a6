/- Written by a program of this session (a turned copy of the print) out of the translation. -/
import Derived.Test.YtgbliniamkpocaaDoorProg
import Derived.Below
import Derived.Deep.Draws
import Derived.Deep.AppendLies
import Derived.Maps.AppendAt
import Derived.OwnWalk
import Derived.Laws.BytesArg
import Derived.Laws.MakeOwn
import Derived.Laws.OwnMore
import Derived.Deep.OwnRows
import Derived.Tactics
import Derived.Lib.ConvBytes
import Derived.Laws.Slices
import Derived.WalkKit
import Derived.KernelRfl
import Derived.RowKit3
import Derived.Deep.LoopGhost
import Derived.Deep.QuietTactic
import Derived.BigQuiet
import Derived.WideLaws
import Derived.Deep.DeepCutAuto
import Derived.Deep.CutBlock
import Derived.Deep.RegionHeld3
import Derived.Laws.Rows
import Derived.Lib.AppendStr
import Derived.ArgAppend
import Derived.Laws.IdiomCopy
import Derived.OrdersHeld
import Derived.Laws.BitsLemmas
import Derived.RowKit
import Derived.Test.YtgbliniamkpocaaDoorKit
import Derived.Test.YtgbliniamkpocaaDoorWWords
import Derived.Test.YtgbliniamkpocaaDoorWLast
import Derived.Test.YtgbliniamkpocaaDoorWTab
import Derived.Test.YtgbliniamkpocaaDoorWFour
import Derived.Test.YtgbliniamkpocaaDoorWQPut
import Derived.Test.YtgbliniamkpocaaDoorWApart
import Derived.Test.YtgbliniamkpocaaDoorWArr
import Derived.Test.YtgbliniamkpocaaDoorWZeros
import Derived.Test.YtgbliniamkpocaaDoorWFoot
import Derived.Test.YtgbliniamkpocaaDoorWKept
import Derived.Test.YtgbliniamkpocaaDoorWShare
import Derived.Test.YtgbliniamkpocaaDoorWN
import Derived.Test.YtgbliniamkpocaaDoorWFootNe
import Derived.Test.YtgbliniamkpocaaDoorWAt
import Derived.Test.YtgbliniamkpocaaDoorWEqStruct
import Derived.Test.YtgbliniamkpocaaDoorWRepsOne
import Derived.Test.YtgbliniamkpocaaDoorWInv
import Derived.Test.YtgbliniamkpocaaDoorWInvWords
import Derived.Test.YtgbliniamkpocaaDoorWGuard
import Derived.Test.YtgbliniamkpocaaDoorWNEv
import Derived.Test.YtgbliniamkpocaaDoorWMore
namespace Go.Proofs.YtgbliniamkpocaaDoor.PEsc
open Go.RowKit Go.Proofs.YtgbliniamkpocaaDoorW.PrintWords Go.Proofs.YtgbliniamkpocaaDoorW.PrintLast Go.Proofs.YtgbliniamkpocaaDoorW.PrintMore
attribute [local go_sem] max2_int min2_int max_two min_two max_three min_three max_four min_four   -- for this text's walks alone
set_option linter.unusedVariables false
set_option linter.unusedSimpArgs false



def errW : Option Int → Value
  | none => .nilIface
  | some c => .iface 0 (.int .i64 c)
theorem errW_none : errW none = .nilIface := rfl
theorem errW_some (c : Int) : errW (some c) = .iface 0 (.int .i64 c) := rfl

theorem info5 : (Tryd.prog.info? 5).map (fun i => (i.zero, i.size, i.bytes)) = some (some (.int .u8 0), 1, 1) := by kernel_rfl
-- the values' own types

end Go.Proofs.YtgbliniamkpocaaDoor.PEsc
