/- Written by a program of this session (a turned copy of the print) out of the translation. -/
import Derived.Test.YtphpjboljlkdkaaProg
import Derived.Below
import Derived.Deep.Draws
import Derived.Deep.AppendLies
import Derived.Maps.AppendAt
import Derived.OwnWalk
import Derived.Laws.BytesArg
import Derived.Laws.MakeOwn
import Derived.Laws.OwnMore
import Derived.Deep.OwnRows
import Derived.Tactics
import Derived.Lib.ConvBytes
import Derived.Laws.Slices
import Derived.WalkKit
import Derived.KernelRfl
import Derived.RowKit3
import Derived.Deep.LoopGhost
import Derived.Deep.QuietTactic
import Derived.BigQuiet
import Derived.WideLaws
import Derived.Deep.DeepCutAuto
import Derived.Deep.CutBlock
import Derived.Deep.RegionHeld3
import Derived.Laws.Rows
import Derived.Lib.AppendStr
import Derived.ArgAppend
import Derived.Laws.IdiomCopy
import Derived.OrdersHeld
import Derived.Laws.BitsLemmas
import Derived.RowKit
import Derived.LoopTactic
import Derived.Lib.Hide
import Derived.Test.YtphpjboljlkdkaaKit
import Derived.Test.YtphpjboljlkdkaaWWords
import Derived.Test.YtphpjboljlkdkaaWLast
import Derived.Test.YtphpjboljlkdkaaWTab
import Derived.Test.YtphpjboljlkdkaaWFour
import Derived.Test.YtphpjboljlkdkaaWQPut
import Derived.Test.YtphpjboljlkdkaaWApart
import Derived.Test.YtphpjboljlkdkaaWArr
import Derived.Test.YtphpjboljlkdkaaWZeros
import Derived.Test.YtphpjboljlkdkaaWFoot
import Derived.Test.YtphpjboljlkdkaaWKept
import Derived.Test.YtphpjboljlkdkaaWShare
import Derived.Test.YtphpjboljlkdkaaWN
import Derived.Test.YtphpjboljlkdkaaWFootNe
import Derived.Test.YtphpjboljlkdkaaWAt
import Derived.Test.YtphpjboljlkdkaaWEqStruct
import Derived.Test.YtphpjboljlkdkaaWRepsOne
import Derived.Test.YtphpjboljlkdkaaWInv
import Derived.Test.YtphpjboljlkdkaaWInvWords
import Derived.Test.YtphpjboljlkdkaaWGuard
import Derived.Test.YtphpjboljlkdkaaWNEv
import Derived.Test.YtphpjboljlkdkaaWMore
namespace Go.Proofs.Ytphpjboljlkdkaa.PFnGjValidString
open Go.RowKit Go.Proofs.YtphpjboljlkdkaaW.PrintWords Go.Proofs.YtphpjboljlkdkaaW.PrintLast Go.Proofs.YtphpjboljlkdkaaW.PrintMore
attribute [local go_sem] max2_int min2_int max_two min_two max_three min_three max_four min_four   -- for this text's walks alone
set_option linter.unusedVariables false
set_option linter.unusedSimpArgs false



def errW : Option Int → Value
  | none => .nilIface
  | some c => .iface 0 (.int .i64 c)
theorem errW_none : errW none = .nilIface := rfl
theorem errW_some (c : Int) : errW (some c) = .iface 0 (.int .i64 c) := rfl

theorem info5 : (Try.prog.info? 5).map (fun i => (i.zero, i.size, i.bytes)) = some (some (.int .u8 0), 1, 1) := by kernel_rfl
-- the values' own types

end Go.Proofs.Ytphpjboljlkdkaa.PFnGjValidString
