/- Written by a program of this session (a turned copy of the print) out of the translation. -/
import Derived.Test.YtbppoiedaojjmaaProg
import Derived.Below
import Derived.Deep.Draws
import Derived.Deep.AppendLies
import Derived.Maps.AppendAt
import Derived.OwnWalk
import Derived.Laws.BytesArg
import Derived.Laws.MakeOwn
import Derived.Laws.OwnMore
import Derived.Deep.OwnRows
import Derived.Tactics
import Derived.Lib.ConvBytes
import Derived.Laws.Slices
import Derived.WalkKit
import Derived.KernelRfl
import Derived.RowKit3
import Derived.Deep.LoopGhost
import Derived.Deep.QuietTactic
import Derived.BigQuiet
import Derived.WideLaws
import Derived.Deep.DeepCutAuto
import Derived.Deep.CutBlock
import Derived.Deep.RegionHeld3
import Derived.Laws.Rows
import Derived.Lib.AppendStr
import Derived.ArgAppend
import Derived.Laws.IdiomCopy
import Derived.OrdersHeld
import Derived.Laws.BitsLemmas
import Derived.RowKit
import Derived.LoopTactic
import Derived.Lib.Hide
import Derived.BigRegion
import Derived.RegionTactic
import Derived.Deep.RegionLaw
import Derived.WalkSpells
import Derived.Deep.DeepMust
import Derived.Test.YtbppoiedaojjmaaKit
import Derived.Test.YtbppoiedaojjmaaWWords
import Derived.Test.YtbppoiedaojjmaaWLast
import Derived.Test.YtbppoiedaojjmaaWTab
import Derived.Test.YtbppoiedaojjmaaWFour
import Derived.Test.YtbppoiedaojjmaaWQPut
import Derived.Test.YtbppoiedaojjmaaWApart
import Derived.Test.YtbppoiedaojjmaaWArr
import Derived.Test.YtbppoiedaojjmaaWZeros
import Derived.Test.YtbppoiedaojjmaaWFoot
import Derived.Test.YtbppoiedaojjmaaWKept
import Derived.Test.YtbppoiedaojjmaaWShare
import Derived.Test.YtbppoiedaojjmaaWN
import Derived.Test.YtbppoiedaojjmaaWFootNe
import Derived.Test.YtbppoiedaojjmaaWAt
import Derived.Test.YtbppoiedaojjmaaWEqStruct
import Derived.Test.YtbppoiedaojjmaaWRepsOne
import Derived.Test.YtbppoiedaojjmaaWInv
import Derived.Test.YtbppoiedaojjmaaWInvWords
import Derived.Test.YtbppoiedaojjmaaWGuard
import Derived.Test.YtbppoiedaojjmaaWNEv
import Derived.Test.YtbppoiedaojjmaaWMore
namespace Go.Proofs.Ytbppoiedaojjmaa.PFnJqEscapeParts
open Go.RowKit Go.Proofs.YtbppoiedaojjmaaW.PrintWords Go.Proofs.YtbppoiedaojjmaaW.PrintLast Go.Proofs.YtbppoiedaojjmaaW.PrintMore
attribute [local go_sem] max2_int min2_int max_two min_two max_three min_three max_four min_four   -- for this text's walks alone
set_option linter.unusedVariables false
set_option linter.unusedSimpArgs false



def errW : Option Int → Value
  | none => .nilIface
  | some c => .iface 0 (.int .i64 c)
theorem errW_none : errW none = .nilIface := rfl
theorem errW_some (c : Int) : errW (some c) = .iface 0 (.int .i64 c) := rfl

-- the values' own types

end Go.Proofs.Ytbppoiedaojjmaa.PFnJqEscapeParts
