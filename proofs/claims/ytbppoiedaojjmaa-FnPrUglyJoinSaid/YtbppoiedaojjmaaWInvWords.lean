/- Words of the print, those that this claim needs (cut by a program of this session). -/
import Derived.Test.YtbppoiedaojjmaaWInv
import Derived.Test.YtbppoiedaojjmaaWFootNe
namespace Go.Proofs.YtbppoiedaojjmaaW.PrintWords
open Go.RowKit
end Go.Proofs.YtbppoiedaojjmaaW.PrintWords
namespace Go.Proofs.YtbppoiedaojjmaaW.PrintLast
section
variable {ops : Array Oper} {a : Act} {o og : Oper} {g : Nat} {t : Tmp} {u : Bool}
end
end Go.Proofs.YtbppoiedaojjmaaW.PrintLast
