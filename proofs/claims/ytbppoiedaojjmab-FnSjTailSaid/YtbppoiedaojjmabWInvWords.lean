/- Words of the print, those that this claim needs (cut by a program of this session). -/
import Derived.Test.YtbppoiedaojjmabWInv
import Derived.Test.YtbppoiedaojjmabWFootNe
namespace Go.Proofs.YtbppoiedaojjmabW.PrintWords
open Go.RowKit
end Go.Proofs.YtbppoiedaojjmabW.PrintWords
namespace Go.Proofs.YtbppoiedaojjmabW.PrintLast
section
variable {ops : Array Oper} {a : Act} {o og : Oper} {g : Nat} {t : Tmp} {u : Bool}
end
end Go.Proofs.YtbppoiedaojjmabW.PrintLast
