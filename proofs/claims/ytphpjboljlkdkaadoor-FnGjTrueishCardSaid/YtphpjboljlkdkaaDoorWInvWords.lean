/- Words of the print, those that this claim needs (cut by a program of this session). -/
import Derived.Test.YtphpjboljlkdkaaDoorWInv
import Derived.Test.YtphpjboljlkdkaaDoorWFootNe
namespace Go.Proofs.YtphpjboljlkdkaaDoorW.PrintWords
open Go.RowKit
end Go.Proofs.YtphpjboljlkdkaaDoorW.PrintWords
namespace Go.Proofs.YtphpjboljlkdkaaDoorW.PrintLast
section
variable {ops : Array Oper} {a : Act} {o og : Oper} {g : Nat} {t : Tmp} {u : Bool}
end
end Go.Proofs.YtphpjboljlkdkaaDoorW.PrintLast
