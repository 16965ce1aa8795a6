/- Words of the print, those that this claim needs (cut by a program of this session). -/
import Derived.Test.YtphpjboljlkdkaaWInv
import Derived.Test.YtphpjboljlkdkaaWFootNe
namespace Go.Proofs.YtphpjboljlkdkaaW.PrintWords
open Go.RowKit
end Go.Proofs.YtphpjboljlkdkaaW.PrintWords
namespace Go.Proofs.YtphpjboljlkdkaaW.PrintLast
section
variable {ops : Array Oper} {a : Act} {o og : Oper} {g : Nat} {t : Tmp} {u : Bool}
end
end Go.Proofs.YtphpjboljlkdkaaW.PrintLast
