/- Words of the print, those that this claim needs (cut by a program of this session). -/
import Derived.Test.YtgbliniamkpocaaDoorWInv
import Derived.Test.YtgbliniamkpocaaDoorWFootNe
namespace Go.Proofs.YtgbliniamkpocaaDoorW.PrintWords
open Go.RowKit
end Go.Proofs.YtgbliniamkpocaaDoorW.PrintWords
namespace Go.Proofs.YtgbliniamkpocaaDoorW.PrintLast
section
variable {ops : Array Oper} {a : Act} {o og : Oper} {g : Nat} {t : Tmp} {u : Bool}
end
end Go.Proofs.YtgbliniamkpocaaDoorW.PrintLast
