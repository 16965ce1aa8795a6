/- Words of the print, those that this claim needs (cut by a program of this session). -/
import Derived.Test.YtgbliniamkpocaaDoorWLast
import Derived.Test.YtgbliniamkpocaaDoorWWords
/-! ### 50. A region's order in a table, made once a region: each step asks the table (numbers alone), not the operations -/
namespace Go.Proofs.YtgbliniamkpocaaDoorW.PrintLast
open Go.Proofs.YtgbliniamkpocaaDoorW.PrintWords (Aside0)
section
variable {md : Region.Mode} {ops : Array Oper} {T : Bool × List (List Nat × List Nat)} {l l' li lj lk : Array Bool} {ds : List Nat} {i j k : Nat}
end
end Go.Proofs.YtgbliniamkpocaaDoorW.PrintLast
