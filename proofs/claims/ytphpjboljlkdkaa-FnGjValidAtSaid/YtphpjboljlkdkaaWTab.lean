/- Words of the print, those that this claim needs (cut by a program of this session). -/
import Derived.Test.YtphpjboljlkdkaaWLast
import Derived.Test.YtphpjboljlkdkaaWWords
/-! ### 50. A region's order in a table, made once a region: each step asks the table (numbers alone), not the operations -/
namespace Go.Proofs.YtphpjboljlkdkaaW.PrintLast
open Go.Proofs.YtphpjboljlkdkaaW.PrintWords (Aside0)
section
variable {md : Region.Mode} {ops : Array Oper} {T : Bool × List (List Nat × List Nat)} {l l' li lj lk : Array Bool} {ds : List Nat} {i j k : Nat}
end
end Go.Proofs.YtphpjboljlkdkaaW.PrintLast
