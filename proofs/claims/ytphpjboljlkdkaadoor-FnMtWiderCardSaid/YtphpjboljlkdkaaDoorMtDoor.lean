/- The walk of FnMtWider, put together. -/
import Derived.Test.YtphpjboljlkdkaaDoorMtUp
import Derived.Test.YtphpjboljlkdkaaDoorMtLaw
namespace Go.Proofs.YtphpjboljlkdkaaDoor.Mt
open Go.RowKit Go.Proofs.YtphpjboljlkdkaaDoorW.PrintWords

theorem wider_walk (s p : ByteArray) (n : Int) (w : World) (hs : s.size ≤ 140737488351232) (hp : p.size ≤ 140737488351232) (_hn : (Lit.int .i64 n).wf = true) (hL : laidMetH Tryd.prog Rows.fnMtWiderRow.laid w) :
    Calls Tryd.prog 4 #[.string s, .string p, .int .i64 n] w fun e w' => e = .returned (.bool true) ∧ Below w.heap.size w w' :=
  law_c (fun s p C T a b c d e f g w h => mt_c s p C T a b c d e f g w h) s p n hs hp w (utf8_tabs (by kernel_rfl) (.tail _ (.head _)) (.head _) hL)
end Go.Proofs.YtphpjboljlkdkaaDoor.Mt
