/- JqEscape of a text behind another is, but for the quotation marks between them, one behind the other, for texts of at most 2^13 bytes each. -/
import Derived.Test.YtbppoiedaojjmaaPFnJqEscapePartsx1
namespace Go.Proofs.Ytbppoiedaojjmaa.Pure
open Go.RowKit Go.Proofs.Ytbppoiedaojjmaa.PFnJqEscapeParts Go.Proofs.YtbppoiedaojjmaaW.PrintWords Go.Proofs.YtbppoiedaojjmaaW.PrintLast Kit

def body (s : ByteArray) : List Int := (nums s).flatMap escB
def quoted (s : ByteArray) : ByteArray := strOfNums (34 :: body s ++ [34])
def u8 (x : Int) : UInt8 := UInt8.ofNat x.toNat
theorem quoted_list (s : ByteArray) : (quoted s).data.toList = 34 :: (body s).map u8 ++ [34] := by
  simp [quoted, strOfNums_data, u8]
theorem quoted_size (s : ByteArray) : (quoted s).size = (body s).length + 2 := by
  rw [quoted, strOfNums_size]
  simp
theorem body_append (a b : ByteArray) : body (a ++ b) = body a ++ body b := by
  simp [body, Kit.nums]
theorem f_quoted (s : ByteArray) (h : s.size ≤ 8192 * 2) : impl_JqEscape.f s = some (quoted s) := by
  unfold impl_JqEscape.f
  rw [if_pos (by omega)]
  rfl
theorem body_len (s : ByteArray) (h : s.size ≤ 8192 * 2) : (body s).length ≤ 98304 := by
  have h1 := esc_len (nums s)
  rw [nums_len] at h1
  unfold body
  omega

theorem cut_one (a b : ByteArray) (la : (body a).length ≤ 98304) (lb : (body b).length ≤ 98304) :
    ((quoted a).extract 0 ((quoted a).size - 1)).size + ((quoted b).extract 1 (quoted b).size).size ≤ 9223372036854775807 ∧
    (quoted (a ++ b)).toList = ((quoted a).extract 0 ((quoted a).size - 1) ++ (quoted b).extract 1 (quoted b).size).toList := by
  have sa := quoted_size a
  have sb := quoted_size b
  have h1 : ((quoted a).extract 0 ((quoted a).size - 1)).data.toList = 34 :: (body a).map u8 := by
    rw [Lib.extract_data, quoted_list, sa]
    simp
  have h2 : ((quoted b).extract 1 (quoted b).size).data.toList = (body b).map u8 ++ [34] := by
    rw [Lib.extract_data, quoted_list, sb]
    rw [List.cons_append, List.drop_succ_cons, List.drop_zero, List.take_of_length_le (by simp)]
  have e1 : ((quoted a).extract 0 ((quoted a).size - 1)).size = (body a).length + 1 := by
    have := congrArg List.length h1
    simpa using this
  have e2 : ((quoted b).extract 1 (quoted b).size).size = (body b).length + 1 := by
    have := congrArg List.length h2
    simpa using this
  refine ⟨by omega, ?_⟩
  rw [ByteArray.toList_eq, ByteArray.toList_eq, ByteArray.data_append, Array.toList_append, h1, h2, quoted_list, body_append]
  simp

theorem FnJqEscapeParts : laws_FnJqEscapeParts.Pure := by
  intro a b _ _
  refine ⟨3, ?_⟩
  have j0t : laws_FnJqEscapeParts.j0 3 a b true = some true := by simp [laws_FnJqEscapeParts.j0]
  have j1t : laws_FnJqEscapeParts.j1 2 a b true = some true := by simp [laws_FnJqEscapeParts.j1]
  unfold laws_FnJqEscapeParts.f
  by_cases c1 : (a.size : Int) > 2147483647
  · rw [if_pos c1]; exact j0t
  rw [if_neg c1]
  by_cases c2 : (b.size : Int) > 2147483647
  · rw [decide_eq_true c2]; exact j0t
  rw [decide_eq_false c2]
  simp only [laws_FnJqEscapeParts.j0]
  rw [if_neg (by simp)]
  by_cases c3 : (a.size : Int) > 8192
  · rw [if_pos c3]; exact j1t
  rw [if_neg c3]
  by_cases c4 : (b.size : Int) > 8192
  · rw [decide_eq_true c4]; exact j1t
  rw [decide_eq_false c4]
  simp only [laws_FnJqEscapeParts.j1]
  have hs : (a ++ b).size = a.size + b.size := ByteArray.size_append
  have la := body_len a (by omega)
  have lb := body_len b (by omega)
  have sa := quoted_size a
  have sb := quoted_size b
  rw [if_neg (by simp), f_quoted a (by omega), f_quoted b (by omega), f_quoted (a ++ b) (by omega)]
  simp only [Option.bind_some]
  have hw : wrap64 (((quoted a).size : Int) - 1) = (((quoted a).size - 1 : Nat) : Int) := by unfold wrap64; omega
  rw [if_pos (by omega), if_pos (by omega), if_pos (by omega), hw, if_pos (by omega), if_pos (by omega), if_pos (by omega)]
  obtain ⟨k1, k2⟩ := cut_one a b la lb
  rw [Int.toNat_natCast, if_pos k1, k2]
  simp

end Go.Proofs.Ytbppoiedaojjmaa.Pure
