/- GjLiteralAt reads all the small letters that stand at a place where a small letter stands, for every text of at most 2^12 bytes and every place in it. -/
import Derived.Test.YtbppoiedaojjmaaPFnGjLiteralAtAnyx1
namespace Go.Proofs.Ytbppoiedaojjmaa.Pure
open Go.RowKit Go.Proofs.Ytbppoiedaojjmaa.PFnGjLiteralAtAny Go.Proofs.YtbppoiedaojjmaaW.PrintWords Go.Proofs.YtbppoiedaojjmaaW.PrintLast

theorem wrap_up {i : Int} {n : Nat} (h0 : 0 ≤ i) (h : i < (n : Int)) (hn : n ≤ 140737488351232) : wrap64 (i + 1) = i + 1 := by
  unfold wrap64
  omega

/-- A small letter stands at a place. -/
def letter (s : ByteArray) (i : Int) : Prop := 97 ≤ bt s i ∧ bt s i ≤ 122

theorem lit_ends (s : ByteArray) (a e : Int) (hn : s.size ≤ 140737488351232) (h0 : 0 ≤ a) (he : e ≤ s.size) (hend : e < s.size → ¬ letter s e)
    (d : Nat) : ∀ (k : Nat) (i : Int), a ≤ i → i ≤ e → e - i = d → (∀ j, i ≤ j → j < e → letter s j) → d < k →
    gjson_parseLiteral.l0 k s i a = some (e, s.extract a.toNat e.toNat) := by
  induction d with
  | zero =>
    intro k i h1 h2 hd hl hk
    obtain ⟨k, rfl⟩ : ∃ m, k = m + 1 := ⟨k - 1, by omega⟩
    obtain rfl : i = e := by omega
    simp only [gjson_parseLiteral.l0]
    by_cases hlt : i < (s.size : Int)
    · have hx := hend hlt
      unfold letter at hx
      rw [if_pos hlt, if_pos (by omega)]
      by_cases hb : bt s i < 97
      · rw [if_pos hb, if_pos h0, if_pos h1, if_pos he]
      · rw [if_neg hb, if_pos (by omega), if_pos h0, if_pos h1, if_pos he]
    · rw [if_neg hlt, if_pos h0, if_pos (by omega)]
      have : i.toNat = s.size := by omega
      rw [this]
  | succ d ih =>
    intro k i h1 h2 hd hl hk
    obtain ⟨k, rfl⟩ : ∃ m, k = m + 1 := ⟨k - 1, by omega⟩
    have hx := hl i (by omega) (by omega)
    unfold letter at hx
    simp only [gjson_parseLiteral.l0]
    rw [if_pos (by omega), if_pos (by omega), if_neg (by omega), if_neg (by omega), wrap_up (by omega) (n := s.size) (by omega) hn]
    exact ih k (i + 1) (by omega) (by omega) (by omega) (fun j a b => hl j (by omega) b) (by omega)

theorem lit_at (s : ByteArray) (a e : Int) (hn : s.size ≤ 140737488351232) (h0 : 0 ≤ a) (hae : a < e) (he : e ≤ s.size) (hend : e < s.size → ¬ letter s e)
    (hl : ∀ j, a ≤ j → j < e → letter s j) (k : Nat) (hk : s.size < k) : impl_GjLiteralAt.f k s a = some (e, s.extract a.toNat e.toNat) := by
  unfold impl_GjLiteralAt.f gjson_DoorLiteral.f gjson_parseLiteral.f
  rw [wrap_up (by omega) (n := s.size) (by omega) hn, lit_ends s a e hn h0 he hend (e - (a + 1)).toNat k (a + 1) (by omega) (by omega) (by omega) (fun j x y => hl j (by omega) y) (by omega)]
  rfl

theorem law_loop (s : ByteArray) (a : Int) (hn : s.size ≤ 140737488351232) (h0 : 0 ≤ a) (ha : a < s.size) (hla : letter s a) (d : Nat) :
    ∀ (k : Nat) (i : Int), a ≤ i → i ≤ s.size → s.size - i = d → (∀ j, a ≤ j → j < i → letter s j) → d + s.size + 1 < k →
    laws_FnGjLiteralAtAny.l0 k s a i = some true := by
  induction d with
  | zero =>
    intro k i h1 h2 hd hl hk
    obtain ⟨k, rfl⟩ : ∃ m, k = m + 1 := ⟨k - 1, by omega⟩
    simp only [laws_FnGjLiteralAtAny.l0]
    rw [if_neg (by omega), lit_at s a i hn h0 (by omega) h2 (fun h => by omega) hl k (by omega)]
    simp [h0, h1, h2]
  | succ d ih =>
    intro k i h1 h2 hd hl hk
    obtain ⟨k, rfl⟩ : ∃ m, k = m + 1 := ⟨k - 1, by omega⟩
    simp only [laws_FnGjLiteralAtAny.l0]
    rw [if_pos (by omega), if_pos (by omega)]
    by_cases hx : letter s i
    · have hy := hx
      unfold letter at hy
      rw [if_pos hy.1, if_pos hy.2, wrap_up (by omega) (n := s.size) (by omega) hn]
      exact ih k (i + 1) (by omega) (by omega) (by omega) (fun j x y => if h : j < i then hl j x h else by rw [show j = i by omega]; exact hx) (by omega)
    · have hai : a < i := by
        rcases Int.lt_or_eq_of_le h1 with h | h
        · exact h
        · subst h; exact absurd hla hx
      have hw := lit_at s a i hn h0 hai h2 (fun _ => hx) hl k (by omega)
      have hend : ((impl_GjLiteralAt.f k s a).bind fun bt105 => (if bt105.1 = i then (if 0 ≤ a then (if a ≤ i then (if i ≤ (s.size : Int) then (some (bt105.2.toList == (s.extract (a : Int).toNat (i : Int).toNat).toList)) else (none)) else (none)) else (none)) else (some false))) = some true := by
        rw [hw]
        simp [h0, h1, h2]
      unfold letter at hx
      by_cases hb : 97 ≤ bt s i
      · rw [if_pos hb, if_neg (by omega)]; exact hend
      · rw [if_neg hb]; exact hend

theorem FnGjLiteralAtAny : laws_FnGjLiteralAtAny.Pure := by
  intro s a hn _
  refine ⟨s.size + s.size + 4, ?_⟩
  have hj : laws_FnGjLiteralAtAny.j0 (s.size + s.size + 4) s a true = some true := by simp [laws_FnGjLiteralAtAny.j0]
  unfold laws_FnGjLiteralAtAny.f
  by_cases c1 : (s.size : Int) > 2147483647
  · rw [if_pos c1]
  rw [if_neg c1]
  by_cases c2 : (s.size : Int) > 4096
  · rw [if_pos c2]; exact hj
  rw [if_neg c2]
  by_cases c3 : a < 0
  · rw [if_pos c3]; exact hj
  rw [if_neg c3]
  by_cases c4 : a ≥ (s.size : Int)
  · rw [if_pos c4]; exact hj
  rw [if_neg c4, if_pos (by omega), if_pos (by omega)]
  by_cases c5 : bt s a < 97
  · rw [if_pos c5]; exact hj
  rw [if_neg c5]
  by_cases c6 : bt s a > 122
  · rw [decide_eq_true c6]; exact hj
  rw [decide_eq_false c6]
  have hl : letter s a := ⟨by omega, by omega⟩
  have := law_loop s a hn (by omega) (by omega) hl (s.size - a).toNat (s.size + s.size + 3) a (by omega) (by omega) (by omega) (fun j x y => by omega) (by omega)
  simp only [laws_FnGjLiteralAtAny.j0]
  rw [if_neg (by simp)]
  exact this

end Go.Proofs.Ytbppoiedaojjmaa.Pure
