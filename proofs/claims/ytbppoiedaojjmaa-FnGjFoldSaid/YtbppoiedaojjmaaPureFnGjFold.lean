/- GjLessFold says of every two texts whether the first stands ahead of the second, capital letters of ASCII counting as small ones, in the order of bytes. -/
import Derived.Test.YtbppoiedaojjmaaPFnGjFoldx2
namespace Go.Proofs.Ytbppoiedaojjmaa.Pure
open Go.RowKit Go.Proofs.Ytbppoiedaojjmaa.PFnGjFold Go.Proofs.YtbppoiedaojjmaaW.PrintWords Go.Proofs.YtbppoiedaojjmaaW.PrintLast

/-- The order of bytes, over numbers. -/
def lessI : List Int → List Int → Bool
  | _, [] => false
  | [], _ :: _ => true
  | a :: x, b :: y => decide (a < b) || (a == b && lessI x y)

def nums' (s : ByteArray) : List Int := s.data.toList.map fun c => (c.toNat : Int)
def u8 (x : Int) : UInt8 := UInt8.ofNat x.toNat
theorem u8_lt {x y : Int} (hx : 0 ≤ x ∧ x ≤ 255) (hy : 0 ≤ y ∧ y ≤ 255) : (u8 x < u8 y) ↔ x < y := by
  rw [UInt8.lt_iff_toNat_lt]
  simp [u8]
  omega
theorem u8_eq {x y : Int} (hx : 0 ≤ x ∧ x ≤ 255) (hy : 0 ≤ y ∧ y ≤ 255) : (u8 x = u8 y) ↔ x = y := by
  rw [← UInt8.toNat_inj]
  simp [u8]
  omega
theorem less_u8 : ∀ (X Y : List Int), (∀ x ∈ X, 0 ≤ x ∧ x ≤ 255) → (∀ y ∈ Y, 0 ≤ y ∧ y ≤ 255) → Op.bytesLess (X.map u8) (Y.map u8) = lessI X Y
  | _, [], _, _ => by cases ‹List Int› <;> simp [Op.bytesLess, lessI]
  | [], _ :: _, _, _ => by simp [Op.bytesLess, lessI]
  | x :: X, y :: Y, hX, hY => by
    have h1 := u8_lt (hX x (by simp)) (hY y (by simp))
    have h2 := u8_eq (hX x (by simp)) (hY y (by simp))
    have ih := less_u8 X Y (fun a h => hX a (by simp [h])) (fun a h => hY a (by simp [h]))
    simp only [List.map_cons, Op.bytesLess, lessI, ih]
    have h3 : (u8 x == u8 y) = (x == y) := by rw [Bool.eq_iff_iff]; simp [h2]
    have h4 : decide (u8 x < u8 y) = decide (x < y) := by simp [h1]
    rw [h3, h4]

theorem smallN_range {x : Int} (h : 0 ≤ x ∧ x ≤ 255) : 0 ≤ smallN x ∧ smallN x ≤ 255 := by unfold smallN; split <;> omega

theorem round (a b : ByteArray) (i : Int) (m : Nat) (h0 : 0 ≤ i) (ha : i < a.size) (hb : i < b.size) (hx : 0 ≤ bt a i ∧ bt a i ≤ 255) (hy : 0 ≤ bt b i ∧ bt b i ≤ 255) :
    gjson_stringLessInsensitive.l0 (m + 4) a b i = if smallN (bt a i) < smallN (bt b i) then some true else if smallN (bt a i) = smallN (bt b i) then gjson_stringLessInsensitive.l0 m a b (wrap64 (i + 1)) else some false := by
  generalize hX : bt a i = x at *
  generalize hY : bt b i = y at *
  by_cases c1 : 65 ≤ x <;> by_cases c2 : x ≤ 90 <;> by_cases d1 : 65 ≤ y <;> by_cases d2 : y ≤ 90
  all_goals
    simp only [gjson_stringLessInsensitive.l0, gjson_stringLessInsensitive.j1, gjson_stringLessInsensitive.j2, gjson_stringLessInsensitive.j3, gjson_stringLessInsensitive.j4, smallN, hX, hY, h0, ha, hb, c1, c2, d1, d2, if_true, if_false, gt_iff_lt, decide_true, decide_false, and_true, and_false, and_self, Bool.false_eq_true]
    repeat' split
    all_goals first | rfl | (exfalso; omega)

theorem loop (a b : ByteArray) (ha : a.size ≤ 140737488351232) (hb : b.size ≤ 140737488351232) (d : Nat) : ∀ (k : Nat) (i : Nat), i ≤ a.size → a.size - i = d → i ≤ b.size → 4 * d + 4 < k →
    gjson_stringLessInsensitive.l0 k a b i = some (lessI (((nums' a).map smallN).drop i) (((nums' b).map smallN).drop i)) := by
  have hla : ((nums' a).map smallN).length = a.size := by simp [nums']
  have hlb : ((nums' b).map smallN).length = b.size := by simp [nums']
  have hat : ∀ (s : ByteArray) (i : Nat) (h : i < ((nums' s).map smallN).length), ((nums' s).map smallN)[i] = smallN (bt s i) ∧ 0 ≤ bt s i ∧ bt s i ≤ 255 := by
    intro s i h
    have hs : i < s.size := by simpa [nums'] using h
    have e : bt s i = (s[i].toNat : Int) := by simp [bt, hs]
    have := s[i].toNat_lt
    refine ⟨?_, by omega, by omega⟩
    rw [e]
    simp [nums']
    rfl
  induction d with
  | zero =>
    intro k i h1 h2 h3 hk
    obtain ⟨k, rfl⟩ : ∃ m, k = m + 2 := ⟨k - 2, by omega⟩
    have hi : ¬ (i : Int) < (a.size : Int) := by omega
    simp only [gjson_stringLessInsensitive.l0, gjson_stringLessInsensitive.j1, hi, if_false, Bool.false_eq_true]
    rw [List.drop_eq_nil_of_le (by omega)]
    congr 1
    by_cases hb' : i < b.size
    · rw [List.drop_eq_getElem_cons (by omega)]
      simp [lessI]; omega
    · rw [List.drop_eq_nil_of_le (by omega)]
      simp [lessI]; omega
  | succ d ih =>
    intro k i h1 h2 h3 hk
    obtain ⟨k, rfl⟩ : ∃ m, k = m + 4 := ⟨k - 4, by omega⟩
    by_cases hb' : i < b.size
    · obtain ⟨ea, ra⟩ := hat a i (by omega)
      obtain ⟨eb, rb⟩ := hat b i (by omega)
      rw [round a b i k (by omega) (by omega) (by omega) ra rb]
      rw [List.drop_eq_getElem_cons (by omega : i < ((nums' a).map smallN).length), List.drop_eq_getElem_cons (by omega : i < ((nums' b).map smallN).length), ea, eb]
      clear ea eb ra rb hat
      have hw : wrap64 ((i : Int) + 1) = ((i + 1 : Nat) : Int) := by unfold wrap64; omega
      have i1 : i + 1 ≤ a.size := by omega
      have i2 : i + 1 ≤ b.size := by omega
      have i3 : a.size - (i + 1) = d := by omega
      have i4 : 4 * d + 4 < k := by omega
      rw [hw, ih k (i + 1) i1 i3 i2 i4]
      clear hw ih
      generalize smallN (bt a i) = x
      generalize smallN (bt b i) = y
      simp only [lessI]
      generalize lessI _ _ = r
      by_cases h : x < y
      · rw [if_pos h, decide_eq_true h]; rfl
      · rw [if_neg h, decide_eq_false h]
        by_cases h' : x = y
        · rw [if_pos h']; simp [h']
        · rw [if_neg h']
          have : (x == y) = false := by simpa using h'
          rw [this]; rfl
    · have hi : (i : Int) < (a.size : Int) := by omega
      have hj : ¬ (i : Int) < (b.size : Int) := by omega
      simp only [gjson_stringLessInsensitive.l0, gjson_stringLessInsensitive.j1, hi, hj, if_true, if_false, Bool.false_eq_true, decide_false]
      rw [List.drop_eq_nil_of_le (by omega : ((nums' b).map smallN).length ≤ i)]
      congr 1
      have : ((nums' a).map smallN).drop i ≠ [] := by simp [hla]; omega
      simp [lessI]
      omega

theorem FnGjFold : laws_FnGjFold.Pure := by
  intro a b ha hb
  refine ⟨4 * a.size + 6, ?_⟩
  have hj : laws_FnGjFold.j0 (4 * a.size + 6) a b true = some true := by simp [laws_FnGjFold.j0]
  unfold laws_FnGjFold.f
  by_cases c1 : (a.size : Int) > 2147483647
  · rw [if_pos c1]; exact hj
  rw [if_neg c1]
  by_cases c2 : (b.size : Int) > 2147483647
  · rw [decide_eq_true c2]; exact hj
  rw [decide_eq_false c2]
  have hl := loop a b ha hb a.size (4 * a.size + 5) 0 (by omega) (by omega) (by omega) (by omega)
  have hr : ∀ s : ByteArray, ∀ x ∈ (nums' s).map smallN, 0 ≤ x ∧ x ≤ 255 := by
    intro s x hx
    simp only [nums', List.map_map, List.mem_map] at hx
    obtain ⟨c, _, rfl⟩ := hx
    have hc := c.toNat_lt
    have h1 : 0 ≤ (c.toNat : Int) ∧ (c.toNat : Int) ≤ 255 := ⟨by omega, by omega⟩
    exact smallN_range h1
  have hs : ∀ s : ByteArray, (strOfNums ((nums' s).map smallN)).toList = ((nums' s).map smallN).map u8 := by
    intro s
    rw [ByteArray.toList_eq]
    rfl
  simp only [laws_FnGjFold.j0, impl_GjLessFold.f, gjson_DoorLess.f, gjson_stringLessInsensitive.f, spec_Small.f, ha, hb, if_true, if_false, Bool.false_eq_true]
  have hl' : gjson_stringLessInsensitive.l0 (4 * a.size + 5) a b 0 = some (lessI ((nums' a).map smallN) ((nums' b).map smallN)) := by simpa using hl
  rw [hl']
  simp only [Option.bind_some]
  have e1 := hs a
  have e2 := hs b
  have e3 := less_u8 _ _ (hr a) (hr b)
  unfold nums' at *
  rw [e1, e2, e3]
  simp

end Go.Proofs.Ytbppoiedaojjmaa.Pure
