/- Between quotation marks a byte below U+0020, or a quotation mark, among bytes that are neither these nor backslashes makes no JSON text for gjson's Valid; the bytes without it do (texts of at most 2^12 bytes). -/
import Derived.Test.YtphpjboljlkdkaaPFnGjValidStringx2
import Derived.OpenShut
namespace Go.Proofs.Ytphpjboljlkdkaa.Pure
open Go.RowKit Go.Proofs.Ytphpjboljlkdkaa.PFnGjValidString Go.Proofs.YtphpjboljlkdkaaW.PrintWords Go.Proofs.YtphpjboljlkdkaaW.PrintLast

theorem plainEnd_eq (l : List Int) : ∀ (n i e : Nat), i ≤ e → e ≤ l.length → e - i ≤ n → (∀ j, i ≤ j → j < e → PlainB (l.getD j 0)) → (e < l.length → e - i < n ∧ ¬ PlainB (l.getD e 0)) → plainEnd l n i = e
  | 0, i, e, h1, h2, h3, _, _ => by simp [plainEnd]; omega
  | n + 1, i, e, h1, h2, h3, hp, he => by
    unfold plainEnd
    by_cases e0 : i = e
    · subst e0
      by_cases hl : i < l.length
      · rw [if_pos hl, if_neg (he hl).2]
      · rw [if_neg hl]
    · rw [if_pos (by omega), if_pos (hp i (Nat.le_refl _) (by omega))]
      exact plainEnd_eq l n (i + 1) e (by omega) h2 (by omega) (fun j a b => hp j (by omega) b) (fun h => ⟨by have := (he h).1; omega, (he h).2⟩)

def Plains (P : List Int) : Prop := ∀ c ∈ P, PlainB c

theorem get_mid (P R : List Int) (x : Int) : (34 :: (P ++ x :: R)).getD (P.length + 1) 0 = x := by
  simp [List.getD]
theorem get_in (P R : List Int) (j : Nat) (h1 : 1 ≤ j) (h2 : j < P.length + 1) : (34 :: (P ++ R)).getD j 0 ∈ P := by
  obtain ⟨j, rfl⟩ : ∃ m, j = m + 1 := ⟨j - 1, by omega⟩
  have : j < P.length := by omega
  simp only [List.getD, List.getElem?_cons_succ, List.getElem?_append_left this, List.getElem?_eq_getElem this, Option.getD_some]
  exact List.getElem_mem _
theorem end_at (P R : List Int) (x : Int) (hP : Plains P) (hx : ¬ PlainB x) : plainEnd (34 :: (P ++ x :: R)) (34 :: (P ++ x :: R)).length 1 = P.length + 1 := by
  apply plainEnd_eq
  · omega
  · simp
  · simp; omega
  · exact fun j a b => hP _ (get_in P (x :: R) j a b)
  · exact fun _ => ⟨by simp; omega, by rw [get_mid]; exact hx⟩

/-- validany at a quotation mark. -/
theorem any_at (P R : List Int) (x : Int) (hP : Plains P) (hx : x = 34 ∨ x < 32) (hn : (34 :: (P ++ x :: R)).length ≤ 4611686018427387904) :
    gjson_validany.f (34 :: (P ++ x :: R)) 0 = some (if x = 34 then (((P.length + 1 : Nat) : Int) + 1, true) else (((P.length + 1 : Nat) : Int), false)) := by
  have hnp : ¬ PlainB x := by unfold PlainB; omega
  have he := end_at P R x hP hnp
  have hm := get_mid P R x
  have hlt : P.length + 1 < (34 :: (P ++ x :: R)).length := by simp
  unfold gjson_validany.f
  rw [if_pos ⟨by omega, by simp; omega, by simp [rd]⟩]
  unfold gjson_validstring.f
  rw [if_pos ⟨by omega, by simp; omega, hn, by simp⟩]
  have e1 : (0 + 1 : Int).toNat = 1 := rfl
  rw [e1, he]
  simp only [hm]
  rw [if_pos hlt]
  by_cases c : x = 34
  · rw [if_pos c, if_pos c]
  · rw [if_neg c, if_neg c, if_pos (by omega)]

theorem l1_false (l : List Int) (m : Nat) (hm : m < l.length) (hn : l.length ≤ 4611686018427387904) (hb : l.getD m 0 = 34) : ∀ (d k i : Nat), m - i = d → i ≤ m → d < k → ∃ r, gjson_validpayload.l1 k l i = some (r, false) := by
  intro d
  induction d with
  | zero =>
    intro k i h1 h2 hk
    obtain ⟨k, rfl⟩ : ∃ q, k = q + 1 := ⟨k - 1, by omega⟩
    obtain rfl : i = m := by omega
    have hr : rd l i = 34 := by simpa [rd] using hb
    refine ⟨i, ?_⟩
    simp only [gjson_validpayload.l1]
    rw [if_pos (by omega), if_pos (by omega), hr]
    simp
  | succ d ih =>
    intro k i h1 h2 hk
    obtain ⟨k, rfl⟩ : ∃ q, k = q + 1 := ⟨k - 1, by omega⟩
    obtain ⟨r, hr⟩ := ih k (i + 1) (by omega) (by omega) (by omega)
    have hw : wrap64 ((i : Int) + 1) = ((i + 1 : Nat) : Int) := by unfold wrap64; omega
    simp only [gjson_validpayload.l1]
    rw [if_pos (by omega), if_pos (by omega), hw]
    by_cases c1 : rd l i = 32
    · rw [if_pos c1]; exact ⟨r, hr⟩
    rw [if_neg c1]
    by_cases c2 : rd l i = 9
    · rw [if_pos c2]; exact ⟨r, hr⟩
    rw [if_neg c2]
    by_cases c3 : rd l i = 10
    · rw [if_pos c3]; exact ⟨r, hr⟩
    rw [if_neg c3]
    by_cases c4 : rd l i = 13
    · rw [if_pos c4]; exact ⟨r, hr⟩
    rw [if_neg c4]
    exact ⟨i, rfl⟩

theorem payload (l : List Int) (hl : l.length ≠ 0) (h0 : rd l 0 = 34) (k : Nat) : gjson_validpayload.f (k + 3) l 0 = (gjson_validany.f l 0).bind fun b => if b.2 = true then gjson_validpayload.l1 (k + 1) l b.1 else some (b.1, false) := by
  unfold gjson_validpayload.f
  simp only [gjson_validpayload.l0]
  rw [if_pos (by omega), if_pos (by omega), h0]
  simp [gjson_validpayload.j1]

theorem valid_good (P : List Int) (hP : Plains P) (hn : (34 :: (P ++ [34])).length ≤ 4611686018427387904) (k : Nat) : ∃ r, gjson_validpayload.f (k + 3) (34 :: (P ++ [34])) 0 = some (r, true) := by
  rw [payload _ (by simp) (by simp [rd]), any_at P [] 34 hP (.inl rfl) hn]
  simp only [Option.bind_some, if_true]
  refine ⟨((P.length + 1 : Nat) : Int) + 1, ?_⟩
  simp only [gjson_validpayload.l1]
  rw [if_neg (by simp)]

theorem valid_bad (P R : List Int) (x : Int) (hP : Plains P) (hx : x = 34 ∨ x < 32) (hn : (34 :: (P ++ x :: (R ++ [34]))).length ≤ 4611686018427387904) (k : Nat) (hk : R.length + 2 < k) : ∃ r, gjson_validpayload.f (k + 3) (34 :: (P ++ x :: (R ++ [34]))) 0 = some (r, false) := by
  rw [payload _ (by simp) (by simp [rd]), any_at P (R ++ [34]) x hP hx hn]
  simp only [Option.bind_some]
  by_cases c : x = 34
  · rw [if_pos c]
    simp only [if_true]
    have hlen : (34 :: (P ++ x :: (R ++ [34]))).length = P.length + R.length + 3 := by simp; omega
    have hlast : (34 :: (P ++ x :: (R ++ [34]))).getD (P.length + R.length + 2) 0 = 34 := by
      have : (34 :: (P ++ x :: (R ++ [34]))) = (34 :: (P ++ x :: R)) ++ [34] := by simp
      have e : P.length + R.length + 2 - (34 :: (P ++ x :: R)).length = 0 := by simp; omega
      rw [this, List.getD, List.getElem?_append_right (by simp; omega), e]
      rfl
    have := l1_false (34 :: (P ++ x :: (R ++ [34]))) (P.length + R.length + 2) (by omega) hn hlast R.length (k + 1) (P.length + 1 + 1) (by omega) (by omega) (by omega)
    simpa using this
  · rw [if_neg c]
    exact ⟨_, rfl⟩

theorem bt_nums (s : ByteArray) (i : Nat) (h : i < s.size) : bt s i = (Kit.nums s).getD i 0 := by
  rw [Kit.nums_get s i h]
  simp [bt, h]

theorem nums_str (c : Int) (h : 0 ≤ c ∧ c ≤ 255) : Kit.nums (strOfNums [c]) = [c] := by
  simp [Kit.nums, strOfNums]
  omega
theorem nums_append (a b : ByteArray) : Kit.nums (a ++ b) = Kit.nums a ++ Kit.nums b := by simp [Kit.nums]
theorem nums_mark : Kit.nums ⟨#[34]⟩ = [34] := rfl

theorem plains_of (s : ByteArray) (h : ∀ j : Nat, j < s.size → PlainB (bt s j)) : Plains (Kit.nums s) := by
  intro c hc
  obtain ⟨j, hj, rfl⟩ := List.getElem_of_mem hc
  have hj' : j < s.size := by rw [Kit.nums_len] at hj; exact hj
  have := h j hj'
  rw [bt_nums s j hj', List.getD_eq_getElem?_getD, List.getElem?_eq_getElem hj] at this
  exact this

theorem valid_f (t : ByteArray) (b : Bool) (k : Nat) (hs : t.size ≤ 10000) (h : ∃ r, gjson_validpayload.f k (Kit.nums t) 0 = some (r, b)) : impl_GjValid.f k t = some b := by
  obtain ⟨r, h⟩ := h
  unfold impl_GjValid.f gjson_Valid.f
  rw [if_pos (by omega), h]
  rfl

theorem law_end (s : ByteArray) (a c : Int) (hs : s.size ≤ 4096) (h0 : 0 ≤ a) (h1 : a ≤ s.size) (hc : 0 ≤ c ∧ c ≤ 255) (hp : ∀ j : Nat, j < s.size → PlainB (bt s j)) (k : Nat) (hk : s.size + 10 < k) :
    impl_GjValid.f k (((⟨#[34]⟩ : ByteArray) ++ s) ++ (⟨#[34]⟩ : ByteArray)) = some true ∧
    (c ≠ 92 → impl_GjValid.f k (((((⟨#[34]⟩ : ByteArray) ++ (s.extract 0 a.toNat)) ++ (strOfNums [c])) ++ (s.extract a.toNat s.size)) ++ (⟨#[34]⟩ : ByteArray)) = some (!(decide (c < 32) || c == 34))) := by
  obtain ⟨k, rfl⟩ : ∃ q, k = q + 3 := ⟨k - 3, by omega⟩
  have hP := plains_of s hp
  have hl := Kit.nums_len s
  have e0 : (⟨#[34]⟩ : ByteArray).size = 1 := rfl
  constructor
  · refine valid_f _ _ _ (by simp only [ByteArray.size_append, e0]; omega) ?_
    rw [nums_append, nums_append, nums_mark]
    have := valid_good (Kit.nums s) hP (by simp; omega) k
    simpa using this
  · intro h92
    have hsz : (((((⟨#[34]⟩ : ByteArray) ++ (s.extract 0 a.toNat)) ++ (strOfNums [c])) ++ (s.extract a.toNat s.size)) ++ (⟨#[34]⟩ : ByteArray)).size ≤ 10000 := by
      simp only [ByteArray.size_append, ByteArray.size_extract, strOfNums_size, e0, List.length_singleton]; omega
    have hn : Kit.nums (((((⟨#[34]⟩ : ByteArray) ++ (s.extract 0 a.toNat)) ++ (strOfNums [c])) ++ (s.extract a.toNat s.size)) ++ (⟨#[34]⟩ : ByteArray)) = 34 :: ((Kit.nums s).take a.toNat ++ c :: ((Kit.nums s).drop a.toNat ++ [34])) := by
      rw [nums_append, nums_append, nums_append, nums_append, nums_mark, nums_str c hc, Kit.nums_extract, Kit.nums_extract]
      rw [List.take_of_length_le (l := (Kit.nums s).drop a.toNat) (by rw [List.length_drop, hl]; exact Nat.le_refl _)]
      simp
    refine valid_f _ _ _ hsz ?_
    rw [hn]
    have hT : Plains ((Kit.nums s).take a.toNat) := fun c hc => hP c (List.mem_of_mem_take hc)
    have hD : Plains ((Kit.nums s).drop a.toNat) := fun c hc => hP c (List.mem_of_mem_drop hc)
    by_cases hb : c = 34 ∨ c < 32
    · have hbool : (!(decide (c < 32) || c == 34)) = false := by
        rcases hb with h | h <;> simp [h]
      rw [hbool]
      refine valid_bad _ _ c hT hb ?_ k ?_
      · simp; omega
      · rw [List.length_drop, hl]; omega
    · have hc2 : PlainB c := by unfold PlainB; omega
      have hbool : (!(decide (c < 32) || c == 34)) = true := by
        have h1 : decide (c < 32) = false := by simp; omega
        have h2 : (c == 34) = false := by simp; omega
        rw [h1, h2]; rfl
      rw [hbool]
      have hP3 : Plains ((Kit.nums s).take a.toNat ++ c :: (Kit.nums s).drop a.toNat) := by
        intro d hd
        rcases List.mem_append.1 hd with h | h
        · exact hT d h
        · rcases List.mem_cons.1 h with h | h
          · rw [h]; exact hc2
          · exact hD d h
      have := valid_good ((Kit.nums s).take a.toNat ++ c :: (Kit.nums s).drop a.toNat) hP3 (by simp; omega) k
      simpa using this

theorem law_loop (s : ByteArray) (a c : Int) (hs : s.size ≤ 4096) (h0 : 0 ≤ a) (h1 : a ≤ s.size) (hc : 0 ≤ c ∧ c ≤ 255) : ∀ (d k i : Nat), s.size - i = d → i ≤ s.size → (∀ j : Nat, j < i → PlainB (bt s j)) → s.size + 12 + d < k →
    laws_FnGjValidString.l0 k s a c i = some true := by
  intro d
  induction d with
  | zero =>
    intro k i hd hi hp hk
    obtain ⟨k, rfl⟩ : ∃ q, k = q + 1 := ⟨k - 1, by omega⟩
    obtain rfl : i = s.size := by omega
    obtain ⟨v1, v2⟩ := law_end s a c hs h0 h1 hc hp k (by omega)
    have e0 : (⟨#[34]⟩ : ByteArray).size = 1 := rfl
    simp only [laws_FnGjValidString.l0]
    rw [if_neg (by omega)]
    simp only [Option.bind_some]
    have s1 : 1 + (s.extract 0 a.toNat).size ≤ 9223372036854775807 := by simp only [ByteArray.size_extract]; omega
    have s2 : ((⟨#[34]⟩ : ByteArray) ++ (s.extract 0 a.toNat)).size + (strOfNums [c]).size ≤ 9223372036854775807 := by simp only [ByteArray.size_append, ByteArray.size_extract, strOfNums_size, e0, List.length_singleton]; omega
    have s3 : (((⟨#[34]⟩ : ByteArray) ++ (s.extract 0 a.toNat)) ++ (strOfNums [c])).size + (s.extract a.toNat s.size).size ≤ 9223372036854775807 := by simp only [ByteArray.size_append, ByteArray.size_extract, strOfNums_size, e0, List.length_singleton]; omega
    have s4 : ((((⟨#[34]⟩ : ByteArray) ++ (s.extract 0 a.toNat)) ++ (strOfNums [c])) ++ (s.extract a.toNat s.size)).size + 1 ≤ 9223372036854775807 := by simp only [ByteArray.size_append, ByteArray.size_extract, strOfNums_size, e0, List.length_singleton]; omega
    have s6 : ((⟨#[34]⟩ : ByteArray) ++ s).size + 1 ≤ 9223372036854775807 := by simp only [ByteArray.size_append, e0]; omega
    by_cases c1 : c < 32
    · rw [if_pos c1, if_pos h0, if_pos h1, if_pos s1, if_pos s2, if_pos s3, if_pos s4, if_pos (by omega), if_pos s6, v1]
      simp only [Option.bind_some, if_true]
      by_cases c2 : c = 92
      · rw [if_pos c2]
      · rw [if_neg c2, v2 c2]
        simp [c1]
    · rw [if_neg c1, if_pos h0, if_pos h1, if_pos s1, if_pos s2, if_pos s3, if_pos s4, if_pos (by omega), if_pos s6, v1]
      simp only [Option.bind_some, if_true]
      by_cases c2 : c = 92
      · rw [if_pos c2]
      · rw [if_neg c2, v2 c2]
        simp [c1]
  | succ d ih =>
    intro k i hd hi hp hk
    obtain ⟨k, rfl⟩ : ∃ q, k = q + 1 := ⟨k - 1, by omega⟩
    have hw : wrap64 ((i : Int) + 1) = ((i + 1 : Nat) : Int) := by unfold wrap64; omega
    simp only [laws_FnGjValidString.l0]
    rw [if_pos (by omega), if_pos (by omega), hw]
    by_cases c1 : bt s i < 32
    · rw [if_pos c1]
    rw [if_neg c1]
    by_cases c2 : bt s i = 34
    · rw [if_pos c2]
    rw [if_neg c2]
    by_cases c3 : bt s i = 92
    · rw [if_pos c3]
    rw [if_neg c3]
    refine ih k (i + 1) (by omega) (by omega) (fun j hj => ?_) (by omega)
    by_cases e : j = i
    · subst e; exact ⟨by omega, c2, c3⟩
    · exact hp j (by omega)

theorem FnGjValidString : laws_FnGjValidString.Pure := by
  intro s a c _ _ hc
  have hc' : 0 ≤ c ∧ c ≤ 255 := bounds_u8 hc
  refine ⟨2 * s.size + 14, ?_⟩
  have hj : laws_FnGjValidString.j0 (2 * s.size + 14) s a c true = some true := by simp [laws_FnGjValidString.j0]
  unfold laws_FnGjValidString.f
  by_cases c1 : (s.size : Int) > 2147483647
  · rw [if_pos c1]
  rw [if_neg c1]
  by_cases c2 : (s.size : Int) > 4096
  · rw [if_pos c2]; exact hj
  rw [if_neg c2]
  by_cases c3 : a < 0
  · rw [if_pos c3]; exact hj
  rw [if_neg c3]
  by_cases c4 : a > (s.size : Int)
  · rw [decide_eq_true c4]; exact hj
  rw [decide_eq_false c4]
  simp only [laws_FnGjValidString.j0]
  rw [if_neg (by simp)]
  have := law_loop s a c (by omega) (by omega) (by omega) hc' s.size (2 * s.size + 13) 0 (by omega) (by omega) (fun j h => by omega) (by omega)
  simpa using this

end Go.Proofs.Ytphpjboljlkdkaa.Pure
