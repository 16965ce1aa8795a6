/- Written by a program of this session (a turned copy of the print) out of the translation. -/
import Derived.Test.YtbppoiedaojjmaaPFnJqEscapePartsx0
namespace Go.Proofs.Ytbppoiedaojjmaa.PFnJqEscapeParts
open Go.RowKit Go.Proofs.YtbppoiedaojjmaaW.PrintWords Go.Proofs.YtbppoiedaojjmaaW.PrintLast Go.Proofs.YtbppoiedaojjmaaW.PrintMore
attribute [local go_sem] max2_int min2_int max_two min_two max_three min_three max_four min_four   -- for this text's walks alone
set_option linter.unusedVariables false
set_option linter.unusedSimpArgs false

-- NOT PRINTED: function 29 (jsonparser_Escape)

/-! impl.JqEscape, walked by hand -/
section
open Kit
def hexD (x : Int) : Int := if x < 10 then 48 + x else 87 + x
def escB (c : Int) : List Int :=
  if c = 34 ∨ c = 92 then [92, c] else if 32 ≤ c then [c] else if c = 8 then [92, 98] else if c = 12 then [92, 102] else if c = 10 then [92, 110] else if c = 13 then [92, 114] else if c = 9 then [92, 116]
  else [92, 117, 48, 48, hexD (c / 16), hexD (c % 16)]
/-- What has been written when the bytes ahead of i have been read, and those from 'start' on not yet written. -/
def Plain (c : Int) : Prop := escB c = [c]

theorem escB_len (c : Int) : (escB c).length ≤ 6 := by
  unfold escB
  (repeat' split) <;> simp
theorem esc_len (l : List Int) : (l.flatMap escB).length ≤ 6 * l.length := by
  induction l with
  | nil => simp
  | cons c l ih => have := escB_len c; simp only [List.flatMap_cons, List.length_append, List.length_cons]; omega
theorem fit1 (s : ByteArray) (start i : Nat) (hs : s.size ≤ 10000000000) (h : start ≤ i) (hi : i ≤ s.size) : (34 :: ((nums s).take start).flatMap escB).length + (nums (s.extract start i)).length ≤ 140737488355327 := by
  have h1 := esc_len ((nums s).take start)
  have h2 : ((nums s).take start).length ≤ start := List.length_take_le _ _
  have h3 : (nums (s.extract start i)).length = i - start := by rw [nums_extract, List.length_take, List.length_drop, nums_len]; omega
  rw [List.length_cons, h3]
  omega

theorem fit2 (s : ByteArray) (start i : Nat) (hs : s.size ≤ 10000000000) (h : start ≤ i) (hi : i ≤ s.size) (news : List Int) (hk : news.length ≤ 100) : (34 :: ((nums s).take start).flatMap escB ++ nums (s.extract start i)).length + news.length ≤ 140737488355327 := by
  have h1 := esc_len ((nums s).take start)
  have h2 : ((nums s).take start).length ≤ start := List.length_take_le _ _
  have h3 : (nums (s.extract start i)).length = i - start := by rw [nums_extract, List.length_take, List.length_drop, nums_len]; omega
  rw [List.length_append, List.length_cons, h3]
  omega
theorem plain_flat : ∀ (l : List Int), (∀ c ∈ l, Plain c) → l.flatMap escB = l
  | [], _ => rfl
  | c :: l, h => by
    have h1 : escB c = [c] := h c (by simp)
    rw [List.flatMap_cons, h1, plain_flat l (fun d hd => h d (by simp [hd]))]
    rfl
theorem out_flat (s : ByteArray) (start i : Nat) (h : start ≤ i) (hi : i ≤ s.size) (hp : ∀ j, start ≤ j → j < i → Plain ((nums s).getD j 0)) :
    34 :: ((nums s).take start).flatMap escB ++ nums (s.extract start i) = 34 :: ((nums s).take i).flatMap escB := by
  have e : (nums s).take i = (nums s).take start ++ nums (s.extract start i) := by
    rw [nums_extract]
    have : i = start + (i - start) := by omega
    conv => lhs; rw [this]
    rw [List.take_add]
  rw [e, List.flatMap_append, plain_flat (nums (s.extract start i))]
  · rfl
  · intro c hc
    rw [nums_extract] at hc
    obtain ⟨j, hj, rfl⟩ := List.getElem_of_mem hc
    have hj' : j < i - start := by simp at hj; omega
    have hlen := nums_len s
    have := hp (start + j) (by omega) (by omega)
    rw [List.getElem_take, List.getElem_drop]
    rw [List.getD_eq_getElem?_getD, List.getElem?_eq_getElem (by omega)] at this
    exact this
theorem out_snoc (s : ByteArray) (i : Nat) (h : i < s.size) (e : List Int) (he : escB (s[i].toNat : Int) = e) : 34 :: ((nums s).take i).flatMap escB ++ e = 34 :: ((nums s).take (i + 1)).flatMap escB := by
  have hl : i < (nums s).length := by rw [nums_len]; exact h
  have hg := nums_get s i h
  rw [List.getD_eq_getElem?_getD, List.getElem?_eq_getElem hl] at hg
  have hg' : (nums s)[i] = (s[i].toNat : Int) := hg
  rw [List.take_succ_eq_append_getElem hl, List.flatMap_append, hg']
  simp [he]

set_option maxHeartbeats 8000000 in
set_option maxRecDepth 100000 in
theorem impl_JqEscape.escape_walk (s : ByteArray) (w : World) (hs : s.size ≤ 10000000000) :
    Calls Try.prog 29 #[.string s] w fun e w' => ∃ v, e = .returned v ∧ OB w.heap.size w' v (34 :: (nums s).flatMap escB ++ [34]) ∧ Below w.heap.size w w' := by
  obtain ⟨i5, hi5, hz5, hsz5, hby5⟩ : ∃ i, Try.prog.info? 5 = some i ∧ i.zero = some (.int .u8 0) ∧ i.size = 1 ∧ i.bytes = 1 := ⟨_, rfl, rfl, rfl, rfl⟩
  go_enter Try.func29, Try.ntmps29
  go_wp2
  go_loopw [4, 5, 6] (fun v b k wr => ∃ i start : Nat, i ≤ s.size ∧ start ≤ i ∧ b = .int .i64 start ∧ k = .int .i64 i ∧ (∀ j, start ≤ j → j < i → Plain ((nums s).getD j 0)) ∧ Aside0 (OB w.heap.size wr v (34 :: ((nums s).take start).flatMap escB)) ∧ Aside0 (Below w.heap.size w wr)) (fun _ _ k _ => s.size - (intOf k).toNat)
  case atStart =>
    refine ⟨0, 0, Nat.zero_le _, Nat.le_refl _, rfl, rfl, fun j h1 h2 => by omega, ⟨⟨w.heap.size, 64, by simp, Nat.le_refl _, ?_⟩⟩, ⟨((Below.refl _ _).alloc (Nat.le_refl _) _).alloc (by simp) _⟩⟩
    refine BB.alloc ?_ _
    refine ⟨_, _, 0, 0, heap_alloc_new w _, by simp, .inl rfl, by simp, fun j hj => ?_⟩
    have : j = 0 := by simp at hj; omega
    subst this
    rfl
  case round =>
    obtain ⟨i, start, hi, hst, rfl, rfl, hpl, HOB, HBW⟩ := hrel
    have HPL := Lib.hid hpl
    clear hpl
    by_cases hlt : i < s.size
    · have hx := s[i].toNat_lt
      by_cases h1 : 32 ≤ (s[i].toNat : Int) ∧ (s[i].toNat : Int) ≠ 34 ∧ (s[i].toNat : Int) ≠ 92
      · obtain ⟨h1, h2, h3⟩ := h1
        have hp : Plain (s[i].toNat : Int) := by unfold Plain escB; rw [if_neg (by omega), if_pos h1]
        have HP := Lib.hid hp
        clear hp
        have h2' : ((s[i].toNat : Int) != 34) = true := by rw [bne_iff_ne]; exact h2
        have h3' : ((s[i].toNat : Int) != 92) = true := by rw [bne_iff_ne]; exact h3
        clear h2 h3
        go_wp2
        go_roundw
        case rel =>
          refine ⟨i + 1, start, by omega, by omega, rfl, by go_num, fun j a b => ?_, HOB, HBW⟩
          by_cases e : j = i
          · subst e; rw [nums_get s j hlt]; exact HP.out
          · exact HPL.out j a (by omega)
        case measure => simp [intOf]; omega
      · have hf1 := fit1 s start i hs hst hi
        have HF := Lib.hid (out_flat s start i hst hi HPL.out)
        clear HPL
        by_cases h34 : (s[i].toNat : Int) = 34
        · have HE := Lib.hid (show escB (s[i].toNat : Int) = [92, 34] by rw [h34]; rfl)
          go_wp2_with (first | (at_builtin; refine wpList_append_ob rfl (.tmp 31) (.tmp 35) 39 9 rfl Try.underlying39 hi5 hz5 hsz5 hby5 _ _ rfl HOB.out HBW.out.size _ _ rfl (src_str Try.underlying9 _ _) hf1 ?_; intro v1 w1 hob1 hgr1; have HOB1 := Aside0.mk hob1; have HB1 := Aside0.mk (HBW.out.grown hgr1 HBW.out.size (fun k hk => (HOB.out.lt k hk).1)); clear hob1 hgr1) | (at_builtin; refine wpList_append_ob rfl (.tmp 50) (.tmp 52) 39 39 rfl Try.underlying39 hi5 hz5 hsz5 hby5 _ _ rfl (HOB1.out.alloc _) (HB1.out.alloc HB1.out.size _).size _ [92, 34] rfl (src_lit Try.underlying39 [92, 34] (heap_alloc_new _ _) rfl) (fit2 s start i hs hst hi [92, 34] (by decide)) ?_; intro v2 w2 hob2 hgr2; have HOB2 := Aside0.mk hob2; have HB2 := Aside0.mk ((HB1.out.alloc HB1.out.size _).grown hgr2 (HB1.out.alloc HB1.out.size _).size (fun k hk => (HOB1.out.lt k hk).1)); clear hob2 hgr2))
          go_roundw
          case rel => exact ⟨i + 1, i + 1, by omega, Nat.le_refl _, by go_num, by go_num, fun j a b => by omega, ⟨by have h := HOB2.out; rw [HF.out, out_snoc s i hlt _ HE.out] at h; exact h⟩, HB2⟩
          case measure => simp [intOf]; omega
        by_cases h92 : (s[i].toNat : Int) = 92
        · have HE := Lib.hid (show escB (s[i].toNat : Int) = [92, 92] by rw [h92]; rfl)
          go_wp2_with (first | (at_builtin; refine wpList_append_ob rfl (.tmp 31) (.tmp 35) 39 9 rfl Try.underlying39 hi5 hz5 hsz5 hby5 _ _ rfl HOB.out HBW.out.size _ _ rfl (src_str Try.underlying9 _ _) hf1 ?_; intro v1 w1 hob1 hgr1; have HOB1 := Aside0.mk hob1; have HB1 := Aside0.mk (HBW.out.grown hgr1 HBW.out.size (fun k hk => (HOB.out.lt k hk).1)); clear hob1 hgr1) | (at_builtin; refine wpList_append_ob rfl (.tmp 50) (.tmp 52) 39 39 rfl Try.underlying39 hi5 hz5 hsz5 hby5 _ _ rfl (HOB1.out.alloc _) (HB1.out.alloc HB1.out.size _).size _ [92, 92] rfl (src_lit Try.underlying39 [92, 92] (heap_alloc_new _ _) rfl) (fit2 s start i hs hst hi [92, 92] (by decide)) ?_; intro v2 w2 hob2 hgr2; have HOB2 := Aside0.mk hob2; have HB2 := Aside0.mk ((HB1.out.alloc HB1.out.size _).grown hgr2 (HB1.out.alloc HB1.out.size _).size (fun k hk => (HOB1.out.lt k hk).1)); clear hob2 hgr2))
          go_roundw
          case rel => exact ⟨i + 1, i + 1, by omega, Nat.le_refl _, by go_num, by go_num, fun j a b => by omega, ⟨by have h := HOB2.out; rw [HF.out, out_snoc s i hlt _ HE.out] at h; exact h⟩, HB2⟩
          case measure => simp [intOf]; omega
        by_cases h8 : (s[i].toNat : Int) = 8
        · have HE := Lib.hid (show escB (s[i].toNat : Int) = [92, 98] by rw [h8]; rfl)
          go_wp2_with (first | (at_builtin; refine wpList_append_ob rfl (.tmp 31) (.tmp 35) 39 9 rfl Try.underlying39 hi5 hz5 hsz5 hby5 _ _ rfl HOB.out HBW.out.size _ _ rfl (src_str Try.underlying9 _ _) hf1 ?_; intro v1 w1 hob1 hgr1; have HOB1 := Aside0.mk hob1; have HB1 := Aside0.mk (HBW.out.grown hgr1 HBW.out.size (fun k hk => (HOB.out.lt k hk).1)); clear hob1 hgr1) | (at_builtin; refine wpList_append_ob rfl (.tmp 56) (.tmp 57) 39 39 rfl Try.underlying39 hi5 hz5 hsz5 hby5 _ _ rfl (HOB1.out.alloc _) (HB1.out.alloc HB1.out.size _).size _ [92, 98] rfl (src_lit Try.underlying39 [92, 98] (heap_alloc_new _ _) rfl) (fit2 s start i hs hst hi [92, 98] (by decide)) ?_; intro v2 w2 hob2 hgr2; have HOB2 := Aside0.mk hob2; have HB2 := Aside0.mk ((HB1.out.alloc HB1.out.size _).grown hgr2 (HB1.out.alloc HB1.out.size _).size (fun k hk => (HOB1.out.lt k hk).1)); clear hob2 hgr2))
          go_roundw
          case rel => exact ⟨i + 1, i + 1, by omega, Nat.le_refl _, by go_num, by go_num, fun j a b => by omega, ⟨by have h := HOB2.out; rw [HF.out, out_snoc s i hlt _ HE.out] at h; exact h⟩, HB2⟩
          case measure => simp [intOf]; omega
        by_cases h12 : (s[i].toNat : Int) = 12
        · have HE := Lib.hid (show escB (s[i].toNat : Int) = [92, 102] by rw [h12]; rfl)
          go_wp2_with (first | (at_builtin; refine wpList_append_ob rfl (.tmp 31) (.tmp 35) 39 9 rfl Try.underlying39 hi5 hz5 hsz5 hby5 _ _ rfl HOB.out HBW.out.size _ _ rfl (src_str Try.underlying9 _ _) hf1 ?_; intro v1 w1 hob1 hgr1; have HOB1 := Aside0.mk hob1; have HB1 := Aside0.mk (HBW.out.grown hgr1 HBW.out.size (fun k hk => (HOB.out.lt k hk).1)); clear hob1 hgr1) | (at_builtin; refine wpList_append_ob rfl (.tmp 61) (.tmp 62) 39 39 rfl Try.underlying39 hi5 hz5 hsz5 hby5 _ _ rfl (HOB1.out.alloc _) (HB1.out.alloc HB1.out.size _).size _ [92, 102] rfl (src_lit Try.underlying39 [92, 102] (heap_alloc_new _ _) rfl) (fit2 s start i hs hst hi [92, 102] (by decide)) ?_; intro v2 w2 hob2 hgr2; have HOB2 := Aside0.mk hob2; have HB2 := Aside0.mk ((HB1.out.alloc HB1.out.size _).grown hgr2 (HB1.out.alloc HB1.out.size _).size (fun k hk => (HOB1.out.lt k hk).1)); clear hob2 hgr2))
          go_roundw
          case rel => exact ⟨i + 1, i + 1, by omega, Nat.le_refl _, by go_num, by go_num, fun j a b => by omega, ⟨by have h := HOB2.out; rw [HF.out, out_snoc s i hlt _ HE.out] at h; exact h⟩, HB2⟩
          case measure => simp [intOf]; omega
        by_cases h10 : (s[i].toNat : Int) = 10
        · have HE := Lib.hid (show escB (s[i].toNat : Int) = [92, 110] by rw [h10]; rfl)
          go_wp2_with (first | (at_builtin; refine wpList_append_ob rfl (.tmp 31) (.tmp 35) 39 9 rfl Try.underlying39 hi5 hz5 hsz5 hby5 _ _ rfl HOB.out HBW.out.size _ _ rfl (src_str Try.underlying9 _ _) hf1 ?_; intro v1 w1 hob1 hgr1; have HOB1 := Aside0.mk hob1; have HB1 := Aside0.mk (HBW.out.grown hgr1 HBW.out.size (fun k hk => (HOB.out.lt k hk).1)); clear hob1 hgr1) | (at_builtin; refine wpList_append_ob rfl (.tmp 66) (.tmp 67) 39 39 rfl Try.underlying39 hi5 hz5 hsz5 hby5 _ _ rfl (HOB1.out.alloc _) (HB1.out.alloc HB1.out.size _).size _ [92, 110] rfl (src_lit Try.underlying39 [92, 110] (heap_alloc_new _ _) rfl) (fit2 s start i hs hst hi [92, 110] (by decide)) ?_; intro v2 w2 hob2 hgr2; have HOB2 := Aside0.mk hob2; have HB2 := Aside0.mk ((HB1.out.alloc HB1.out.size _).grown hgr2 (HB1.out.alloc HB1.out.size _).size (fun k hk => (HOB1.out.lt k hk).1)); clear hob2 hgr2))
          go_roundw
          case rel => exact ⟨i + 1, i + 1, by omega, Nat.le_refl _, by go_num, by go_num, fun j a b => by omega, ⟨by have h := HOB2.out; rw [HF.out, out_snoc s i hlt _ HE.out] at h; exact h⟩, HB2⟩
          case measure => simp [intOf]; omega
        by_cases h13 : (s[i].toNat : Int) = 13
        · have HE := Lib.hid (show escB (s[i].toNat : Int) = [92, 114] by rw [h13]; rfl)
          go_wp2_with (first | (at_builtin; refine wpList_append_ob rfl (.tmp 31) (.tmp 35) 39 9 rfl Try.underlying39 hi5 hz5 hsz5 hby5 _ _ rfl HOB.out HBW.out.size _ _ rfl (src_str Try.underlying9 _ _) hf1 ?_; intro v1 w1 hob1 hgr1; have HOB1 := Aside0.mk hob1; have HB1 := Aside0.mk (HBW.out.grown hgr1 HBW.out.size (fun k hk => (HOB.out.lt k hk).1)); clear hob1 hgr1) | (at_builtin; refine wpList_append_ob rfl (.tmp 71) (.tmp 72) 39 39 rfl Try.underlying39 hi5 hz5 hsz5 hby5 _ _ rfl (HOB1.out.alloc _) (HB1.out.alloc HB1.out.size _).size _ [92, 114] rfl (src_lit Try.underlying39 [92, 114] (heap_alloc_new _ _) rfl) (fit2 s start i hs hst hi [92, 114] (by decide)) ?_; intro v2 w2 hob2 hgr2; have HOB2 := Aside0.mk hob2; have HB2 := Aside0.mk ((HB1.out.alloc HB1.out.size _).grown hgr2 (HB1.out.alloc HB1.out.size _).size (fun k hk => (HOB1.out.lt k hk).1)); clear hob2 hgr2))
          go_roundw
          case rel => exact ⟨i + 1, i + 1, by omega, Nat.le_refl _, by go_num, by go_num, fun j a b => by omega, ⟨by have h := HOB2.out; rw [HF.out, out_snoc s i hlt _ HE.out] at h; exact h⟩, HB2⟩
          case measure => simp [intOf]; omega
        by_cases h9 : (s[i].toNat : Int) = 9
        · have HE := Lib.hid (show escB (s[i].toNat : Int) = [92, 116] by rw [h9]; rfl)
          go_wp2_with (first | (at_builtin; refine wpList_append_ob rfl (.tmp 31) (.tmp 35) 39 9 rfl Try.underlying39 hi5 hz5 hsz5 hby5 _ _ rfl HOB.out HBW.out.size _ _ rfl (src_str Try.underlying9 _ _) hf1 ?_; intro v1 w1 hob1 hgr1; have HOB1 := Aside0.mk hob1; have HB1 := Aside0.mk (HBW.out.grown hgr1 HBW.out.size (fun k hk => (HOB.out.lt k hk).1)); clear hob1 hgr1) | (at_builtin; refine wpList_append_ob rfl (.tmp 76) (.tmp 77) 39 39 rfl Try.underlying39 hi5 hz5 hsz5 hby5 _ _ rfl (HOB1.out.alloc _) (HB1.out.alloc HB1.out.size _).size _ [92, 116] rfl (src_lit Try.underlying39 [92, 116] (heap_alloc_new _ _) rfl) (fit2 s start i hs hst hi [92, 116] (by decide)) ?_; intro v2 w2 hob2 hgr2; have HOB2 := Aside0.mk hob2; have HB2 := Aside0.mk ((HB1.out.alloc HB1.out.size _).grown hgr2 (HB1.out.alloc HB1.out.size _).size (fun k hk => (HOB1.out.lt k hk).1)); clear hob2 hgr2))
          go_roundw
          case rel => exact ⟨i + 1, i + 1, by omega, Nat.le_refl _, by go_num, by go_num, fun j a b => by omega, ⟨by have h := HOB2.out; rw [HF.out, out_snoc s i hlt _ HE.out] at h; exact h⟩, HB2⟩
          case measure => simp [intOf]; omega
        have hlo : (s[i].toNat : Int) < 32 := by omega
        have hne : ((s[i].toNat : Int) == 34) = false ∧ ((s[i].toNat : Int) == 92) = false ∧ ((s[i].toNat : Int) == 8) = false ∧ ((s[i].toNat : Int) == 12) = false ∧ ((s[i].toNat : Int) == 10) = false ∧ ((s[i].toNat : Int) == 13) = false ∧ ((s[i].toNat : Int) == 9) = false := by simp only [beq_eq_false_iff_ne]; exact ⟨h34, h92, h8, h12, h10, h13, h9⟩
        obtain ⟨n1, n2, n3, n4, n5, n6, n7⟩ := hne
        have HNN := Aside0.mk (And.intro h34 (And.intro h92 (And.intro h8 (And.intro h12 (And.intro h10 (And.intro h13 h9))))))
        clear h1 h34 h92 h8 h12 h10 h13 h9
        go_wp2_with (at_builtin; refine wpList_append_ob rfl (.tmp 31) (.tmp 35) 39 9 rfl Try.underlying39 hi5 hz5 hsz5 hby5 _ _ rfl HOB.out HBW.out.size _ _ rfl (src_str Try.underlying9 _ _) hf1 ?_; intro v1 w1 hob1 hgr1; have HOB1 := Aside0.mk hob1; have HB1 := Aside0.mk (HBW.out.grown hgr1 HBW.out.size (fun k hk => (HOB.out.lt k hk).1)); clear hob1 hgr1)
        have hix : ∀ (y : Int), 0 ≤ y → y < 16 → ∀ w, (Instr.index 9 (.string { data := #[48, 49, 50, 51, 52, 53, 54, 55, 56, 57, 97, 98, 99, 100, 101, 102] }) (.int .u8 y)).run Try.prog w = .ok (.int .u8 (hexD y)) w := by
          intro y h0 h1 w
          have : y = 0 ∨ y = 1 ∨ y = 2 ∨ y = 3 ∨ y = 4 ∨ y = 5 ∨ y = 6 ∨ y = 7 ∨ y = 8 ∨ y = 9 ∨ y = 10 ∨ y = 11 ∨ y = 12 ∨ y = 13 ∨ y = 14 ∨ y = 15 := by omega
          rcases this with rfl | rfl | rfl | rfl | rfl | rfl | rfl | rfl | rfl | rfl | rfl | rfl | rfl | rfl | rfl | rfl <;> rfl
        have h1 := hix (↑s[i].toNat / 16) (by omega) (by omega)
        have hb : bits BinOp.and IntKind.u8 (s[i].toNat : Int) 15 = (s[i].toNat : Int) % 16 := by
          have key : ∀ n : Fin 32, bits BinOp.and IntKind.u8 ((n.val : Nat) : Int) 15 = ((n.val : Nat) : Int) % 16 := by decide
          exact key ⟨s[i].toNat, by omega⟩
        have h2 := hix (bits BinOp.and IntKind.u8 (s[i].toNat : Int) 15) (by omega) (by omega)
        have HBIT := Lib.hid hb
        clear hb hix
        go_region_law (refine step_append_ob rfl (.tmp 38) (.tmp 45) 39 39 rfl Try.underlying39 hi5 hz5 hsz5 hby5 _ _ rfl (OB.drew (HOB1.out.alloc _)) (HB1.out.alloc HB1.out.size _).drew.size _ [92, 117, 48, 48, hexD (s[i].toNat / 16), hexD (bits BinOp.and IntKind.u8 (s[i].toNat : Int) 15)] rfl (src_lit Try.underlying39 [92, 117, 48, 48, hexD (s[i].toNat / 16), hexD (bits BinOp.and IntKind.u8 (s[i].toNat : Int) 15)] (blk_drew (heap_alloc_new w1 _)) rfl) (fit2 s start i hs hst hi [92, 117, 48, 48, hexD (s[i].toNat / 16), hexD (bits BinOp.and IntKind.u8 (s[i].toNat : Int) 15)] (by simp)) ?_; intro v2 w2 hob2 hgr2; have HOB2 := Aside0.mk hob2; have HB2 := Aside0.mk ((HB1.out.alloc HB1.out.size _).drew.grown hgr2 (HB1.out.alloc HB1.out.size _).drew.size (fun k hk => (HOB1.out.lt k hk).1)); clear hob2 hgr2)
        all_goals
          go_wp2
          go_roundw
          case rel =>
            obtain ⟨h34, h92, h8, h12, h10, h13, h9⟩ := HNN.out
            exact ⟨i + 1, i + 1, by omega, Nat.le_refl _, by go_num, by go_num, fun j a b => by omega, ⟨by have h := HOB2.out; rw [HBIT.out, HF.out, out_snoc s i hlt _ (by unfold escB; rw [if_neg (by omega), if_neg (by omega), if_neg h8, if_neg h12, if_neg h10, if_neg h13, if_neg h9])] at h; exact h⟩, HB2⟩
          case measure => simp [intOf]; omega
    · have hf1 := fit1 s start i hs hst hi
      obtain rfl : i = s.size := by omega
      have HF := Lib.hid (out_flat s start s.size hst hi HPL.out)
      clear HPL
      go_wp2_with (first | (at_builtin; refine wpList_append_ob rfl (.tmp 81) (.tmp 84) 39 9 rfl Try.underlying39 hi5 hz5 hsz5 hby5 _ _ rfl HOB.out HBW.out.size _ _ rfl (src_str Try.underlying9 _ _) hf1 ?_; intro v1 w1 hob1 hgr1; have HOB1 := Aside0.mk hob1; have HB1 := Aside0.mk (HBW.out.grown hgr1 HBW.out.size (fun k hk => (HOB.out.lt k hk).1)); clear hob1 hgr1) | (at_builtin; refine wpList_append_ob rfl (.tmp 86) (.tmp 87) 39 39 rfl Try.underlying39 hi5 hz5 hsz5 hby5 _ _ rfl (HOB1.out.alloc _) (HB1.out.alloc HB1.out.size _).size _ [34] rfl (src_lit Try.underlying39 [34] (heap_alloc_new _ _) rfl) (fit2 s start s.size hs hst (Nat.le_refl _) [34] (by decide)) ?_; intro v2 w2 hob2 hgr2; have HOB2 := Aside0.mk hob2; have HB2 := Aside0.mk ((HB1.out.alloc HB1.out.size _).grown hgr2 (HB1.out.alloc HB1.out.size _).size (fun k hk => (HOB1.out.lt k hk).1)); clear hob2 hgr2))
      go_ret
      refine ⟨v2, rfl, ?_, HB2.out⟩
      have h := HOB2.out
      have e : (nums s).take s.size = nums s := by rw [← nums_len, List.take_length]
      rw [HF.out, e] at h
      exact h

def impl_JqEscape.f (a0 : ByteArray) : Option ByteArray := if a0.size ≤ 10000000000 then some (strOfNums (34 :: (nums a0).flatMap escB ++ [34])) else none
theorem impl_JqEscape.calls (a0 : ByteArray) (r : ByteArray) (w : World) (h : impl_JqEscape.f a0 = some r) :
    Calls Try.prog 17 #[.string a0] w fun e w' => e = .returned (.string r) ∧ Below w.heap.size w w' := by
  unfold impl_JqEscape.f at h
  split at h
  · rename_i hs
    injection h with h
    subst h
    have h1 := esc_len (nums a0)
    have hl : (34 :: (nums a0).flatMap escB ++ [34]).length ≤ 9223372036854775807 := by
      rw [nums_len] at h1
      rw [List.length_append, List.length_cons, List.length_singleton]
      omega
    have HL := Lib.hid hl
    clear hl h1
    go_enter Try.func17, Try.ntmps17
    go_wp2_with (go_at_call 29; refine (impl_JqEscape.escape_walk a0 _ hs).mono ?_; rintro e w1 ⟨v, rfl, hob, hb⟩; have hcv := hob.str (P := Try.prog) (src := 39) (dst := 9) Try.underlying39 Try.underlying5 Try.underlying9 HL.out; clear hob)
    go_ret
    exact ⟨rfl, hb⟩
  · cases h
end

/-! ### laws_FnJqEscapeParts: function 7 -/
mutual
def laws_FnJqEscapeParts.j0 : Nat → ByteArray → ByteArray → Bool → Option (Bool)
  | 0, _, _, _ => none
  | k + 1, x0, x1, x15 => if x15 = true then (some true) else (if (x0.size : Int) > 8192 then (laws_FnJqEscapeParts.j1 k x0 x1 true) else (laws_FnJqEscapeParts.j1 k x0 x1 (decide ((x1.size : Int) > 8192))))
def laws_FnJqEscapeParts.j1 : Nat → ByteArray → ByteArray → Bool → Option (Bool)
  | 0, _, _, _ => none
  | k + 1, x0, x1, x23 => if x23 = true then (some true) else ((impl_JqEscape.f x0).bind fun t101 => ((impl_JqEscape.f x1).bind fun t102 => (if x0.size + x1.size ≤ 9223372036854775807 then ((impl_JqEscape.f (x0 ++ x1)).bind fun t103 => (if (t101.size : Int) ≥ 2 then (if (t102.size : Int) ≥ 2 then (if 0 ≤ (wrap64 ((t101.size : Int) - 1)) then (if (wrap64 ((t101.size : Int) - 1)) ≤ (t101.size : Int) then (if 1 ≤ (t102.size : Int) then (if (t101.extract 0 ((wrap64 ((t101.size : Int) - 1)) : Int).toNat).size + (t102.extract 1 t102.size).size ≤ 9223372036854775807 then (some (t103.toList == ((t101.extract 0 ((wrap64 ((t101.size : Int) - 1)) : Int).toNat) ++ (t102.extract 1 t102.size)).toList)) else (none)) else (none)) else (none)) else (none)) else (some false)) else (some false))) else (none))))
end
def laws_FnJqEscapeParts.f (k : Nat) (a0 : ByteArray) (a1 : ByteArray) : Option (Bool) := if (a0.size : Int) > 2147483647 then (laws_FnJqEscapeParts.j0 k a0 a1 true) else (laws_FnJqEscapeParts.j0 k a0 a1 (decide ((a1.size : Int) > 2147483647)))
theorem laws_FnJqEscapeParts.mono_l : ∀ k, (∀ y0 y1 y2, LeO (laws_FnJqEscapeParts.j0 k y0 y1 y2) (laws_FnJqEscapeParts.j0 (k + 1) y0 y1 y2)) ∧ (∀ y0 y1 y2, LeO (laws_FnJqEscapeParts.j1 k y0 y1 y2) (laws_FnJqEscapeParts.j1 (k + 1) y0 y1 y2))
  | 0 => ⟨fun _ _ _ r h => by simp [laws_FnJqEscapeParts.j0] at h, fun _ _ _ r h => by simp [laws_FnJqEscapeParts.j1] at h⟩
  | k + 1 => by
    obtain ⟨ih0, ih1⟩ := laws_FnJqEscapeParts.mono_l k
    refine ⟨?_, ?_⟩
    · intro y0 y1 y2
      unfold laws_FnJqEscapeParts.j0
      repeat' first
      | (with_reducible exact ih0 _ _ _)
      | (with_reducible exact ih1 _ _ _)
      | (with_reducible exact LeO.refl _)
      | (with_reducible exact LeO.none _)
      | (with_reducible refine LeO.ite ?_ ?_)
      | (with_reducible refine LeO.bind ?_ (fun _ => ?_))
      | exact ih0 _ _ _
      | exact ih1 _ _ _
      | exact LeO.none _
      | refine LeO.ite ?_ ?_
      | refine LeO.bind ?_ (fun _ => ?_)
    · intro y0 y1 y2
      unfold laws_FnJqEscapeParts.j1
      repeat' first
      | (with_reducible exact ih0 _ _ _)
      | (with_reducible exact ih1 _ _ _)
      | (with_reducible exact LeO.refl _)
      | (with_reducible exact LeO.none _)
      | (with_reducible refine LeO.ite ?_ ?_)
      | (with_reducible refine LeO.bind ?_ (fun _ => ?_))
      | exact ih0 _ _ _
      | exact ih1 _ _ _
      | exact LeO.none _
      | refine LeO.ite ?_ ?_
      | refine LeO.bind ?_ (fun _ => ?_)
theorem laws_FnJqEscapeParts.mono : ∀ a0 a1 k, LeO (laws_FnJqEscapeParts.f k a0 a1) (laws_FnJqEscapeParts.f (k + 1) a0 a1) := by
  intro a0 a1 k
  obtain ⟨ih0, ih1⟩ := laws_FnJqEscapeParts.mono_l k
  unfold laws_FnJqEscapeParts.f
  repeat' first
      | (with_reducible exact ih0 _ _ _)
      | (with_reducible exact ih1 _ _ _)
      | (with_reducible exact LeO.refl _)
      | (with_reducible exact LeO.none _)
      | (with_reducible refine LeO.ite ?_ ?_)
      | (with_reducible refine LeO.bind ?_ (fun _ => ?_))
      | exact ih0 _ _ _
      | exact ih1 _ _ _
      | exact LeO.none _
      | refine LeO.ite ?_ ?_
      | refine LeO.bind ?_ (fun _ => ?_)
set_option maxHeartbeats 8000000 in
set_option maxRecDepth 100000 in
theorem laws_FnJqEscapeParts.calls (k : Nat) (a0 : ByteArray) (a1 : ByteArray) (r : Bool) (w : World) (h : laws_FnJqEscapeParts.f k a0 a1 = some r) :
    Calls Try.prog 7 #[.string a0, .string a1] w fun e w' => e = .returned (.bool r) ∧ Below w.heap.size w w' := by
  have HB := Aside0.mk (Below.refl w.heap.size w)
  have H : (if (a0.size : Int) > 2147483647 then (laws_FnJqEscapeParts.j0 k a0 a1 true) else (laws_FnJqEscapeParts.j0 k a0 a1 (decide ((a1.size : Int) > 2147483647)))) = some r := h
  clear h
  have HC3 := Aside0.mk H
  clear H
  go_enter Try.func7, Try.ntmps7
  go_upto_region 1 with (fail)
  repeat (go_quiet (fail); go_upto_region 1 with (fail))
  go_cut [15] (fun v15 wc => ∃ (kq : Nat) (x15_2 : Bool), v15 = .bool x15_2 ∧ Aside0 (laws_FnJqEscapeParts.j0 kq a0 a1 x15_2 = some r) ∧ Aside0 (kq ≤ k) ∧ Aside0 (Below w.heap.size w wc))
  case first =>
    have H := HC3.out
    clear HC3
    by_cases c4 : (a0.size : Int) > 2147483647
    · rw [if_pos c4] at H
      have c4b0 : decide (2147483647 < (a0.size : Int)) = true := decide_eq_true c4
      have c4b1 : decide (2147483647 < a0.size) = true := decide_eq_true (by omega)
      clear c4
      (first | rw [c4b0] | (simp only [i64_w, i32_w]; rw [c4b0]) | skip)
      have H' := Aside0.mk H
      clear H
      go_wp2
      repeat (go_quiet (fail); try go_wp2)
      go_meet
      case rel => exact ⟨_, (true), (by first | rfl | (simp; done) | (simp [*]; done)), H', ⟨by first | omega | exact Nat.le_refl _⟩, ⟨by repeat (first | (with_reducible first | exact HB.out | apply below_alloc | apply pw_below_drewN | apply below_drew1) | exact HB.out)⟩⟩
    · rw [if_neg c4] at H
      have c4b0 : decide (2147483647 < (a0.size : Int)) = false := decide_eq_false c4
      have c4b1 : decide (2147483647 < a0.size) = false := decide_eq_false (by omega)
      clear c4
      (first | rw [c4b0] | (simp only [i64_w, i32_w]; rw [c4b0]) | skip)
      have H' := Aside0.mk H
      clear H
      go_wp2
      repeat (go_quiet (fail); try go_wp2)
      go_meet
      case rel => exact ⟨_, (decide ((a1.size : Int) > 2147483647)), (by first | rfl | (simp; done) | (simp [*]; done)), H', ⟨by first | omega | exact Nat.le_refl _⟩, ⟨by repeat (first | (with_reducible first | exact HB.out | apply below_alloc | apply pw_below_drewN | apply below_drew1) | exact HB.out)⟩⟩
  case rest =>
    clear HC3
    try clear p2
    try clear c4
    try clear c4b0
    try clear c4b1
    obtain ⟨kq, x15_2, rfl, HA, HJ2, HB⟩ := hcut
    cases kq with
    | zero => exact absurd HA.out (by simp [laws_FnJqEscapeParts.j0])
    | succ kj2 =>
      have H := HA.out
      clear HA
      simp only [laws_FnJqEscapeParts.j0] at H
      by_cases c5 : x15_2 = true
      · subst c5
        have H1 : (some true) = some r := by rw [if_pos rfl] at H; exact H
        clear H
        have H := H1
        clear H1
        obtain rfl := Option.some.inj H
        go_wp2
        repeat (go_quiet (fail); try go_wp2)
        go_ret
        exact ⟨by first | rfl | (simp [errW_none, errW_some] <;> rfl) | (simp [*, errW_none, errW_some] <;> rfl), by repeat (first | (with_reducible first | exact HB.out | apply below_alloc | apply pw_below_drewN | apply below_drew1) | exact HB.out)⟩
      · replace c5 := Bool.eq_false_iff.mpr c5
        subst c5
        have H1 : (if (a0.size : Int) > 8192 then (laws_FnJqEscapeParts.j1 kj2 a0 a1 true) else (laws_FnJqEscapeParts.j1 kj2 a0 a1 (decide ((a1.size : Int) > 8192)))) = some r := by rw [if_neg (show ¬ (false = true) by decide)] at H; exact H
        clear H
        have H := H1
        clear H1
        have HC6 := Aside0.mk H
        clear H
        go_upto_region 3 with (fail)
        repeat (go_quiet (fail); go_upto_region 3 with (fail))
        go_cut [23] (fun v23 wc => ∃ (kq : Nat) (x23_5 : Bool), v23 = .bool x23_5 ∧ Aside0 (laws_FnJqEscapeParts.j1 kq a0 a1 x23_5 = some r) ∧ Aside0 (kq ≤ kj2) ∧ Aside0 (Below w.heap.size w wc))
        case first =>
          have H := HC6.out
          clear HC6
          by_cases c7 : (a0.size : Int) > 8192
          · rw [if_pos c7] at H
            have c7b0 : decide (8192 < (a0.size : Int)) = true := decide_eq_true c7
            have c7b1 : decide (8192 < a0.size) = true := decide_eq_true (by omega)
            clear c7
            (first | rw [c7b0] | (simp only [i64_w, i32_w]; rw [c7b0]) | skip)
            have H' := Aside0.mk H
            clear H
            go_wp2
            repeat (go_quiet (fail); try go_wp2)
            go_meet
            case rel => exact ⟨_, (true), (by first | rfl | (simp; done) | (simp [*]; done)), H', ⟨by have := HJ2.out; first | omega | exact Nat.le_refl _⟩, ⟨by repeat (first | (with_reducible first | exact HB.out | apply below_alloc | apply pw_below_drewN | apply below_drew1) | exact HB.out)⟩⟩
          · rw [if_neg c7] at H
            have c7b0 : decide (8192 < (a0.size : Int)) = false := decide_eq_false c7
            have c7b1 : decide (8192 < a0.size) = false := decide_eq_false (by omega)
            clear c7
            (first | rw [c7b0] | (simp only [i64_w, i32_w]; rw [c7b0]) | skip)
            have H' := Aside0.mk H
            clear H
            go_wp2
            repeat (go_quiet (fail); try go_wp2)
            go_meet
            case rel => exact ⟨_, (decide ((a1.size : Int) > 8192)), (by first | rfl | (simp; done) | (simp [*]; done)), H', ⟨by have := HJ2.out; first | omega | exact Nat.le_refl _⟩, ⟨by repeat (first | (with_reducible first | exact HB.out | apply below_alloc | apply pw_below_drewN | apply below_drew1) | exact HB.out)⟩⟩
        case rest =>
          clear HC6
          try clear p2
          try clear c4
          try clear c4b0
          try clear c4b1
          try clear c5
          try clear c7
          try clear c7b0
          try clear c7b1
          try clear p2
          obtain ⟨kq, x23_5, rfl, HA, HJ5, HB⟩ := hcut
          cases kq with
          | zero => exact absurd HA.out (by simp [laws_FnJqEscapeParts.j1])
          | succ kj5 =>
            have H := HA.out
            clear HA
            simp only [laws_FnJqEscapeParts.j1] at H
            by_cases c8 : x23_5 = true
            · subst c8
              have H1 : (some true) = some r := by rw [if_pos rfl] at H; exact H
              clear H
              have H := H1
              clear H1
              obtain rfl := Option.some.inj H
              go_wp2
              repeat (go_quiet (fail); try go_wp2)
              go_ret
              exact ⟨by first | rfl | (simp [errW_none, errW_some] <;> rfl) | (simp [*, errW_none, errW_some] <;> rfl), by repeat (first | (with_reducible first | exact HB.out | apply below_alloc | apply pw_below_drewN | apply below_drew1) | exact HB.out)⟩
            · replace c8 := Bool.eq_false_iff.mpr c8
              subst c8
              have H1 : ((impl_JqEscape.f a0).bind fun t101 => ((impl_JqEscape.f a1).bind fun t102 => (if a0.size + a1.size ≤ 9223372036854775807 then ((impl_JqEscape.f (a0 ++ a1)).bind fun t103 => (if (t101.size : Int) ≥ 2 then (if (t102.size : Int) ≥ 2 then (if 0 ≤ (wrap64 ((t101.size : Int) - 1)) then (if (wrap64 ((t101.size : Int) - 1)) ≤ (t101.size : Int) then (if 1 ≤ (t102.size : Int) then (if (t101.extract 0 ((wrap64 ((t101.size : Int) - 1)) : Int).toNat).size + (t102.extract 1 t102.size).size ≤ 9223372036854775807 then (some (t103.toList == ((t101.extract 0 ((wrap64 ((t101.size : Int) - 1)) : Int).toNat) ++ (t102.extract 1 t102.size)).toList)) else (none)) else (none)) else (none)) else (none)) else (some false)) else (some false))) else (none)))) = some r := by rw [if_neg (show ¬ (false = true) by decide)] at H; exact H
              clear H
              have H := H1
              clear H1
              replace H := Option.bind_eq_some_iff.mp H
              obtain ⟨t101, A90, H⟩ := H
              replace H : ((impl_JqEscape.f a1).bind fun t102 => (if a0.size + a1.size ≤ 9223372036854775807 then ((impl_JqEscape.f (a0 ++ a1)).bind fun t103 => (if (t101.size : Int) ≥ 2 then (if (t102.size : Int) ≥ 2 then (if 0 ≤ (wrap64 ((t101.size : Int) - 1)) then (if (wrap64 ((t101.size : Int) - 1)) ≤ (t101.size : Int) then (if 1 ≤ (t102.size : Int) then (if (t101.extract 0 ((wrap64 ((t101.size : Int) - 1)) : Int).toNat).size + (t102.extract 1 t102.size).size ≤ 9223372036854775807 then (some (t103.toList == ((t101.extract 0 ((wrap64 ((t101.size : Int) - 1)) : Int).toNat) ++ (t102.extract 1 t102.size)).toList)) else (none)) else (none)) else (none)) else (none)) else (some false)) else (some false))) else (none))) = some r := H
              have A9 := Aside0.mk A90
              clear A90
              replace H := Option.bind_eq_some_iff.mp H
              obtain ⟨t102, A100, H⟩ := H
              replace H : (if a0.size + a1.size ≤ 9223372036854775807 then ((impl_JqEscape.f (a0 ++ a1)).bind fun t103 => (if (t101.size : Int) ≥ 2 then (if (t102.size : Int) ≥ 2 then (if 0 ≤ (wrap64 ((t101.size : Int) - 1)) then (if (wrap64 ((t101.size : Int) - 1)) ≤ (t101.size : Int) then (if 1 ≤ (t102.size : Int) then (if (t101.extract 0 ((wrap64 ((t101.size : Int) - 1)) : Int).toNat).size + (t102.extract 1 t102.size).size ≤ 9223372036854775807 then (some (t103.toList == ((t101.extract 0 ((wrap64 ((t101.size : Int) - 1)) : Int).toNat) ++ (t102.extract 1 t102.size)).toList)) else (none)) else (none)) else (none)) else (none)) else (some false)) else (some false))) else (none)) = some r := H
              have A10 := Aside0.mk A100
              clear A100
              by_cases c11 : a0.size + a1.size ≤ 9223372036854775807
              · rw [if_pos c11] at H
                have c11b0 := eq_true c11
                have c11b1 : decide (a0.size + a1.size ≤ 9223372036854775807) = true := decide_eq_true c11
                try have c11b2 : (9223372036854775807 < a0.size + a1.size) = False := eq_false (Nat.not_lt.2 c11)
                replace H := Option.bind_eq_some_iff.mp H
                obtain ⟨t103, A120, H⟩ := H
                replace H : (if (t101.size : Int) ≥ 2 then (if (t102.size : Int) ≥ 2 then (if 0 ≤ (wrap64 ((t101.size : Int) - 1)) then (if (wrap64 ((t101.size : Int) - 1)) ≤ (t101.size : Int) then (if 1 ≤ (t102.size : Int) then (if (t101.extract 0 ((wrap64 ((t101.size : Int) - 1)) : Int).toNat).size + (t102.extract 1 t102.size).size ≤ 9223372036854775807 then (some (t103.toList == ((t101.extract 0 ((wrap64 ((t101.size : Int) - 1)) : Int).toNat) ++ (t102.extract 1 t102.size)).toList)) else (none)) else (none)) else (none)) else (none)) else (some false)) else (some false)) = some r := H
                have A12 := Aside0.mk A120
                clear A120
                by_cases c13 : (t101.size : Int) ≥ 2
                · rw [if_pos c13] at H
                  have c13b0 : decide (2 ≤ (t101.size : Int)) = true := decide_eq_true c13
                  have c13b1 : decide (2 ≤ t101.size) = true := decide_eq_true (by omega)
                  clear c13
                  by_cases c14 : (t102.size : Int) ≥ 2
                  · rw [if_pos c14] at H
                    have c14b0 : decide (2 ≤ (t102.size : Int)) = true := decide_eq_true c14
                    have c14b1 : decide (2 ≤ t102.size) = true := decide_eq_true (by omega)
                    clear c14
                    obtain ⟨ji15, hji15⟩ : ∃ j_ : Int, (wrap64 ((t101.size : Int) - 1)) = j_ := ⟨_, rfl⟩
                    replace H : (if 0 ≤ (ji15) then (if (ji15) ≤ (t101.size : Int) then (if 1 ≤ (t102.size : Int) then (if (t101.extract 0 ((ji15) : Int).toNat).size + (t102.extract 1 t102.size).size ≤ 9223372036854775807 then (some (t103.toList == ((t101.extract 0 ((ji15) : Int).toNat) ++ (t102.extract 1 t102.size)).toList)) else (none)) else (none)) else (none)) else (none)) = some r := by first | (rw [hji15] at H; exact H) | (simp only [hji15] at H ⊢; exact H)
                    (try rw [hji15] at A9)
                    (try rw [hji15] at A10)
                    (try rw [hji15] at A12)
                    have hji15w : (IntKind.i64.wrap ((t101.size : Int) - 1)) = ji15 := (i64_w _).trans hji15
                    by_cases c16 : 0 ≤ (ji15)
                    · rw [if_pos c16] at H
                      have c16b0 := eq_true c16
                      have c16b1 : decide (0 ≤ (ji15)) = true := decide_eq_true c16
                      clear c16
                      by_cases c17 : (ji15) ≤ (t101.size : Int)
                      · rw [if_pos c17] at H
                        have c17b0 := eq_true c17
                        have c17b1 : decide ((ji15) ≤ (t101.size : Int)) = true := decide_eq_true c17
                        clear c17
                        by_cases c18 : 1 ≤ (t102.size : Int)
                        · rw [if_pos c18] at H
                          have c18b0 := eq_true c18
                          have c18b1 : decide (1 ≤ (t102.size : Int)) = true := decide_eq_true c18
                          clear c18
                          by_cases c19 : (t101.extract 0 ((ji15) : Int).toNat).size + (t102.extract 1 t102.size).size ≤ 9223372036854775807
                          · rw [if_pos c19] at H
                            have c19b0 := eq_true c19
                            have c19b1 : decide ((t101.extract 0 ((ji15) : Int).toNat).size + (t102.extract 1 t102.size).size ≤ 9223372036854775807) = true := decide_eq_true c19
                            try have c19b2 : (9223372036854775807 < (t101.extract 0 ((ji15) : Int).toNat).size + (t102.extract 1 t102.size).size) = False := eq_false (Nat.not_lt.2 c19)
                            obtain rfl := Option.some.inj H
                            go_wp2_with (first | (go_at_call 17; (with_reducible refine (impl_JqEscape.calls a0 t101 _ A9.out).mono ?_); rintro e w20 ⟨rfl, hb⟩; have n0_ := Aside0.mk (below_step (by repeat (first | (with_reducible first | exact HB.out | apply below_alloc | apply pw_below_drewN | apply below_drew1) | exact HB.out)) hb); clear HB; have HB := n0_; clear n0_; (try clear hb); (try clear hb2); (try clear hk); (try clear hi)) | (go_at_call 17; (with_reducible refine (impl_JqEscape.calls a1 t102 _ A10.out).mono ?_); rintro e w21 ⟨rfl, hb⟩; have n0_ := Aside0.mk (below_step (by repeat (first | (with_reducible first | exact HB.out | apply below_alloc | apply pw_below_drewN | apply below_drew1) | exact HB.out)) hb); clear HB; have HB := n0_; clear n0_; (try clear hb); (try clear hb2); (try clear hk); (try clear hi)) | (go_at_call 17; (with_reducible refine (impl_JqEscape.calls (a0 ++ a1) t103 _ A12.out).mono ?_); rintro e w22 ⟨rfl, hb⟩; have n0_ := Aside0.mk (below_step (by repeat (first | (with_reducible first | exact HB.out | apply below_alloc | apply pw_below_drewN | apply below_drew1) | exact HB.out)) hb); clear HB; have HB := n0_; clear n0_; (try clear hb); (try clear hb2); (try clear hk); (try clear hi)))
                            repeat (go_quiet (first | (go_at_call 17; (with_reducible refine (impl_JqEscape.calls a0 t101 _ A9.out).mono ?_); rintro e w20 ⟨rfl, hb⟩; have n0_ := Aside0.mk (below_step (by repeat (first | (with_reducible first | exact HB.out | apply below_alloc | apply pw_below_drewN | apply below_drew1) | exact HB.out)) hb); clear HB; have HB := n0_; clear n0_; (try clear hb); (try clear hb2); (try clear hk); (try clear hi)) | (go_at_call 17; (with_reducible refine (impl_JqEscape.calls a1 t102 _ A10.out).mono ?_); rintro e w21 ⟨rfl, hb⟩; have n0_ := Aside0.mk (below_step (by repeat (first | (with_reducible first | exact HB.out | apply below_alloc | apply pw_below_drewN | apply below_drew1) | exact HB.out)) hb); clear HB; have HB := n0_; clear n0_; (try clear hb); (try clear hb2); (try clear hk); (try clear hi)) | (go_at_call 17; (with_reducible refine (impl_JqEscape.calls (a0 ++ a1) t103 _ A12.out).mono ?_); rintro e w22 ⟨rfl, hb⟩; have n0_ := Aside0.mk (below_step (by repeat (first | (with_reducible first | exact HB.out | apply below_alloc | apply pw_below_drewN | apply below_drew1) | exact HB.out)) hb); clear HB; have HB := n0_; clear n0_; (try clear hb); (try clear hb2); (try clear hk); (try clear hi))); try go_wp2_with (first | (go_at_call 17; (with_reducible refine (impl_JqEscape.calls a0 t101 _ A9.out).mono ?_); rintro e w20 ⟨rfl, hb⟩; have n0_ := Aside0.mk (below_step (by repeat (first | (with_reducible first | exact HB.out | apply below_alloc | apply pw_below_drewN | apply below_drew1) | exact HB.out)) hb); clear HB; have HB := n0_; clear n0_; (try clear hb); (try clear hb2); (try clear hk); (try clear hi)) | (go_at_call 17; (with_reducible refine (impl_JqEscape.calls a1 t102 _ A10.out).mono ?_); rintro e w21 ⟨rfl, hb⟩; have n0_ := Aside0.mk (below_step (by repeat (first | (with_reducible first | exact HB.out | apply below_alloc | apply pw_below_drewN | apply below_drew1) | exact HB.out)) hb); clear HB; have HB := n0_; clear n0_; (try clear hb); (try clear hb2); (try clear hk); (try clear hi)) | (go_at_call 17; (with_reducible refine (impl_JqEscape.calls (a0 ++ a1) t103 _ A12.out).mono ?_); rintro e w22 ⟨rfl, hb⟩; have n0_ := Aside0.mk (below_step (by repeat (first | (with_reducible first | exact HB.out | apply below_alloc | apply pw_below_drewN | apply below_drew1) | exact HB.out)) hb); clear HB; have HB := n0_; clear n0_; (try clear hb); (try clear hb2); (try clear hk); (try clear hi))))
                            go_ret
                            exact ⟨by first | rfl | (simp [errW_none, errW_some] <;> rfl) | (simp only [← hji15]; first | rfl | (simp [errW_none, errW_some] <;> rfl)) | (simp [*, errW_none, errW_some] <;> rfl), by repeat (first | (with_reducible first | exact HB.out | apply below_alloc | apply pw_below_drewN | apply below_drew1) | exact HB.out)⟩
                          · rw [if_neg c19] at H
                            exact absurd H (by simp)
                        · rw [if_neg c18] at H
                          exact absurd H (by simp)
                      · rw [if_neg c17] at H
                        exact absurd H (by simp)
                    · rw [if_neg c16] at H
                      exact absurd H (by simp)
                  · rw [if_neg c14] at H
                    have c14b0 : decide (2 ≤ (t102.size : Int)) = false := decide_eq_false c14
                    have c14b1 : decide (2 ≤ t102.size) = false := decide_eq_false (by omega)
                    clear c14
                    obtain rfl := Option.some.inj H
                    go_wp2_with (first | (go_at_call 17; (with_reducible refine (impl_JqEscape.calls a0 t101 _ A9.out).mono ?_); rintro e w23 ⟨rfl, hb⟩; have n0_ := Aside0.mk (below_step (by repeat (first | (with_reducible first | exact HB.out | apply below_alloc | apply pw_below_drewN | apply below_drew1) | exact HB.out)) hb); clear HB; have HB := n0_; clear n0_; (try clear hb); (try clear hb2); (try clear hk); (try clear hi)) | (go_at_call 17; (with_reducible refine (impl_JqEscape.calls a1 t102 _ A10.out).mono ?_); rintro e w24 ⟨rfl, hb⟩; have n0_ := Aside0.mk (below_step (by repeat (first | (with_reducible first | exact HB.out | apply below_alloc | apply pw_below_drewN | apply below_drew1) | exact HB.out)) hb); clear HB; have HB := n0_; clear n0_; (try clear hb); (try clear hb2); (try clear hk); (try clear hi)) | (go_at_call 17; (with_reducible refine (impl_JqEscape.calls (a0 ++ a1) t103 _ A12.out).mono ?_); rintro e w25 ⟨rfl, hb⟩; have n0_ := Aside0.mk (below_step (by repeat (first | (with_reducible first | exact HB.out | apply below_alloc | apply pw_below_drewN | apply below_drew1) | exact HB.out)) hb); clear HB; have HB := n0_; clear n0_; (try clear hb); (try clear hb2); (try clear hk); (try clear hi)))
                    repeat (go_quiet (first | (go_at_call 17; (with_reducible refine (impl_JqEscape.calls a0 t101 _ A9.out).mono ?_); rintro e w23 ⟨rfl, hb⟩; have n0_ := Aside0.mk (below_step (by repeat (first | (with_reducible first | exact HB.out | apply below_alloc | apply pw_below_drewN | apply below_drew1) | exact HB.out)) hb); clear HB; have HB := n0_; clear n0_; (try clear hb); (try clear hb2); (try clear hk); (try clear hi)) | (go_at_call 17; (with_reducible refine (impl_JqEscape.calls a1 t102 _ A10.out).mono ?_); rintro e w24 ⟨rfl, hb⟩; have n0_ := Aside0.mk (below_step (by repeat (first | (with_reducible first | exact HB.out | apply below_alloc | apply pw_below_drewN | apply below_drew1) | exact HB.out)) hb); clear HB; have HB := n0_; clear n0_; (try clear hb); (try clear hb2); (try clear hk); (try clear hi)) | (go_at_call 17; (with_reducible refine (impl_JqEscape.calls (a0 ++ a1) t103 _ A12.out).mono ?_); rintro e w25 ⟨rfl, hb⟩; have n0_ := Aside0.mk (below_step (by repeat (first | (with_reducible first | exact HB.out | apply below_alloc | apply pw_below_drewN | apply below_drew1) | exact HB.out)) hb); clear HB; have HB := n0_; clear n0_; (try clear hb); (try clear hb2); (try clear hk); (try clear hi))); try go_wp2_with (first | (go_at_call 17; (with_reducible refine (impl_JqEscape.calls a0 t101 _ A9.out).mono ?_); rintro e w23 ⟨rfl, hb⟩; have n0_ := Aside0.mk (below_step (by repeat (first | (with_reducible first | exact HB.out | apply below_alloc | apply pw_below_drewN | apply below_drew1) | exact HB.out)) hb); clear HB; have HB := n0_; clear n0_; (try clear hb); (try clear hb2); (try clear hk); (try clear hi)) | (go_at_call 17; (with_reducible refine (impl_JqEscape.calls a1 t102 _ A10.out).mono ?_); rintro e w24 ⟨rfl, hb⟩; have n0_ := Aside0.mk (below_step (by repeat (first | (with_reducible first | exact HB.out | apply below_alloc | apply pw_below_drewN | apply below_drew1) | exact HB.out)) hb); clear HB; have HB := n0_; clear n0_; (try clear hb); (try clear hb2); (try clear hk); (try clear hi)) | (go_at_call 17; (with_reducible refine (impl_JqEscape.calls (a0 ++ a1) t103 _ A12.out).mono ?_); rintro e w25 ⟨rfl, hb⟩; have n0_ := Aside0.mk (below_step (by repeat (first | (with_reducible first | exact HB.out | apply below_alloc | apply pw_below_drewN | apply below_drew1) | exact HB.out)) hb); clear HB; have HB := n0_; clear n0_; (try clear hb); (try clear hb2); (try clear hk); (try clear hi))))
                    go_ret
                    exact ⟨by first | rfl | (simp [errW_none, errW_some] <;> rfl) | (simp [*, errW_none, errW_some] <;> rfl), by repeat (first | (with_reducible first | exact HB.out | apply below_alloc | apply pw_below_drewN | apply below_drew1) | exact HB.out)⟩
                · rw [if_neg c13] at H
                  have c13b0 : decide (2 ≤ (t101.size : Int)) = false := decide_eq_false c13
                  have c13b1 : decide (2 ≤ t101.size) = false := decide_eq_false (by omega)
                  clear c13
                  obtain rfl := Option.some.inj H
                  go_wp2_with (first | (go_at_call 17; (with_reducible refine (impl_JqEscape.calls a0 t101 _ A9.out).mono ?_); rintro e w26 ⟨rfl, hb⟩; have n0_ := Aside0.mk (below_step (by repeat (first | (with_reducible first | exact HB.out | apply below_alloc | apply pw_below_drewN | apply below_drew1) | exact HB.out)) hb); clear HB; have HB := n0_; clear n0_; (try clear hb); (try clear hb2); (try clear hk); (try clear hi)) | (go_at_call 17; (with_reducible refine (impl_JqEscape.calls a1 t102 _ A10.out).mono ?_); rintro e w27 ⟨rfl, hb⟩; have n0_ := Aside0.mk (below_step (by repeat (first | (with_reducible first | exact HB.out | apply below_alloc | apply pw_below_drewN | apply below_drew1) | exact HB.out)) hb); clear HB; have HB := n0_; clear n0_; (try clear hb); (try clear hb2); (try clear hk); (try clear hi)) | (go_at_call 17; (with_reducible refine (impl_JqEscape.calls (a0 ++ a1) t103 _ A12.out).mono ?_); rintro e w28 ⟨rfl, hb⟩; have n0_ := Aside0.mk (below_step (by repeat (first | (with_reducible first | exact HB.out | apply below_alloc | apply pw_below_drewN | apply below_drew1) | exact HB.out)) hb); clear HB; have HB := n0_; clear n0_; (try clear hb); (try clear hb2); (try clear hk); (try clear hi)))
                  repeat (go_quiet (first | (go_at_call 17; (with_reducible refine (impl_JqEscape.calls a0 t101 _ A9.out).mono ?_); rintro e w26 ⟨rfl, hb⟩; have n0_ := Aside0.mk (below_step (by repeat (first | (with_reducible first | exact HB.out | apply below_alloc | apply pw_below_drewN | apply below_drew1) | exact HB.out)) hb); clear HB; have HB := n0_; clear n0_; (try clear hb); (try clear hb2); (try clear hk); (try clear hi)) | (go_at_call 17; (with_reducible refine (impl_JqEscape.calls a1 t102 _ A10.out).mono ?_); rintro e w27 ⟨rfl, hb⟩; have n0_ := Aside0.mk (below_step (by repeat (first | (with_reducible first | exact HB.out | apply below_alloc | apply pw_below_drewN | apply below_drew1) | exact HB.out)) hb); clear HB; have HB := n0_; clear n0_; (try clear hb); (try clear hb2); (try clear hk); (try clear hi)) | (go_at_call 17; (with_reducible refine (impl_JqEscape.calls (a0 ++ a1) t103 _ A12.out).mono ?_); rintro e w28 ⟨rfl, hb⟩; have n0_ := Aside0.mk (below_step (by repeat (first | (with_reducible first | exact HB.out | apply below_alloc | apply pw_below_drewN | apply below_drew1) | exact HB.out)) hb); clear HB; have HB := n0_; clear n0_; (try clear hb); (try clear hb2); (try clear hk); (try clear hi))); try go_wp2_with (first | (go_at_call 17; (with_reducible refine (impl_JqEscape.calls a0 t101 _ A9.out).mono ?_); rintro e w26 ⟨rfl, hb⟩; have n0_ := Aside0.mk (below_step (by repeat (first | (with_reducible first | exact HB.out | apply below_alloc | apply pw_below_drewN | apply below_drew1) | exact HB.out)) hb); clear HB; have HB := n0_; clear n0_; (try clear hb); (try clear hb2); (try clear hk); (try clear hi)) | (go_at_call 17; (with_reducible refine (impl_JqEscape.calls a1 t102 _ A10.out).mono ?_); rintro e w27 ⟨rfl, hb⟩; have n0_ := Aside0.mk (below_step (by repeat (first | (with_reducible first | exact HB.out | apply below_alloc | apply pw_below_drewN | apply below_drew1) | exact HB.out)) hb); clear HB; have HB := n0_; clear n0_; (try clear hb); (try clear hb2); (try clear hk); (try clear hi)) | (go_at_call 17; (with_reducible refine (impl_JqEscape.calls (a0 ++ a1) t103 _ A12.out).mono ?_); rintro e w28 ⟨rfl, hb⟩; have n0_ := Aside0.mk (below_step (by repeat (first | (with_reducible first | exact HB.out | apply below_alloc | apply pw_below_drewN | apply below_drew1) | exact HB.out)) hb); clear HB; have HB := n0_; clear n0_; (try clear hb); (try clear hb2); (try clear hk); (try clear hi))))
                  go_ret
                  exact ⟨by first | rfl | (simp [errW_none, errW_some] <;> rfl) | (simp [*, errW_none, errW_some] <;> rfl), by repeat (first | (with_reducible first | exact HB.out | apply below_alloc | apply pw_below_drewN | apply below_drew1) | exact HB.out)⟩
              · rw [if_neg c11] at H
                exact absurd H (by simp)

/-- THE ONE PURE STATEMENT of laws_FnJqEscapeParts: yours. -/
def laws_FnJqEscapeParts.Pure : Prop := ∀ (a0 : ByteArray) (a1 : ByteArray), a0.size ≤ 140737488351232 → a1.size ≤ 140737488351232 → ∃ k, laws_FnJqEscapeParts.f k a0 a1 = some true
theorem laws_FnJqEscapeParts.walk (P : laws_FnJqEscapeParts.Pure) (a0 : ByteArray) (a1 : ByteArray) (w : World) (w0 : a0.size ≤ 140737488351232) (w1 : a1.size ≤ 140737488351232) :
    Calls Try.prog 7 #[.string a0, .string a1] w fun e w' => e = .returned (.bool true) ∧ Below w.heap.size w w' := by
  obtain ⟨k, h⟩ := P a0 a1 w0 w1
  refine (laws_FnJqEscapeParts.calls k a0 a1 true w h).mono ?_
  rintro e w' ⟨rfl, hd⟩
  exact ⟨rfl, hd⟩

end Go.Proofs.Ytbppoiedaojjmaa.PFnJqEscapeParts
