/- The reference's reader of characters, its table of terms, and what they are: no walk. -/
import Derived.Test.YtphpjboljlkdkaaDoorPureMt
import Derived.Test.YtphpjboljlkdkaaDoorPMtx4
namespace Go.Proofs.YtphpjboljlkdkaaDoor.Mt
open Go.RowKit Go.Proofs.YtphpjboljlkdkaaDoorW.PrintWords Go.Lib Go.Proofs.YtphpjboljlkdkaaDoor.PMt

def castR (r : Nat × Nat × Bool) : Int × Int × Bool := ((r.1 : Int), (r.2.1 : Int), r.2.2)
/-- The byte at a place, 0 behind the end. -/
def by_ (s : ByteArray) (i : Nat) : Nat := (s.data.toList.getD i 0).toNat
theorem by_bt (s : ByteArray) (i : Nat) : bt s (i : Int) = (by_ s i : Int) := by
  unfold by_ bt
  by_cases h : i < s.size
  · have h2 : s.data.toList[i]? = some s[i] := by
      rw [Array.getElem?_toList, Array.getElem?_eq_getElem h]
      rfl
    rw [dif_pos (by simpa using h), List.getD_eq_getElem?_getD, h2]
    rfl
  · have h2 : s.data.toList[i]? = none := by
      rw [List.getElem?_eq_none]
      rw [← size_eq]
      omega
    rw [dif_neg (by simpa using h), List.getD_eq_getElem?_getD, h2]
    rfl
theorem w_id {x : Int} (h1 : -9223372036854775808 ≤ x) (h2 : x ≤ 9223372036854775807) : wrap64 x = x := by
  unfold wrap64
  omega
theorem by_lt (s : ByteArray) (i : Nat) : by_ s i < 256 := UInt8.toNat_lt _
theorem high_f (c : Int) : spec_high.f c = some (decide (55296 ≤ c ∧ c ≤ 56319)) := by
  unfold spec_high.f
  by_cases h : 55296 ≤ c
  · rw [if_pos h]; simp [h]
  · rw [if_neg h]; simp [h]
theorem low_f (c : Int) : spec_low.f c = some (decide (56320 ≤ c ∧ c ≤ 57343)) := by
  unfold spec_low.f
  by_cases h : 56320 ≤ c
  · rw [if_pos h]; simp [h]
  · rw [if_neg h]; simp [h]
theorem fin_ev (s : ByteArray) (i c least more : Nat) (hm : more ≤ 3) : Ev (fun k => spec_Character.l0 k s (i : Int) (c : Int) (more : Int) (least : Int) (((more + 1 : Nat)) : Int)) (castR (finC c least (more + 1))) := by
  unfold finC castR badC
  by_cases h1 : c < least
  · rw [if_pos (.inl h1)]
    refine Ev.step (f := fun _ => some _) (fun k => ?_) (Ev.now _)
    simp only [spec_Character.l0]
    rw [if_neg (by omega), if_pos (by omega)]
    rfl
  by_cases h2 : 1114111 < c
  · rw [if_pos (.inr (.inl h2))]
    refine Ev.step (f := fun _ => some _) (fun k => ?_) (Ev.now _)
    simp only [spec_Character.l0]
    rw [if_neg (by omega), if_neg (by omega), if_pos (by omega)]
    rfl
  by_cases h3 : 55296 ≤ c ∧ c ≤ 57343
  · rw [if_pos (.inr (.inr h3))]
    refine Ev.step (f := fun _ => some _) (fun k => ?_) (Ev.now _)
    simp only [spec_Character.l0]
    rw [if_neg (by omega), if_neg (by omega), if_neg (by omega), high_f]
    simp only [Option.bind_some]
    by_cases h4 : c ≤ 56319
    · rw [decide_eq_true (by omega), if_pos rfl]
      rfl
    · rw [decide_eq_false (by omega), if_neg (by simp), low_f]
      simp only [Option.bind_some]
      rw [decide_eq_true (by omega), if_pos rfl]
      rfl
  · rw [if_neg (by omega)]
    refine Ev.step (f := fun _ => some _) (fun k => ?_) (Ev.now _)
    simp only [spec_Character.l0]
    rw [if_neg (by omega), if_neg (by omega), if_neg (by omega), high_f]
    simp only [Option.bind_some]
    rw [decide_eq_false (by omega), if_neg (by simp), low_f]
    simp only [Option.bind_some]
    rw [decide_eq_false (by omega), if_neg (by simp)]
    have : wrap64 ((more : Int) + 1) = ((more + 1 : Nat) : Int) := by unfold wrap64; omega
    rw [this]
theorem byte_bad (s : ByteArray) (hs : s.size ≤ 2147483647) (i c least more j : Nat) (hm : more ≤ 3) (hj : j ≤ more) (hi : i + j < s.size) (hb : by_ s (i + j) < 128 ∨ 191 < by_ s (i + j)) : Ev (fun k => spec_Character.l0 k s (i : Int) (c : Int) (more : Int) (least : Int) (j : Int)) (castR badC) := by
  have w1 : wrap64 ((i : Int) + (j : Int)) = ((i + j : Nat) : Int) := by unfold wrap64; omega
  have hl := by_lt s (i + j)
  have w2 : wrap64 (by_ s (i + j) : Int) = (by_ s (i + j) : Int) := by unfold wrap64; omega
  refine Ev.step (f := fun _ => some _) (fun k => ?_) (Ev.now _)
  simp only [spec_Character.l0]
  rw [if_pos (by omega), w1, by_bt, w2, if_pos (by omega), if_pos (by omega)]
  by_cases h : by_ s (i + j) < 128
  · rw [if_pos (by omega)]; rfl
  · rw [if_neg (by omega), if_pos (by omega)]; rfl
theorem byte_ok (s : ByteArray) (hs : s.size ≤ 2147483647) (i c least more j : Nat) (r : Int × Int × Bool) (hm : more ≤ 3) (hj : j ≤ more) (hi : i + j < s.size) (hc : c ≤ 1000000) (hb : ¬ (by_ s (i + j) < 128 ∨ 191 < by_ s (i + j)))
    (h : Ev (fun k => spec_Character.l0 k s (i : Int) ((c * 64 + by_ s (i + j) - 128 : Nat) : Int) (more : Int) (least : Int) ((j + 1 : Nat) : Int)) r) : Ev (fun k => spec_Character.l0 k s (i : Int) (c : Int) (more : Int) (least : Int) (j : Int)) r := by
  have w1 : wrap64 ((i : Int) + (j : Int)) = ((i + j : Nat) : Int) := by unfold wrap64; omega
  have hl := by_lt s (i + j)
  have w2 : wrap64 (by_ s (i + j) : Int) = (by_ s (i + j) : Int) := by unfold wrap64; omega
  have q1 : (j : Int) ≤ (more : Int) := by omega
  have q2 : (0 : Int) ≤ ((i + j : Nat) : Int) := by omega
  have q3 : ((i + j : Nat) : Int) < (s.size : Int) := by omega
  have q4 : ¬ (by_ s (i + j) : Int) < 128 := by omega
  have q5 : ¬ (by_ s (i + j) : Int) > 191 := by omega
  have v1 : wrap64 ((c : Int) * 64) = (c : Int) * 64 := w_id (by omega) (by omega)
  have v2 : wrap64 ((c : Int) * 64 + (by_ s (i + j) : Int)) = (c : Int) * 64 + (by_ s (i + j) : Int) := w_id (by omega) (by omega)
  have v3 : wrap64 ((c : Int) * 64 + (by_ s (i + j) : Int) - 128) = ((c * 64 + by_ s (i + j) - 128 : Nat) : Int) := (w_id (by omega) (by omega)).trans (by omega)
  have w4 : wrap64 ((j : Int) + 1) = ((j + 1 : Nat) : Int) := by unfold wrap64; omega
  refine Ev.step (fun k => ?_) h
  simp only [spec_Character.l0]
  rw [if_pos q1, w1, by_bt, w2, if_pos q2, if_pos q3, if_neg q4, if_neg q5, v1, v2, v3, w4]
theorem j2_le (s : ByteArray) (_hs : s.size ≤ 2147483647) (i c least more : Nat) (_hm : more ≤ 3) (hi : i < s.size) (h : s.size - i ≤ more) : Ev (fun k => spec_Character.j2 k s (i : Int) (c : Int) (more : Int) (least : Int)) (castR badC) := by
  have w : wrap64 ((s.size : Int) - (i : Int)) = ((s.size - i : Nat) : Int) := by unfold wrap64; omega
  refine Ev.step (f := fun _ => some _) (fun k => ?_) (Ev.now _)
  simp only [spec_Character.j2]
  rw [w, if_pos (by omega)]
  rfl
theorem j2_gt (s : ByteArray) (hs : s.size ≤ 2147483647) (i c least more : Nat) (_hm : more ≤ 3) (hi : i < s.size) (h : ¬ s.size - i ≤ more) (r : Int × Int × Bool) (hr : Ev (fun k => spec_Character.l0 k s (i : Int) (c : Int) (more : Int) (least : Int) ((1 : Nat) : Int)) r) : Ev (fun k => spec_Character.j2 k s (i : Int) (c : Int) (more : Int) (least : Int)) r := by
  have w : wrap64 ((s.size : Int) - (i : Int)) = ((s.size - i : Nat) : Int) := by unfold wrap64; omega
  refine Ev.step (fun k => ?_) hr
  simp only [spec_Character.j2]
  rw [w, if_neg (by omega)]
  rfl
/-- spec.Character at a place is chr. -/
theorem chr_ev (s : ByteArray) (hs : s.size ≤ 2147483647) (i : Nat) (hi : i < s.size) :
    Ev (fun k => spec_Character.f k s (i : Int)) (castR (chr (s.size - i) (by_ s i) (by_ s (i + 1)) (by_ s (i + 2)) (by_ s (i + 3)))) := by
  obtain ⟨b0, h0⟩ : ∃ b, by_ s i = b := ⟨_, rfl⟩
  have l0 := by_lt s i
  have w0 : wrap64 (b0 : Int) = (b0 : Int) := by unfold wrap64; omega
  rw [h0] at l0 ⊢
  unfold chr
  by_cases a1 : b0 < 128
  · rw [if_pos a1]
    refine Ev.congr (f := fun _ => some _) (fun k => ?_) (Ev.now _)
    unfold spec_Character.f
    rw [if_pos (by omega), if_pos (by omega), by_bt, h0, w0, if_pos (by omega)]
    rfl
  rw [if_neg a1]
  by_cases a2 : 194 ≤ b0 ∧ b0 ≤ 223
  · rw [if_pos a2]
    have w1 : wrap64 ((b0 : Int) - 192) = ((b0 - 192 : Nat) : Int) := by unfold wrap64; omega
    refine Ev.congr (f := fun k => spec_Character.j0 k s (i : Int) (b0 : Int) true) (fun k => ?_) (Ev.step (f := fun k => spec_Character.j2 k s (i : Int) ((b0 - 192 : Nat) : Int) ((1 : Nat) : Int) ((128 : Nat) : Int)) (fun k => ?_) ?_)
    · unfold spec_Character.f
      rw [if_pos (by omega), if_pos (by omega), by_bt, h0, w0, if_neg (by omega), if_pos (by omega), decide_eq_true (by omega)]
    · simp only [spec_Character.j0, if_true]
      rw [w1]
      rfl
    by_cases hn : s.size - i ≤ 1
    · rw [if_pos hn]
      exact j2_le s hs i _ _ 1 (by omega) hi hn
    rw [if_neg hn]
    refine j2_gt s hs i _ _ 1 (by omega) hi hn _ ?_
    by_cases hb : by_ s (i + 1) < 128 ∨ 191 < by_ s (i + 1)
    · rw [if_pos hb]
      exact byte_bad s hs i _ _ 1 1 (by omega) (by omega) (by omega) hb
    rw [if_neg hb]
    exact byte_ok s hs i _ _ 1 1 _ (by omega) (by omega) (by omega) (by omega) hb (fin_ev s i _ _ 1 (by omega))
  rw [if_neg a2]
  by_cases a3 : 224 ≤ b0 ∧ b0 ≤ 239
  · rw [if_pos a3]
    have w1 : wrap64 ((b0 : Int) - 224) = ((b0 - 224 : Nat) : Int) := by unfold wrap64; omega
    refine Ev.congr (f := fun k => spec_Character.j0 k s (i : Int) (b0 : Int) false) (fun k => ?_) (Ev.step (f := fun k => spec_Character.j1 k s (i : Int) (b0 : Int) true) (fun k => ?_) (Ev.step (f := fun k => spec_Character.j2 k s (i : Int) ((b0 - 224 : Nat) : Int) ((2 : Nat) : Int) ((2048 : Nat) : Int)) (fun k => ?_) ?_))
    · unfold spec_Character.f
      rw [if_pos (by omega), if_pos (by omega), by_bt, h0, w0, if_neg (by omega), if_pos (by omega), decide_eq_false (by omega)]
    · simp only [spec_Character.j0, Bool.false_eq_true, if_false]
      rw [if_pos (by omega), decide_eq_true (by omega)]
    · simp only [spec_Character.j1, if_true]
      rw [w1]
      rfl
    by_cases hn : s.size - i ≤ 2
    · rw [if_pos hn]
      exact j2_le s hs i _ _ 2 (by omega) hi hn
    rw [if_neg hn]
    refine j2_gt s hs i _ _ 2 (by omega) hi hn _ ?_
    by_cases hb : by_ s (i + 1) < 128 ∨ 191 < by_ s (i + 1)
    · rw [if_pos hb]
      exact byte_bad s hs i _ _ 2 1 (by omega) (by omega) (by omega) hb
    rw [if_neg hb]
    have l1 := by_lt s (i + 1)
    refine byte_ok s hs i _ _ 2 1 _ (by omega) (by omega) (by omega) (by omega) hb ?_
    by_cases hb2 : by_ s (i + 2) < 128 ∨ 191 < by_ s (i + 2)
    · rw [if_pos hb2]
      exact byte_bad s hs i _ _ 2 2 (by omega) (by omega) (by omega) hb2
    rw [if_neg hb2]
    exact byte_ok s hs i _ _ 2 2 _ (by omega) (by omega) (by omega) (by omega) hb2 (fin_ev s i _ _ 2 (by omega))
  rw [if_neg a3]
  by_cases a4 : 240 ≤ b0 ∧ b0 ≤ 244
  · rw [if_pos a4]
    have w1 : wrap64 ((b0 : Int) - 240) = ((b0 - 240 : Nat) : Int) := by unfold wrap64; omega
    refine Ev.congr (f := fun k => spec_Character.j0 k s (i : Int) (b0 : Int) false) (fun k => ?_) (Ev.step (f := fun k => spec_Character.j1 k s (i : Int) (b0 : Int) false) (fun k => ?_) (Ev.step (f := fun k => spec_Character.j2 k s (i : Int) ((b0 - 240 : Nat) : Int) ((3 : Nat) : Int) ((65536 : Nat) : Int)) (fun k => ?_) ?_))
    · unfold spec_Character.f
      rw [if_pos (by omega), if_pos (by omega), by_bt, h0, w0, if_neg (by omega), if_pos (by omega), decide_eq_false (by omega)]
    · simp only [spec_Character.j0, Bool.false_eq_true, if_false]
      rw [if_pos (by omega), decide_eq_false (by omega)]
    · simp only [spec_Character.j1, Bool.false_eq_true, if_false]
      rw [if_pos (by omega), if_pos (by omega), w1]
      rfl
    by_cases hn : s.size - i ≤ 3
    · rw [if_pos hn]
      exact j2_le s hs i _ _ 3 (by omega) hi hn
    rw [if_neg hn]
    refine j2_gt s hs i _ _ 3 (by omega) hi hn _ ?_
    by_cases hb : by_ s (i + 1) < 128 ∨ 191 < by_ s (i + 1)
    · rw [if_pos hb]
      exact byte_bad s hs i _ _ 3 1 (by omega) (by omega) (by omega) hb
    rw [if_neg hb]
    have l1 := by_lt s (i + 1)
    refine byte_ok s hs i _ _ 3 1 _ (by omega) (by omega) (by omega) (by omega) hb ?_
    by_cases hb2 : by_ s (i + 2) < 128 ∨ 191 < by_ s (i + 2)
    · rw [if_pos hb2]
      exact byte_bad s hs i _ _ 3 2 (by omega) (by omega) (by omega) hb2
    rw [if_neg hb2]
    have l2 := by_lt s (i + 2)
    refine byte_ok s hs i _ _ 3 2 _ (by omega) (by omega) (by omega) (by omega) hb2 ?_
    by_cases hb3 : by_ s (i + 3) < 128 ∨ 191 < by_ s (i + 3)
    · rw [if_pos hb3]
      exact byte_bad s hs i _ _ 3 3 (by omega) (by omega) (by omega) hb3
    rw [if_neg hb3]
    exact byte_ok s hs i _ _ 3 3 _ (by omega) (by omega) (by omega) (by omega) hb3 (fin_ev s i _ _ 3 (by omega))
  · rw [if_neg a4]
    by_cases b1 : b0 < 194
    · refine Ev.congr (f := fun k => spec_Character.j0 k s (i : Int) (b0 : Int) false) (fun k => ?_) (Ev.step (f := fun k => spec_Character.j1 k s (i : Int) (b0 : Int) false) (fun k => ?_) (Ev.step (f := fun _ => some _) (fun k => ?_) (Ev.now _)))
      · unfold spec_Character.f
        rw [if_pos (by omega), if_pos (by omega), by_bt, h0, w0, if_neg (by omega), if_neg (by omega)]
      · simp only [spec_Character.j0, Bool.false_eq_true, if_false]
        rw [if_neg (by omega)]
      · simp only [spec_Character.j1, Bool.false_eq_true, if_false]
        rw [if_neg (by omega)]
        rfl
    · refine Ev.congr (f := fun k => spec_Character.j0 k s (i : Int) (b0 : Int) false) (fun k => ?_) (Ev.step (f := fun k => spec_Character.j1 k s (i : Int) (b0 : Int) false) (fun k => ?_) (Ev.step (f := fun _ => some _) (fun k => ?_) (Ev.now _)))
      · unfold spec_Character.f
        rw [if_pos (by omega), if_pos (by omega), by_bt, h0, w0, if_neg (by omega), if_pos (by omega), decide_eq_false (by omega)]
      · simp only [spec_Character.j0, Bool.false_eq_true, if_false]
        rw [if_pos (by omega), decide_eq_false (by omega)]
      · simp only [spec_Character.j1, Bool.false_eq_true, if_false]
        rw [if_pos (by omega), if_neg (by omega)]
        rfl
end Go.Proofs.YtphpjboljlkdkaaDoor.Mt
