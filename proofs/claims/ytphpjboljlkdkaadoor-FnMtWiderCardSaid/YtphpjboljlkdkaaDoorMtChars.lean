/- spec.Characters, Globs, Pattern: what they give. -/
import Derived.Test.YtphpjboljlkdkaaDoorMtChr
namespace Go.Proofs.YtphpjboljlkdkaaDoor.Mt
open Go.RowKit Go.Proofs.YtphpjboljlkdkaaDoorW.PrintWords Go.Lib Go.Proofs.YtphpjboljlkdkaaDoor.PMt

theorem ofNat_by (s : ByteArray) (i : Nat) : UInt8.ofNat (by_ s i) = s.data.toList.getD i 0 := by
  unfold by_
  exact UInt8.ofNat_toNat
/-- A character that was read: what it is. -/
theorem chr_read (s : ByteArray) (i : Nat) (hi : i < s.size) {c m : Nat} (h : chr (s.size - i) (by_ s i) (by_ s (i + 1)) (by_ s (i + 2)) (by_ s (i + 3)) = (c, m, true)) :
    okc c ∧ 1 ≤ m ∧ i + m ≤ s.size ∧ s.data.toList.drop i = enc c ++ s.data.toList.drop (i + m) := by
  obtain ⟨h1, h2, h3⟩ := chr_enc (by omega) h
  have hsz : s.data.toList.length = s.size := by rw [size_eq]
  have hm4 : m ≤ 4 := by
    unfold chr finC badC at h
    repeat' split at h
    all_goals simp at h
    all_goals omega
  have hl : (enc c).length = m := by
    rw [h3]
    simp
    omega
  have hp := enc_pos c
  refine ⟨h1, by omega, by omega, ?_⟩
  have hd : s.data.toList.drop i = (s.data.toList.drop i).take m ++ (s.data.toList.drop i).drop m := (List.take_append_drop _ _).symm
  rw [hd, List.drop_drop]
  congr 1
  rw [h3]
  apply List.ext_getElem
  · simp
    omega
  · intro k k1 k2
    have hk : k < m := by
      have := k1
      rw [List.length_take] at this
      omega
    have hk4 : k < 4 := by omega
    have hg : ((s.data.toList.drop i).take m)[k] = s.data.toList.getD (i + k) 0 := by
      rw [List.getElem_take, List.getElem_drop, List.getD_eq_getElem?_getD, List.getElem?_eq_getElem (by omega)]
      rfl
    rw [hg, List.getElem_map, List.getElem_take, ← ofNat_by]
    congr 1
    rcases (show k = 0 ∨ k = 1 ∨ k = 2 ∨ k = 3 by omega) with rfl | rfl | rfl | rfl <;> rfl
def ci (C : List Nat) : List Int := C.map fun c : Nat => (c : Int)
theorem chars_ev (s : ByteArray) (hs : s.size ≤ 2147483647) : ∀ (d i : Nat) (out : List Int), s.size - i ≤ d → i ≤ s.size → out.length ≤ i →
    ∃ (R : List Int) (ok : Bool), Ev (fun k => spec_Characters.l0 k s out (i : Int)) (R, ok) ∧ (ok = true → ∃ C : List Nat, R = out ++ ci C ∧ (∀ c ∈ C, okc c) ∧ s.data.toList.drop i = encL C) := by
  intro d
  induction d with
  | zero =>
    intro i out hd hi ho
    refine ⟨out, true, Ev.step (f := fun _ => some _) (fun k => ?_) (Ev.now _), fun _ => ⟨[], by simp [ci], by simp, ?_⟩⟩
    · simp only [spec_Characters.l0]
      rw [if_neg (by omega)]
    · rw [List.drop_eq_nil_of_le (by rw [← size_eq]; omega)]
      rfl
  | succ d ih =>
    intro i out hd hi ho
    by_cases hlt : i < s.size
    · have hch := chr_ev s hs i hlt
      obtain ⟨⟨c, m, ok⟩, hr⟩ : ∃ r, chr (s.size - i) (by_ s i) (by_ s (i + 1)) (by_ s (i + 2)) (by_ s (i + 3)) = r := ⟨_, rfl⟩
      rw [hr] at hch
      have q1 : (i : Int) < (s.size : Int) := by omega
      cases ok with
      | false =>
        refine ⟨[], false, Ev.step (fun k => ?_) (Ev.bind hch (f := fun k bt121 => if bt121.2.2 = true then (if out.length < 17592186044416 then (spec_Characters.l0 k s (out ++ [bt121.1]) (wrap64 ((i : Int) + bt121.2.1))) else (none)) else (some (([] : List Int), false))) (Ev.congr (f := fun _ => some ([], false)) (fun k => ?_) (Ev.now _))), fun h => by cases h⟩
        · simp only [spec_Characters.l0]
          rw [if_pos q1]
        · simp only [castR, Bool.false_eq_true, if_false]
      | true =>
        obtain ⟨h1, h2, h3, h4⟩ := chr_read s i hlt hr
        obtain ⟨R, ok, hR, hok⟩ := ih (i + m) (out ++ [(c : Int)]) (by omega) h3 (by simp; omega)
        have w1 : wrap64 ((i : Int) + (m : Int)) = ((i + m : Nat) : Int) := (w_id (by omega) (by omega)).trans (by omega)
        have q2 : out.length < 17592186044416 := by omega
        refine ⟨R, ok, Ev.step (fun k => ?_) (Ev.bind hch (f := fun k bt121 => if bt121.2.2 = true then (if out.length < 17592186044416 then (spec_Characters.l0 k s (out ++ [bt121.1]) (wrap64 ((i : Int) + bt121.2.1))) else (none)) else (some (([] : List Int), false))) ?_), fun h => ?_⟩
        · simp only [spec_Characters.l0]
          rw [if_pos q1]
        · simp only [castR, if_true]
          rw [w1]
          simp only [q2, if_true]
          exact hR
        · obtain ⟨C, e1, e2, e3⟩ := hok h
          refine ⟨c :: C, by rw [e1]; simp [ci], fun x hx => ?_, ?_⟩
          · rcases List.mem_cons.1 hx with rfl | hx
            · exact h1
            · exact e2 x hx
          · rw [h4, e3, encL_cons]
    · obtain rfl : i = s.size := by omega
      refine ⟨out, true, Ev.step (f := fun _ => some _) (fun k => ?_) (Ev.now _), fun _ => ⟨[], by simp [ci], by simp, ?_⟩⟩
      · simp only [spec_Characters.l0]
        rw [if_neg (by omega)]
      · rw [List.drop_eq_nil_of_le (by rw [← size_eq]; omega)]
        rfl
/-- A term as the reference writes it. -/
def gl : Tm → S31
  | .star => ⟨true, false, 0⟩
  | .one => ⟨false, true, 0⟩
  | .ch c => ⟨false, false, (c : Int)⟩
def glf (k : Nat) (s : ByteArray) (out : List S31) (i : Nat) (b : Int × Int × Bool) : Option (List S31 × Bool) :=
  (if b.2.2 = true then (if b.1 = 42 then (if out.length < 8796093022208 then (spec_Globs.l0 k s (out ++ [(⟨true, false, 0⟩ : S31)]) (wrap64 ((i : Int) + b.2.1))) else (none)) else (if b.1 = 63 then (if out.length < 8796093022208 then (spec_Globs.l0 k s (out ++ [(⟨false, true, 0⟩ : S31)]) (wrap64 ((i : Int) + b.2.1))) else (none)) else (if b.1 = 92 then (if (wrap64 ((i : Int) + b.2.1)) = (s.size : Int) then (some (([] : List (S31)), false)) else ((spec_Character.f k s (wrap64 ((i : Int) + b.2.1))).bind fun bt112 => (if bt112.2.2 = true then (if out.length < 8796093022208 then (spec_Globs.l0 k s (out ++ [(⟨false, false, bt112.1⟩ : S31)]) (wrap64 ((wrap64 ((i : Int) + b.2.1)) + bt112.2.1))) else (none)) else (some (([] : List (S31)), false))))) else (if out.length < 8796093022208 then (spec_Globs.l0 k s (out ++ [(⟨false, false, b.1⟩ : S31)]) (wrap64 ((i : Int) + b.2.1))) else (none))))) else (some (([] : List (S31)), false)))
theorem gl_step (s : ByteArray) (out : List S31) (i k : Nat) (hi : i < s.size) : spec_Globs.l0 (k + 1) s out (i : Int) = (spec_Character.f k s (i : Int)).bind (glf k s out i) := by
  have q1 : (i : Int) < (s.size : Int) := by omega
  simp only [spec_Globs.l0]
  rw [if_pos q1]
  rfl
theorem globs_ev (s : ByteArray) (hs : s.size ≤ 2147483647) : ∀ (d i : Nat) (out : List S31), s.size - i ≤ d → i ≤ s.size → out.length ≤ i →
    ∃ (R : List S31) (ok : Bool), Ev (fun k => spec_Globs.l0 k s out (i : Int)) (R, ok) ∧ (ok = true → ∃ T : List Tm, R = out ++ T.map gl ∧ (∀ t ∈ T, okt t)) ∧ R.length ≤ s.size := by
  intro d
  induction d with
  | zero =>
    intro i out hd hi ho
    refine ⟨out, true, Ev.step (f := fun _ => some _) (fun k => ?_) (Ev.now _), fun _ => ⟨[], by simp, by simp⟩, by omega⟩
    simp only [spec_Globs.l0]
    rw [if_neg (by omega)]
  | succ d ih =>
    intro i out hd hi ho
    by_cases hlt : i < s.size
    · have hch := chr_ev s hs i hlt
      obtain ⟨⟨c, m, ok⟩, hr⟩ : ∃ r, chr (s.size - i) (by_ s i) (by_ s (i + 1)) (by_ s (i + 2)) (by_ s (i + 3)) = r := ⟨_, rfl⟩
      rw [hr] at hch
      have q2 : out.length < 8796093022208 := by omega
      cases ok with
      | false =>
        refine ⟨[], false, Ev.step (fun k => gl_step s out i k hlt) (Ev.bind hch (f := fun k => glf k s out i) (Ev.congr (f := fun _ => some ([], false)) (fun k => ?_) (Ev.now _))), (fun h => by cases h), Nat.zero_le _⟩
        simp only [glf, castR, Bool.false_eq_true, if_false]
      | true =>
        obtain ⟨h1, h2, h3, _⟩ := chr_read s i hlt hr
        have w1 : wrap64 ((i : Int) + (m : Int)) = ((i + m : Nat) : Int) := (w_id (by omega) (by omega)).trans (by omega)
        have one : ∀ (t : Tm), okt t → (∀ k, glf k s out i (castR (c, m, true)) = spec_Globs.l0 k s (out ++ [gl t]) ((i + m : Nat) : Int)) → ∃ (R : List S31) (ok : Bool), Ev (fun k => spec_Globs.l0 k s out (i : Int)) (R, ok) ∧ (ok = true → ∃ T : List Tm, R = out ++ T.map gl ∧ (∀ t ∈ T, okt t)) ∧ R.length ≤ s.size := by
          intro t ht hk
          obtain ⟨R, ok, hR, hok, hl⟩ := ih (i + m) (out ++ [gl t]) (by omega) h3 (by simp; omega)
          refine ⟨R, ok, Ev.step (fun k => gl_step s out i k hlt) (Ev.bind hch (f := fun k => glf k s out i) (Ev.congr hk hR)), fun h => ?_, hl⟩
          obtain ⟨T, e1, e2⟩ := hok h
          exact ⟨t :: T, by rw [e1]; simp, fun x hx => by rcases List.mem_cons.1 hx with rfl | hx; exact ht; exact e2 x hx⟩
        by_cases c42 : c = 42
        · subst c42
          refine one .star trivial (fun k => ?_)
          simp only [glf, castR, if_true, q2, w1, gl]
          rfl
        have n42 : ((c : Int) = 42) = False := eq_false (by omega)
        by_cases c63 : c = 63
        · subst c63
          refine one .one trivial (fun k => ?_)
          simp only [glf, castR, if_true, q2, w1, gl]
          rfl
        have n63 : ((c : Int) = 63) = False := eq_false (by omega)
        by_cases c92 : c = 92
        · have m92 : ((c : Int) = 92) = True := eq_true (by omega)
          by_cases hend : i + m = s.size
          · have hE : (((i + m : Nat) : Int) = (s.size : Int)) = True := eq_true (by omega)
            refine ⟨[], false, Ev.step (fun k => gl_step s out i k hlt) (Ev.bind hch (f := fun k => glf k s out i) (Ev.congr (f := fun _ => some ([], false)) (fun k => ?_) (Ev.now _))), (fun h => by cases h), Nat.zero_le _⟩
            simp only [glf, castR, if_true, n42, n63, m92, if_false, w1, hE]
          · have hE : (((i + m : Nat) : Int) = (s.size : Int)) = False := eq_false (by omega)
            have hlt2 : i + m < s.size := by omega
            have hch2 := chr_ev s hs (i + m) hlt2
            obtain ⟨⟨c2, m2, ok2⟩, hr2⟩ : ∃ r, chr (s.size - (i + m)) (by_ s (i + m)) (by_ s (i + m + 1)) (by_ s (i + m + 2)) (by_ s (i + m + 3)) = r := ⟨_, rfl⟩
            rw [hr2] at hch2
            have hgo : ∀ k, glf k s out i (castR (c, m, true)) = (spec_Character.f k s ((i + m : Nat) : Int)).bind fun bt112 => (if bt112.2.2 = true then (if out.length < 8796093022208 then (spec_Globs.l0 k s (out ++ [(⟨false, false, bt112.1⟩ : S31)]) (wrap64 (((i + m : Nat) : Int) + bt112.2.1))) else (none)) else (some (([] : List (S31)), false))) := fun k => by
              simp only [glf, castR, if_true, n42, n63, m92, if_false, w1, hE]
            cases ok2 with
            | false =>
              refine ⟨[], false, Ev.step (fun k => gl_step s out i k hlt) (Ev.bind hch (f := fun k => glf k s out i) (Ev.congr hgo (Ev.bind hch2 (f := fun k bt112 => (if bt112.2.2 = true then (if out.length < 8796093022208 then (spec_Globs.l0 k s (out ++ [(⟨false, false, bt112.1⟩ : S31)]) (wrap64 (((i + m : Nat) : Int) + bt112.2.1))) else (none)) else (some (([] : List (S31)), false)))) (Ev.congr (f := fun _ => some ([], false)) (fun k => ?_) (Ev.now _))))), (fun h => by cases h), Nat.zero_le _⟩
              simp only [castR, Bool.false_eq_true, if_false]
            | true =>
              obtain ⟨g1, g2, g3, _⟩ := chr_read s (i + m) hlt2 hr2
              have w2 : wrap64 (((i + m : Nat) : Int) + (m2 : Int)) = ((i + m + m2 : Nat) : Int) := (w_id (by omega) (by omega)).trans (by omega)
              obtain ⟨R, ok, hR, hok, hl⟩ := ih (i + m + m2) (out ++ [gl (.ch c2)]) (by omega) g3 (by simp; omega)
              refine ⟨R, ok, Ev.step (fun k => gl_step s out i k hlt) (Ev.bind hch (f := fun k => glf k s out i) (Ev.congr hgo (Ev.bind hch2 (f := fun k bt112 => (if bt112.2.2 = true then (if out.length < 8796093022208 then (spec_Globs.l0 k s (out ++ [(⟨false, false, bt112.1⟩ : S31)]) (wrap64 (((i + m : Nat) : Int) + bt112.2.1))) else (none)) else (some (([] : List (S31)), false)))) (Ev.congr (fun k => ?_) hR)))), fun h => ?_, hl⟩
              · simp only [castR, if_true, q2, w2, gl]
              · obtain ⟨T, e1, e2⟩ := hok h
                exact ⟨.ch c2 :: T, by rw [e1]; simp, fun x hx => by rcases List.mem_cons.1 hx with rfl | hx; exact g1; exact e2 x hx⟩
        · have n92 : ((c : Int) = 92) = False := eq_false (by omega)
          refine one (.ch c) h1 (fun k => ?_)
          simp only [glf, castR, if_true, n42, n63, n92, if_false, q2, w1, gl]
    · obtain rfl : i = s.size := by omega
      refine ⟨out, true, Ev.step (f := fun _ => some _) (fun k => ?_) (Ev.now _), fun _ => ⟨[], by simp, by simp⟩, ho⟩
      simp only [spec_Globs.l0]
      rw [if_neg (by omega)]
end Go.Proofs.YtphpjboljlkdkaaDoor.Mt
