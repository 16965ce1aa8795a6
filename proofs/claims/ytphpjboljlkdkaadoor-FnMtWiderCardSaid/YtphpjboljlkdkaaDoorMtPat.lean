/- spec.Pattern writes terms. -/
import Derived.Test.YtphpjboljlkdkaaDoorMtTold
namespace Go.Proofs.YtphpjboljlkdkaaDoor.Mt
open Go.RowKit Go.Proofs.YtphpjboljlkdkaaDoorW.PrintWords Go.Lib Go.Proofs.YtphpjboljlkdkaaDoor.PMt

theorem bi_len (l : List UInt8) : (bi l).length = l.length := by simp [bi]
theorem pr_len5 (t : Tm) : (pr t).length ≤ 5 := by
  cases t with
  | star => simp [pr]
  | one => simp [pr]
  | ch c =>
    unfold pr
    simp only
    split
    · simp
    · unfold enc
      repeat' split
      all_goals simp
section
variable {T : List Tm}
theorem pat_ev (hT : T.length ≤ 2147483647) (ho : ∀ t ∈ T, okt t) : ∀ (d t : Nat) (out : List Int), T.length - t ≤ d → t ≤ T.length → out.length ≤ 5 * t →
    Ev (fun k => spec_Pattern.l0 k out (T.map gl) (T.length : Int) (t : Int)) (strOfNums (out ++ bi (prL (T.drop t)))) := by
  intro d
  induction d with
  | zero =>
    intro t out hd ht hl
    obtain rfl : t = T.length := by omega
    have k1 : ((T.length : Int) < (T.length : Int)) = False := eq_false (by omega)
    refine Ev.step (f := fun _ => some _) (fun k => ?_) (Ev.now _)
    simp only [spec_Pattern.l0, k1, if_false]
    rw [List.drop_length]
    simp [prL, bi]
  | succ d ih =>
    intro t out hd ht hl
    by_cases hlt : t < T.length
    · have k1 : ((t : Int) < (T.length : Int)) = True := eq_true (by omega)
      have k2 : ((0 : Int) ≤ (t : Int)) = True := eq_true (by omega)
      have k3 : ((t : Int) < ((T.map gl).length : Int)) = True := eq_true (by rw [List.length_map]; omega)
      have k4 : (out.length < 140737488355328) = True := eq_true (by omega)
      have k5 : (out.length + 2 < 140737488355328) = True := eq_true (by omega)
      have hx0 := rdT T t hlt
      have hdrop : T.drop t = T[t] :: T.drop (t + 1) := List.drop_eq_getElem_cons hlt
      have hok := ho T[t] (List.getElem_mem hlt)
      obtain ⟨x, hx⟩ : ∃ x, T[t] = x := ⟨_, rfl⟩
      rw [hx] at hx0 hdrop hok
      have W : Hid (wrap64 ((t : Int) + 1) = ((t + 1 : Nat) : Int)) := Lib.hid ((w_id (by omega) (by omega)).trans (by omega))
      have hp5 := pr_len5 x
      have nx : Ev (fun k => spec_Pattern.l0 k (out ++ bi (pr x)) (T.map gl) (T.length : Int) ((t + 1 : Nat) : Int)) (strOfNums (out ++ bi (prL (T.drop t)))) := by
        have := ih (t + 1) (out ++ bi (pr x)) (by omega) (by omega) (by rw [List.length_append, bi_len]; omega)
        rw [hdrop, prL_cons, bi_app, ← List.append_assoc]
        exact this
      cases x with
      | star =>
        refine Ev.step (fun k => ?_) nx
        simp only [spec_Pattern.l0, k1, k2, k3, hx0, gl, k4, W.out, if_true]
        rfl
      | one =>
        refine Ev.step (fun k => ?_) nx
        simp only [spec_Pattern.l0, k1, k2, k3, hx0, gl, k4, W.out, if_true, Bool.false_eq_true, if_false]
        rfl
      | ch c =>
        by_cases hsp : spc c
        · have hpr : bi (pr (.ch c)) = [92, (c : Int) % 256] := by
            have : pr (.ch c) = [92, UInt8.ofNat c] := if_pos hsp
            rw [this]
            unfold spc at hsp
            rcases hsp with rfl | rfl | rfl <;> rfl
          rw [hpr] at nx
          refine Ev.step (fun k => ?_) nx
          unfold spc at hsp
          rcases hsp with rfl | rfl | rfl
          · have m1 : (((42 : Nat) : Int) = 42) = True := eq_true (by omega)
            simp only [spec_Pattern.l0, k1, k2, k3, hx0, gl, W.out, m1, if_true, Bool.false_eq_true, if_false, Option.bind_some, List.length_cons, List.length_nil, Nat.zero_add, Nat.reduceAdd, k5]
          · have m1 : (((63 : Nat) : Int) = 42) = False := eq_false (by omega)
            have m2 : (((63 : Nat) : Int) = 63) = True := eq_true (by omega)
            simp only [spec_Pattern.l0, k1, k2, k3, hx0, gl, W.out, m1, m2, if_true, Bool.false_eq_true, if_false, Option.bind_some, List.length_cons, List.length_nil, Nat.zero_add, Nat.reduceAdd, k5]
          · have m1 : (((92 : Nat) : Int) = 42) = False := eq_false (by omega)
            have m2 : (((92 : Nat) : Int) = 63) = False := eq_false (by omega)
            have m3 : (((92 : Nat) : Int) = 92) = True := eq_true (by omega)
            simp only [spec_Pattern.l0, k1, k2, k3, hx0, gl, W.out, m1, m2, m3, if_true, Bool.false_eq_true, if_false, Option.bind_some, List.length_cons, List.length_nil, Nat.zero_add, Nat.reduceAdd, k5]
        · have hpr : pr (.ch c) = enc c := if_neg hsp
          rw [hpr] at nx
          have m1 : ((c : Int) = 42) = False := eq_false (fun e => hsp (.inl (by omega)))
          have m2 : ((c : Int) = 63) = False := eq_false (fun e => hsp (.inr (.inl (by omega))))
          have m3 : ((c : Int) = 92) = False := eq_false (fun e => hsp (.inr (.inr (by omega))))
          refine Ev.step (fun k => ?_) (Ev.bind (app_ev out (by omega) c hok) (f := fun k t212 => spec_Pattern.l0 k t212 (T.map gl) (T.length : Int) ((t + 1 : Nat) : Int)) nx)
          simp only [spec_Pattern.l0, k1, k2, k3, hx0, gl, W.out, m1, m2, m3, if_true, Bool.false_eq_true, if_false]
    · exact ih t out (by omega) ht hl
/-- spec.Pattern's text. -/
def patS (T : List Tm) : ByteArray := strOfNums (bi (prL T))
theorem patS_bs (T : List Tm) : Bs (patS T) (prL T) := bs_str _
theorem patF_ev (hT : T.length ≤ 2147483647) (ho : ∀ t ∈ T, okt t) : ∃ k, spec_Pattern.f k (T.map gl) = some (patS T) := by
  have h := pat_ev hT ho _ 0 [] (Nat.le_refl _) (Nat.zero_le _) (Nat.le_refl _)
  rw [List.drop_zero, List.nil_append] at h
  obtain ⟨k, hk⟩ := h.rounds
  refine ⟨k, ?_⟩
  simp only [spec_Pattern.f, List.length_map]
  exact hk
end
end Go.Proofs.YtphpjboljlkdkaaDoor.Mt
