/- spec.Fits: where it says yes the text fits. -/
import Derived.Test.YtphpjboljlkdkaaDoorMtChars
import Derived.Lib.Hide
namespace Go.Proofs.YtphpjboljlkdkaaDoor.Mt
open Go.RowKit Go.Proofs.YtphpjboljlkdkaaDoorW.PrintWords Go.Lib Go.Proofs.YtphpjboljlkdkaaDoor.PMt

theorem getD_set (l : List Bool) (j : Nat) (v : Bool) (k : Nat) : (l.set j v).getD k false = if k = j ∧ j < l.length then v else l.getD k false := by
  rw [List.getD_eq_getElem?_getD, List.getD_eq_getElem?_getD, List.getElem?_set]
  by_cases h : j = k
  · subst h
    by_cases h2 : j < l.length
    · simp [h2]
    · simp [h2]
  · simp [h, Ne.symm h]
theorem rdT (T : List Tm) (i : Nat) (h : i < T.length) : rd_T31 (T.map gl) (i : Int) = gl T[i] := by
  unfold rd_T31
  rw [Int.toNat_natCast, List.getD_eq_getElem?_getD, List.getElem?_map, List.getElem?_eq_getElem h]
  rfl
theorem rdC (C : List Nat) (i : Nat) (h : i < C.length) : rd (ci C) (i : Int) = (C.getD i 0 : Int) := by
  unfold rd ci
  rw [Int.toNat_natCast, List.getD_eq_getElem?_getD, List.getElem?_map, List.getElem?_eq_getElem h, List.getD_eq_getElem?_getD, List.getElem?_eq_getElem h]
  rfl
theorem ci_len (C : List Nat) : (ci C).length = C.length := by simp [ci]
section
variable {C : List Nat} {T : List Tm} {Q : Prop} {t : Nat}
theorem star_ev (hC : C.length ≤ 2147483647) (ht : t < T.length) (hT : T.length ≤ 2147483647) (b1 : Bool) (n2 : Int) (R : List Bool) (hR : R.length = C.length + 1)
    (hnext : ∀ N : List Bool, N.length = C.length + 1 → (∀ k, N.getD k false = true → R.getD k false = true ∨ (0 < k ∧ N.getD (k - 1) false = true)) → ∃ r, Ev (fun k => spec_Fits.l0 k (ci C) N (T.map gl) (T.length : Int) ((t + 1 : Nat) : Int)) r ∧ (r = true → Q)) :
    ∀ (d j : Nat) (N : List Bool), C.length + 1 - j ≤ d → j ≤ C.length + 1 → N.length = C.length + 1 → (∀ k, N.getD k false = true → k < j ∧ (R.getD k false = true ∨ (0 < k ∧ N.getD (k - 1) false = true))) →
      ∃ r, Ev (fun k => spec_Fits.l1 k (ci C) R N (j : Int) (T.map gl) (T.length : Int) (t : Int) true b1 n2) r ∧ (r = true → Q) := by
  have hcl := ci_len C
  have wt : Hid (wrap64 ((t : Int) + 1) = ((t + 1 : Nat) : Int)) := Lib.hid ((w_id (by omega) (by omega)).trans (by omega))
  intro d
  induction d with
  | zero =>
    intro j N hd hj hN hP
    obtain ⟨r, h1, h2⟩ := hnext N hN (fun k hk => (hP k hk).2)
    refine ⟨r, Ev.step (fun k => ?_) h1, h2⟩
    have q : ¬ (j : Int) ≤ ((ci C).length : Int) := by omega
    simp only [spec_Fits.l1]
    rw [if_neg q, wt.out]
  | succ d ih =>
    intro j N hd hj hN hP
    by_cases hlt : j ≤ C.length
    · have wj : Hid (wrap64 ((j : Int) + 1) = ((j + 1 : Nat) : Int)) := Lib.hid ((w_id (by omega) (by omega)).trans (by omega))
      have k1 : ((j : Int) ≤ ((ci C).length : Int)) = True := eq_true (by omega)
      have k2 : ((0 : Int) ≤ (j : Int)) = True := eq_true (by omega)
      have k3 : ((j : Int) < (R.length : Int)) = True := eq_true (by omega)
      have k4 : ((j : Int) < (N.length : Int)) = True := eq_true (by omega)
      have go : ∀ v : Bool, (v = true → R.getD j false = true ∨ (0 < j ∧ N.getD (j - 1) false = true)) → (∀ k, spec_Fits.l1 (k + 1) (ci C) R N (j : Int) (T.map gl) (T.length : Int) (t : Int) true b1 n2 = spec_Fits.l1 k (ci C) R (N.set j v) ((j + 1 : Nat) : Int) (T.map gl) (T.length : Int) (t : Int) true b1 n2) →
          ∃ r, Ev (fun k => spec_Fits.l1 k (ci C) R N (j : Int) (T.map gl) (T.length : Int) (t : Int) true b1 n2) r ∧ (r = true → Q) := by
        intro v hv hk
        obtain ⟨r, h1, h2⟩ := ih (j + 1) (N.set j v) (by omega) (by omega) (by rw [List.length_set]; exact hN) (fun k hk => by
          rw [getD_set] at hk
          by_cases hkj : k = j
          · subst hkj
            rw [if_pos ⟨rfl, by omega⟩] at hk
            refine ⟨by omega, ?_⟩
            rcases hv hk with h | ⟨h, h'⟩
            · exact .inl h
            · refine .inr ⟨h, ?_⟩
              rw [getD_set, if_neg (by omega)]
              exact h'
          · rw [if_neg (by omega)] at hk
            obtain ⟨h, h'⟩ := hP k hk
            refine ⟨by omega, ?_⟩
            rcases h' with h' | ⟨h', h''⟩
            · exact .inl h'
            · refine .inr ⟨h', ?_⟩
              rw [getD_set, if_neg (by omega)]
              exact h'')
        exact ⟨r, Ev.step hk h1, h2⟩
      by_cases hr : R.getD j false = true
      · refine go true (fun _ => .inl hr) (fun k => ?_)
        have kr : (rdOf false R (j : Int) = true) = True := eq_true (by unfold rdOf; rw [Int.toNat_natCast]; exact hr)
        simp only [spec_Fits.l1, k1, k2, k3, k4, kr, if_true, wj.out, Int.toNat_natCast]
      · have kr : (rdOf false R (j : Int) = true) = False := eq_false (by unfold rdOf; rw [Int.toNat_natCast]; exact hr)
        by_cases hj0 : 0 < j
        · have k5 : ((j : Int) > 0) = True := eq_true (by omega)
          have wj1 : Hid (wrap64 ((j : Int) - 1) = ((j - 1 : Nat) : Int)) := Lib.hid ((w_id (by omega) (by omega)).trans (by omega))
          have k6 : ((0 : Int) ≤ ((j - 1 : Nat) : Int)) = True := eq_true (by omega)
          have k7 : (((j - 1 : Nat) : Int) < (N.length : Int)) = True := eq_true (by omega)
          refine go (N.getD (j - 1) false) (fun h => .inr ⟨hj0, h⟩) (fun k => ?_)
          have kn : rdOf false N ((j - 1 : Nat) : Int) = N.getD (j - 1) false := by unfold rdOf; rw [Int.toNat_natCast]
          simp only [spec_Fits.l1, k1, k2, k3, k4, kr, k5, wj1.out, k6, k7, kn, if_true, if_false, wj.out, Int.toNat_natCast]
        · have k5 : ((j : Int) > 0) = False := eq_false (by omega)
          refine go false (fun h => by cases h) (fun k => ?_)
          simp only [spec_Fits.l1, k1, k2, k3, k4, kr, k5, if_true, if_false, wj.out, Int.toNat_natCast]
    · obtain ⟨r, h1, h2⟩ := hnext N hN (fun k hk => (hP k hk).2)
      refine ⟨r, Ev.step (fun k => ?_) h1, h2⟩
      have q : ¬ (j : Int) ≤ ((ci C).length : Int) := by omega
      simp only [spec_Fits.l1]
      rw [if_neg q, wt.out]
/-- A term that is no star fits a character, as the reference compares. -/
def f1b (b1 : Bool) (n2 : Int) (c : Nat) : Bool := b1 || (n2 == (c : Int))
theorem step_ev (hC : C.length ≤ 2147483647) (ht : t < T.length) (hT : T.length ≤ 2147483647) (b1 : Bool) (n2 : Int) (R : List Bool) (hR : R.length = C.length + 1)
    (hnext : ∀ N : List Bool, N.length = C.length + 1 → (∀ k, N.getD k false = true → 0 < k ∧ R.getD (k - 1) false = true ∧ k - 1 < C.length ∧ f1b b1 n2 (C.getD (k - 1) 0) = true) → ∃ r, Ev (fun k => spec_Fits.l0 k (ci C) N (T.map gl) (T.length : Int) ((t + 1 : Nat) : Int)) r ∧ (r = true → Q)) :
    ∀ (d j : Nat) (N : List Bool), C.length + 1 - j ≤ d → j ≤ C.length + 1 → N.length = C.length + 1 → (∀ k, N.getD k false = true → k < j ∧ (0 < k ∧ R.getD (k - 1) false = true ∧ k - 1 < C.length ∧ f1b b1 n2 (C.getD (k - 1) 0) = true)) →
      ∃ r, Ev (fun k => spec_Fits.l1 k (ci C) R N (j : Int) (T.map gl) (T.length : Int) (t : Int) false b1 n2) r ∧ (r = true → Q) := by
  have hcl := ci_len C
  have wt : Hid (wrap64 ((t : Int) + 1) = ((t + 1 : Nat) : Int)) := Lib.hid ((w_id (by omega) (by omega)).trans (by omega))
  intro d
  induction d with
  | zero =>
    intro j N hd hj hN hP
    obtain ⟨r, h1, h2⟩ := hnext N hN (fun k hk => (hP k hk).2)
    refine ⟨r, Ev.step (fun k => ?_) h1, h2⟩
    have q : ¬ (j : Int) ≤ ((ci C).length : Int) := by omega
    simp only [spec_Fits.l1]
    rw [if_neg q, wt.out]
  | succ d ih =>
    intro j N hd hj hN hP
    by_cases hlt : j ≤ C.length
    · have wj : Hid (wrap64 ((j : Int) + 1) = ((j + 1 : Nat) : Int)) := Lib.hid ((w_id (by omega) (by omega)).trans (by omega))
      have k1 : ((j : Int) ≤ ((ci C).length : Int)) = True := eq_true (by omega)
      have k2 : ((0 : Int) ≤ (j : Int)) = True := eq_true (by omega)
      have k4 : ((j : Int) < (N.length : Int)) = True := eq_true (by omega)
      have kf : (false = true) = False := by simp
      have skip : (∀ k, spec_Fits.l1 (k + 1) (ci C) R N (j : Int) (T.map gl) (T.length : Int) (t : Int) false b1 n2 = spec_Fits.l1 k (ci C) R N ((j + 1 : Nat) : Int) (T.map gl) (T.length : Int) (t : Int) false b1 n2) →
          ∃ r, Ev (fun k => spec_Fits.l1 k (ci C) R N (j : Int) (T.map gl) (T.length : Int) (t : Int) false b1 n2) r ∧ (r = true → Q) := by
        intro hk
        obtain ⟨r, h1, h2⟩ := ih (j + 1) N (by omega) (by omega) hN (fun k hk => ⟨by have := (hP k hk).1; omega, (hP k hk).2⟩)
        exact ⟨r, Ev.step hk h1, h2⟩
      by_cases hj0 : 0 < j
      · have k5 : ((j : Int) > 0) = True := eq_true (by omega)
        have wj1 : Hid (wrap64 ((j : Int) - 1) = ((j - 1 : Nat) : Int)) := Lib.hid ((w_id (by omega) (by omega)).trans (by omega))
        have k6 : ((0 : Int) ≤ ((j - 1 : Nat) : Int)) = True := eq_true (by omega)
        have k7 : (((j - 1 : Nat) : Int) < (R.length : Int)) = True := eq_true (by omega)
        have k8 : (((j - 1 : Nat) : Int) < ((ci C).length : Int)) = True := eq_true (by omega)
        have kn : rdOf false R ((j - 1 : Nat) : Int) = R.getD (j - 1) false := by unfold rdOf; rw [Int.toNat_natCast]
        by_cases hr : R.getD (j - 1) false = true
        · have go : ∀ v : Bool, v = f1b b1 n2 (C.getD (j - 1) 0) → (∀ k, spec_Fits.l1 (k + 1) (ci C) R N (j : Int) (T.map gl) (T.length : Int) (t : Int) false b1 n2 = spec_Fits.l1 k (ci C) R (N.set j v) ((j + 1 : Nat) : Int) (T.map gl) (T.length : Int) (t : Int) false b1 n2) →
              ∃ r, Ev (fun k => spec_Fits.l1 k (ci C) R N (j : Int) (T.map gl) (T.length : Int) (t : Int) false b1 n2) r ∧ (r = true → Q) := by
            intro v hv hk
            obtain ⟨r, h1, h2⟩ := ih (j + 1) (N.set j v) (by omega) (by omega) (by rw [List.length_set]; exact hN) (fun k hk => by
              rw [getD_set] at hk
              by_cases hkj : k = j
              · subst hkj
                rw [if_pos ⟨rfl, by omega⟩] at hk
                exact ⟨by omega, hj0, hr, by omega, by rw [← hv]; exact hk⟩
              · rw [if_neg (by omega)] at hk
                exact ⟨by have := (hP k hk).1; omega, (hP k hk).2⟩)
            exact ⟨r, Ev.step hk h1, h2⟩
          cases b1 with
          | true =>
            refine go true (by simp [f1b]) (fun k => ?_)
            simp only [spec_Fits.l1, k1, k2, k4, k5, k6, k7, wj1.out, kn, hr, kf, if_true, if_false, wj.out, Int.toNat_natCast]
          | false =>
            refine go (n2 == ((C.getD (j - 1) 0 : Nat) : Int)) (by simp [f1b]) (fun k => ?_)
            have kc := rdC C (j - 1) (by omega)
            simp only [spec_Fits.l1, k1, k2, k4, k5, k6, k7, k8, wj1.out, kn, hr, kf, kc, if_true, if_false, wj.out, Int.toNat_natCast]
        · have hr' : (R.getD (j - 1) false = true) = False := eq_false hr
          refine skip (fun k => ?_)
          simp only [spec_Fits.l1, k1, k5, k6, k7, wj1.out, kn, hr', kf, if_true, if_false, wj.out]
      · have k5 : ((j : Int) > 0) = False := eq_false (by omega)
        refine skip (fun k => ?_)
        simp only [spec_Fits.l1, k1, k5, kf, if_true, if_false, wj.out]
    · obtain ⟨r, h1, h2⟩ := hnext N hN (fun k hk => (hP k hk).2)
      refine ⟨r, Ev.step (fun k => ?_) h1, h2⟩
      have q : ¬ (j : Int) ≤ ((ci C).length : Int) := by omega
      simp only [spec_Fits.l1]
      rw [if_neg q, wt.out]
end
end Go.Proofs.YtphpjboljlkdkaaDoor.Mt
