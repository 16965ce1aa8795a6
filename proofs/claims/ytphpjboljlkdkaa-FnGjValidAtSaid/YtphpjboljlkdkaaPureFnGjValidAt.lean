/- At every place of a text of at most 2^16 bytes the check of a value finds, behind blanks, one just where the grammar of RFC 8259 has one beginning there, and ends where that ends. -/
import Derived.Test.YtphpjboljlkdkaaPureFnGjValidAtB
namespace Go.Proofs.Ytphpjboljlkdkaa.Pure
open Go.RowKit Go.Proofs.Ytphpjboljlkdkaa.PFnGjValidAt Go.Proofs.YtphpjboljlkdkaaW.PrintWords Go.Proofs.YtphpjboljlkdkaaW.PrintLast
/-! ### The law -/
theorem val_end {L : List Int} {n i e : Nat} {p : S25} (h : val L n i = some (p, e)) : p.f2 = (e : Int) := by
  cases n with
  | zero => rw [val] at h; cases h
  | succ n =>
    rw [val] at h
    repeat' split at h
    all_goals first
      | (obtain ⟨q, _, hq⟩ := Option.map_eq_some_iff.mp h; simp only [Prod.mk.injEq] at hq; obtain ⟨rfl, rfl⟩ := hq; rfl)
      | (simp only [Option.some.injEq, Prod.mk.injEq] at h; obtain ⟨rfl, rfl⟩ := h; rfl)
      | cases h
theorem FnGjValidAt : laws_FnGjValidAt.Pure := by
  intro a0 a1 _ _
  refine Ev.rounds (r := true) ?_
  have hj : Ev (fun k => laws_FnGjValidAt.j0 k a0 a1 true) true := Ev.step (fun k => by simp only [laws_FnGjValidAt.j0, if_true]) (Ev.now _)
  unfold laws_FnGjValidAt.f
  by_cases c1 : (a0.size : Int) > 2147483647
  · exact Ev.congr (fun k => if_pos c1) (Ev.now _)
  refine Ev.congr (fun k => if_neg c1) ?_
  by_cases c2 : (a0.size : Int) > 65536
  · exact Ev.congr (fun k => if_pos c2) hj
  refine Ev.congr (fun k => if_neg c2) ?_
  by_cases c3 : a1 < 0
  · exact Ev.congr (fun k => if_pos c3) hj
  refine Ev.congr (fun k => if_neg c3) ?_
  by_cases c4 : a1 > (a0.size : Int)
  · rw [decide_eq_true c4]
    exact hj
  rw [decide_eq_false c4]
  obtain ⟨i, rfl⟩ := Int.eq_ofNat_of_zero_le (show 0 ≤ a1 by omega)
  have hL := Kit.nums_len a0
  have hb := bl_le (Kit.nums a0) i (by omega)
  have e1 := blanks_ev (s := a0) (by omega) i (by omega)
  obtain ⟨rv, hrv, hcv, hlv⟩ := value_ok (s := a0) (by omega) (bl (Kit.nums a0) i) (by omega)
  obtain ⟨r, hr, hg, hl⟩ := gvalue_ok (L := Kit.nums a0) (by omega) (bl (Kit.nums a0) i) hb.2 (bl_not _ _ i (Nat.le_refl _))
  have hg := hg i hb.1 rfl
  have hrr : rv.map (·.2) = r := by
    rw [← hrv (3 * a0.size + 1) (by omega)]
    exact hr _ (by omega)
  have hd : ∀ x, Ev (fun k => gjson_validany.f k (Kit.nums a0) (i : Int)) x → Ev (fun k => impl_GjValidAt.f k a0 (i : Int)) x := by
    intro x hx
    unfold impl_GjValidAt.f
    refine Ev.bind (Ev.congr (fun k => ?_) hx) (Ev.now x)
    unfold gjson_DoorValid.f
    rw [if_pos (by omega)]
  have hgo : ∀ (x : Int × Int × Int × List S51 × List S25 × Bool) (y : Int × Bool), Ev (fun k => spec_ValueAt.f k a0 (i : Int)) x → Ev (fun k => impl_GjValidAt.f k a0 (i : Int)) y → (if (y.2 == x.2.2.2.2.2) = true then (if x.2.2.2.2.2 = true then some (y.1 == x.2.2.1) else some true) else some false) = some true → Ev (fun k => laws_FnGjValidAt.j0 k a0 (i : Int) false) true := by
    intro x y hx hy h
    refine Ev.step (fun k => by simp only [laws_FnGjValidAt.j0, Bool.false_eq_true, if_false]; rfl) (Ev.bind hx (Ev.bind hy (Ev.congr (fun k => h) (Ev.now _))))
  have hsp : ∀ q0 q1 q2 q3 q4 ok t a, Ev (fun k => spec_reader_value.f k a0 ((bl (Kit.nums a0) i : Nat) : Int)) (q0, q1, q2, q3, q4, ok, t, a) → Ev (fun k => spec_ValueAt.f k a0 (i : Int)) (q0, q1, q2, q3, q4, ok) := by
    intro q0 q1 q2 q3 q4 ok t a h
    unfold spec_ValueAt.f
    exact Ev.bind e1 (Ev.bind h (Ev.now _))
  cases rv with
  | none =>
    obtain ⟨q0, q1, q2, q3, q4, t, a, hc⟩ := hcv
    obtain rfl : none = r := hrr
    obtain ⟨x, hx⟩ := hg
    exact hgo _ _ (hsp _ _ _ _ _ _ _ _ hc) (hd _ hx) (by simp)
  | some pe =>
    obtain ⟨p, e⟩ := pe
    obtain rfl : some e = r := hrr
    have he := val_end (hrv (3 * a0.size + 1) (by omega))
    exact hgo _ _ (hsp _ _ _ _ _ _ _ _ hcv) (hd _ hg) (by simp [he])

end Go.Proofs.Ytphpjboljlkdkaa.Pure
