/- Written by a program of this session (a turned copy of the print) out of the translation. -/
import Derived.Test.YtphpjboljlkdkaaDoorPMtx0
import Derived.Test.YtphpjboljlkdkaaDoorPMtx1
import Derived.Test.YtphpjboljlkdkaaDoorPMtx2
import Derived.Test.YtphpjboljlkdkaaDoorPMtx3
namespace Go.Proofs.YtphpjboljlkdkaaDoor.PMt
open Go.RowKit Go.Proofs.YtphpjboljlkdkaaDoorW.PrintWords Go.Proofs.YtphpjboljlkdkaaDoorW.PrintLast Go.Proofs.YtphpjboljlkdkaaDoorW.PrintMore
attribute [local go_sem] max2_int min2_int max_two min_two max_three min_three max_four min_four   -- for this text's walks alone
set_option linter.unusedVariables false
set_option linter.unusedSimpArgs false

/-! ### spec_Matches: function 33 -/
def spec_Matches.f (k : Nat) (a0 : ByteArray) (a1 : ByteArray) : Option (Bool × Bool) := (spec_Characters.f k a0).bind fun bt146 => ((spec_Globs.f k a1).bind fun bt150 => (if bt146.2 = true then (if bt150.2 = true then ((spec_Fits.f k bt146.1 bt150.1).bind fun t154 => (some (t154, true))) else (some (false, false))) else (some (false, false))))
theorem spec_Matches.mono : ∀ a0 a1 k, LeO (spec_Matches.f k a0 a1) (spec_Matches.f (k + 1) a0 a1) := by
  intro a0 a1 k
  unfold spec_Matches.f
  repeat' first
      | (with_reducible exact spec_Characters.mono _ _)
      | (with_reducible exact spec_Fits.mono _ _ _)
      | (with_reducible exact spec_Globs.mono _ _)
      | (with_reducible exact LeO.refl _)
      | (with_reducible exact LeO.none _)
      | (with_reducible refine LeO.ite ?_ ?_)
      | (with_reducible refine LeO.bind ?_ (fun _ => ?_))
      | exact spec_Characters.mono _ _
      | exact spec_Fits.mono _ _ _
      | exact spec_Globs.mono _ _
      | exact LeO.none _
      | refine LeO.ite ?_ ?_
      | refine LeO.bind ?_ (fun _ => ?_)
set_option maxHeartbeats 8000000 in
set_option maxRecDepth 100000 in
theorem spec_Matches.calls (k : Nat) (a0 : ByteArray) (a1 : ByteArray) (r1 : Bool) (r2 : Bool) (w : World) (h : spec_Matches.f k a0 a1 = some (r1, r2)) :
    Calls Tryd.prog 33 #[.string a0, .string a1] w fun e w' => e = .returned (.tuple #[.bool r1, .bool r2]) ∧ Below w.heap.size w w' := by
  have HB := Aside0.mk (Below.refl w.heap.size w)
  have H : ((spec_Characters.f k a0).bind fun bt146 => ((spec_Globs.f k a1).bind fun bt150 => (if bt146.2 = true then (if bt150.2 = true then ((spec_Fits.f k bt146.1 bt150.1).bind fun t154 => (some (t154, true))) else (some (false, false))) else (some (false, false))))) = some (r1, r2) := h
  clear h
  replace H := Option.bind_eq_some_iff.mp H
  obtain ⟨⟨t146, t147⟩, A30, H⟩ := H
  replace H : ((spec_Globs.f k a1).bind fun bt150 => (if t147 = true then (if bt150.2 = true then ((spec_Fits.f k t146 bt150.1).bind fun t154 => (some (t154, true))) else (some (false, false))) else (some (false, false)))) = some (r1, r2) := H
  have A3 := Aside0.mk A30
  clear A30
  replace H := Option.bind_eq_some_iff.mp H
  obtain ⟨⟨t150, t151⟩, A40, H⟩ := H
  replace H : (if t147 = true then (if t151 = true then ((spec_Fits.f k t146 t150).bind fun t154 => (some (t154, true))) else (some (false, false))) else (some (false, false))) = some (r1, r2) := H
  have A4 := Aside0.mk A40
  clear A40
  by_cases c5 : t147 = true
  · subst c5
    have H1 : (if t151 = true then ((spec_Fits.f k t146 t150).bind fun t154 => (some (t154, true))) else (some (false, false))) = some (r1, r2) := by rw [if_pos rfl] at H; exact H
    clear H
    have H := H1
    clear H1
    by_cases c6 : t151 = true
    · subst c6
      have H1 : ((spec_Fits.f k t146 t150).bind fun t154 => (some (t154, true))) = some (r1, r2) := by rw [if_pos rfl] at H; exact H
      clear H
      have H := H1
      clear H1
      replace H := Option.bind_eq_some_iff.mp H
      obtain ⟨t154, A70, H⟩ := H
      replace H : (some (t154, true)) = some (r1, r2) := H
      have A7 := Aside0.mk A70
      clear A70
      simp only [Option.some.injEq, Prod.mk.injEq] at H
      obtain ⟨rfl, rfl⟩ := H
      go_enter Tryd.func33, Tryd.ntmps33
      go_wp2_with (first | ((with_reducible refine gate_callee (f := 53) rfl ?_); refine goesL_ (some 12) rfl rfl Tryd.func53 (by kernel_rfl) rfl #[.string a0] rfl (by (try simp only [List.map_toArray, List.map_cons, List.map_nil]); first | done | rfl | (simp only [List.length_drop, List.length_take]; rfl)) ?_; (with_reducible refine (spec_Characters.calls k a0 t146 true _ A3.out).mono ?_); rintro e w8 ⟨v148, rfl, ho0, hb⟩; refine ⟨_, rfl, ?_⟩; have n0_ := Aside0.mk (Kd.R_lower ho0 (below_size (by repeat (first | (with_reducible first | exact HB.out | apply below_alloc | apply pw_below_drewN | apply below_drew1) | exact HB.out)))); have n1_ := Aside0.mk (below_step (by repeat (first | (with_reducible first | exact HB.out | apply below_alloc | apply pw_below_drewN | apply below_drew1) | exact HB.out)) hb); clear HB; have HO149 := n0_; have HB := n1_; clear n0_ n1_; (try clear hb); (try clear hb2); (try clear hk); (try clear hi); (try clear ho0)) | ((with_reducible refine gate_callee (f := 13) rfl ?_); refine goesL_ (some 17) rfl rfl Tryd.func13 (by kernel_rfl) rfl #[.string a1] rfl (by (try simp only [List.map_toArray, List.map_cons, List.map_nil]); first | done | rfl | (simp only [List.length_drop, List.length_take]; rfl)) ?_; (with_reducible refine (spec_Globs.calls k a1 t150 true _ A4.out).mono ?_); rintro e w9 ⟨v152, rfl, ho0, hb⟩; refine ⟨_, rfl, ?_⟩; have n0_ := Aside0.mk (Kd.R_below (by (with_reducible repeat (first | apply Kd.R_alloc | apply Kd.R_drewN | apply Kd.R_drew)); exact HO149.out) hb); have n1_ := Aside0.mk (Kd.R_lower ho0 (below_size (by repeat (first | (with_reducible first | exact HB.out | apply below_alloc | apply pw_below_drewN | apply below_drew1) | exact HB.out)))); have n2_ := Aside0.mk (below_step (by repeat (first | (with_reducible first | exact HB.out | apply below_alloc | apply pw_below_drewN | apply below_drew1) | exact HB.out)) hb); clear HO149; clear HB; have HO149 := n0_; have HO153 := n1_; have HB := n2_; clear n0_ n1_ n2_; (try clear hb); (try clear hb2); (try clear hk); (try clear hi); (try clear ho0); obtain ⟨Ao10, co10, eo10⟩ := Kd.R_slice HO149.out; subst eo10; obtain ⟨Ao11, co11, eo11⟩ := Kd.R_slice HO153.out; subst eo11) | ((with_reducible refine gate_callee (f := 54) rfl ?_); refine goesL_ (some 28) rfl rfl Tryd.func54 (by kernel_rfl) rfl #[.slice Ao10 t146.length co10, .slice Ao11 t150.length co11] rfl (by (try simp only [List.map_toArray, List.map_cons, List.map_nil]); first | done | rfl | (simp only [List.length_drop, List.length_take]; rfl)) ?_; (with_reducible refine (spec_Fits.calls k _ _ t146 _ _ t150 t154 _ ?side1 ?side2 ?side3 ?side4 A7.out).mono ?_); (case side1 => repeat (first | exact (Kd.R_reads' HO149.out).2.2 | (with_reducible refine Kd.C_alloc ?_ _) | (with_reducible refine Kd.C_drewN ?_ _) | (with_reducible refine Kd.C_drew ?_))); (case side2 => exact (Kd.R_reads' HO149.out).2.1); (case side3 => repeat (first | exact (Kd.R_reads' HO153.out).2.2 | (with_reducible refine Kd.C_alloc ?_ _) | (with_reducible refine Kd.C_drewN ?_ _) | (with_reducible refine Kd.C_drew ?_))); (case side4 => exact (Kd.R_reads' HO153.out).2.1); rintro e w12 ⟨rfl, hb⟩; refine ⟨_, rfl, ?_⟩; have n0_ := Aside0.mk (Kd.R_below (by (with_reducible repeat (first | apply Kd.R_alloc | apply Kd.R_drewN | apply Kd.R_drew)); exact HO149.out) hb); have n1_ := Aside0.mk (Kd.R_below (by (with_reducible repeat (first | apply Kd.R_alloc | apply Kd.R_drewN | apply Kd.R_drew)); exact HO153.out) hb); have n2_ := Aside0.mk (below_step (by repeat (first | (with_reducible first | exact HB.out | apply below_alloc | apply pw_below_drewN | apply below_drew1) | exact HB.out)) hb); clear HO149; clear HO153; clear HB; have HO149 := n0_; have HO153 := n1_; have HB := n2_; clear n0_ n1_ n2_; (try clear hb); (try clear hb2); (try clear hk); (try clear hi)))
      go_ret2
      exact ⟨by first | rfl | (simp [errW_none, errW_some] <;> rfl) | (simp [*, errW_none, errW_some] <;> rfl), by repeat (first | (with_reducible first | exact HB.out | apply below_alloc | apply pw_below_drewN | apply below_drew1) | exact HB.out)⟩
    · replace c6 := Bool.eq_false_iff.mpr c6
      subst c6
      have H1 : (some (false, false)) = some (r1, r2) := by rw [if_neg (show ¬ (false = true) by decide)] at H; exact H
      clear H
      have H := H1
      clear H1
      simp only [Option.some.injEq, Prod.mk.injEq] at H
      obtain ⟨rfl, rfl⟩ := H
      go_enter Tryd.func33, Tryd.ntmps33
      go_wp2_with (first | ((with_reducible refine gate_callee (f := 53) rfl ?_); refine goesL_ (some 12) rfl rfl Tryd.func53 (by kernel_rfl) rfl #[.string a0] rfl (by (try simp only [List.map_toArray, List.map_cons, List.map_nil]); first | done | rfl | (simp only [List.length_drop, List.length_take]; rfl)) ?_; (with_reducible refine (spec_Characters.calls k a0 t146 true _ A3.out).mono ?_); rintro e w13 ⟨v148, rfl, ho0, hb⟩; refine ⟨_, rfl, ?_⟩; have n0_ := Aside0.mk (Kd.R_lower ho0 (below_size (by repeat (first | (with_reducible first | exact HB.out | apply below_alloc | apply pw_below_drewN | apply below_drew1) | exact HB.out)))); have n1_ := Aside0.mk (below_step (by repeat (first | (with_reducible first | exact HB.out | apply below_alloc | apply pw_below_drewN | apply below_drew1) | exact HB.out)) hb); clear HB; have HO149 := n0_; have HB := n1_; clear n0_ n1_; (try clear hb); (try clear hb2); (try clear hk); (try clear hi); (try clear ho0)) | ((with_reducible refine gate_callee (f := 13) rfl ?_); refine goesL_ (some 17) rfl rfl Tryd.func13 (by kernel_rfl) rfl #[.string a1] rfl (by (try simp only [List.map_toArray, List.map_cons, List.map_nil]); first | done | rfl | (simp only [List.length_drop, List.length_take]; rfl)) ?_; (with_reducible refine (spec_Globs.calls k a1 t150 false _ A4.out).mono ?_); rintro e w14 ⟨v152, rfl, ho0, hb⟩; refine ⟨_, rfl, ?_⟩; have n0_ := Aside0.mk (Kd.R_below (by (with_reducible repeat (first | apply Kd.R_alloc | apply Kd.R_drewN | apply Kd.R_drew)); exact HO149.out) hb); have n1_ := Aside0.mk (Kd.R_lower ho0 (below_size (by repeat (first | (with_reducible first | exact HB.out | apply below_alloc | apply pw_below_drewN | apply below_drew1) | exact HB.out)))); have n2_ := Aside0.mk (below_step (by repeat (first | (with_reducible first | exact HB.out | apply below_alloc | apply pw_below_drewN | apply below_drew1) | exact HB.out)) hb); clear HO149; clear HB; have HO149 := n0_; have HO153 := n1_; have HB := n2_; clear n0_ n1_ n2_; (try clear hb); (try clear hb2); (try clear hk); (try clear hi); (try clear ho0)))
      go_ret2
      exact ⟨by first | rfl | (simp [errW_none, errW_some] <;> rfl) | (simp [*, errW_none, errW_some] <;> rfl), by repeat (first | (with_reducible first | exact HB.out | apply below_alloc | apply pw_below_drewN | apply below_drew1) | exact HB.out)⟩
  · replace c5 := Bool.eq_false_iff.mpr c5
    subst c5
    have H1 : (some (false, false)) = some (r1, r2) := by rw [if_neg (show ¬ (false = true) by decide)] at H; exact H
    clear H
    have H := H1
    clear H1
    simp only [Option.some.injEq, Prod.mk.injEq] at H
    obtain ⟨rfl, rfl⟩ := H
    go_enter Tryd.func33, Tryd.ntmps33
    go_wp2_with (first | ((with_reducible refine gate_callee (f := 53) rfl ?_); refine goesL_ (some 12) rfl rfl Tryd.func53 (by kernel_rfl) rfl #[.string a0] rfl (by (try simp only [List.map_toArray, List.map_cons, List.map_nil]); first | done | rfl | (simp only [List.length_drop, List.length_take]; rfl)) ?_; (with_reducible refine (spec_Characters.calls k a0 t146 false _ A3.out).mono ?_); rintro e w15 ⟨v148, rfl, ho0, hb⟩; refine ⟨_, rfl, ?_⟩; have n0_ := Aside0.mk (Kd.R_lower ho0 (below_size (by repeat (first | (with_reducible first | exact HB.out | apply below_alloc | apply pw_below_drewN | apply below_drew1) | exact HB.out)))); have n1_ := Aside0.mk (below_step (by repeat (first | (with_reducible first | exact HB.out | apply below_alloc | apply pw_below_drewN | apply below_drew1) | exact HB.out)) hb); clear HB; have HO149 := n0_; have HB := n1_; clear n0_ n1_; (try clear hb); (try clear hb2); (try clear hk); (try clear hi); (try clear ho0)) | ((with_reducible refine gate_callee (f := 13) rfl ?_); refine goesL_ (some 17) rfl rfl Tryd.func13 (by kernel_rfl) rfl #[.string a1] rfl (by (try simp only [List.map_toArray, List.map_cons, List.map_nil]); first | done | rfl | (simp only [List.length_drop, List.length_take]; rfl)) ?_; (with_reducible refine (spec_Globs.calls k a1 t150 t151 _ A4.out).mono ?_); rintro e w16 ⟨v152, rfl, ho0, hb⟩; refine ⟨_, rfl, ?_⟩; have n0_ := Aside0.mk (Kd.R_below (by (with_reducible repeat (first | apply Kd.R_alloc | apply Kd.R_drewN | apply Kd.R_drew)); exact HO149.out) hb); have n1_ := Aside0.mk (Kd.R_lower ho0 (below_size (by repeat (first | (with_reducible first | exact HB.out | apply below_alloc | apply pw_below_drewN | apply below_drew1) | exact HB.out)))); have n2_ := Aside0.mk (below_step (by repeat (first | (with_reducible first | exact HB.out | apply below_alloc | apply pw_below_drewN | apply below_drew1) | exact HB.out)) hb); clear HO149; clear HB; have HO149 := n0_; have HO153 := n1_; have HB := n2_; clear n0_ n1_ n2_; (try clear hb); (try clear hb2); (try clear hk); (try clear hi); (try clear ho0)))
    go_ret2
    exact ⟨by first | rfl | (simp [errW_none, errW_some] <;> rfl) | (simp [*, errW_none, errW_some] <;> rfl), by repeat (first | (with_reducible first | exact HB.out | apply below_alloc | apply pw_below_drewN | apply below_drew1) | exact HB.out)⟩

/-! ### laws_mtTold: function 12 -/
def laws_mtTold.f (k : Nat) (a0 : ByteArray) (a1 : ByteArray) : Option (Bool × Bool) := if (a0.size : Int) > 4096 then (some (false, false)) else (if (a1.size : Int) > 4096 then (some (false, false)) else ((spec_Matches.f k a0 a1).bind fun bt155 => (some (bt155.1, bt155.2))))
theorem laws_mtTold.mono : ∀ a0 a1 k, LeO (laws_mtTold.f k a0 a1) (laws_mtTold.f (k + 1) a0 a1) := by
  intro a0 a1 k
  unfold laws_mtTold.f
  repeat' first
      | (with_reducible exact spec_Matches.mono _ _ _)
      | (with_reducible exact LeO.refl _)
      | (with_reducible exact LeO.none _)
      | (with_reducible refine LeO.ite ?_ ?_)
      | (with_reducible refine LeO.bind ?_ (fun _ => ?_))
      | exact spec_Matches.mono _ _ _
      | exact LeO.none _
      | refine LeO.ite ?_ ?_
      | refine LeO.bind ?_ (fun _ => ?_)
set_option maxHeartbeats 8000000 in
set_option maxRecDepth 100000 in
theorem laws_mtTold.calls (k : Nat) (a0 : ByteArray) (a1 : ByteArray) (r1 : Bool) (r2 : Bool) (w : World) (h : laws_mtTold.f k a0 a1 = some (r1, r2)) :
    Calls Tryd.prog 12 #[.string a0, .string a1] w fun e w' => e = .returned (.tuple #[.bool r1, .bool r2]) ∧ Below w.heap.size w w' := by
  have HB := Aside0.mk (Below.refl w.heap.size w)
  have H : (if (a0.size : Int) > 4096 then (some (false, false)) else (if (a1.size : Int) > 4096 then (some (false, false)) else ((spec_Matches.f k a0 a1).bind fun bt155 => (some (bt155.1, bt155.2))))) = some (r1, r2) := h
  clear h
  by_cases c3 : (a0.size : Int) > 4096
  · rw [if_pos c3] at H
    have c3b0 : decide (4096 < (a0.size : Int)) = true := decide_eq_true c3
    have c3b1 : decide (4096 < a0.size) = true := decide_eq_true (by omega)
    clear c3
    simp only [Option.some.injEq, Prod.mk.injEq] at H
    obtain ⟨rfl, rfl⟩ := H
    go_enter Tryd.func12, Tryd.ntmps12
    go_wp2
    go_ret2
    exact ⟨by first | rfl | (simp [errW_none, errW_some] <;> rfl) | (simp [*, errW_none, errW_some] <;> rfl), by repeat (first | (with_reducible first | exact HB.out | apply below_alloc | apply pw_below_drewN | apply below_drew1) | exact HB.out)⟩
  · rw [if_neg c3] at H
    have c3b0 : decide (4096 < (a0.size : Int)) = false := decide_eq_false c3
    have c3b1 : decide (4096 < a0.size) = false := decide_eq_false (by omega)
    clear c3
    by_cases c4 : (a1.size : Int) > 4096
    · rw [if_pos c4] at H
      have c4b0 : decide (4096 < (a1.size : Int)) = true := decide_eq_true c4
      have c4b1 : decide (4096 < a1.size) = true := decide_eq_true (by omega)
      clear c4
      simp only [Option.some.injEq, Prod.mk.injEq] at H
      obtain ⟨rfl, rfl⟩ := H
      go_enter Tryd.func12, Tryd.ntmps12
      go_wp2
      go_ret2
      exact ⟨by first | rfl | (simp [errW_none, errW_some] <;> rfl) | (simp [*, errW_none, errW_some] <;> rfl), by repeat (first | (with_reducible first | exact HB.out | apply below_alloc | apply pw_below_drewN | apply below_drew1) | exact HB.out)⟩
    · rw [if_neg c4] at H
      have c4b0 : decide (4096 < (a1.size : Int)) = false := decide_eq_false c4
      have c4b1 : decide (4096 < a1.size) = false := decide_eq_false (by omega)
      clear c4
      replace H := Option.bind_eq_some_iff.mp H
      obtain ⟨⟨t155, t156⟩, A50, H⟩ := H
      replace H : (some (t155, t156)) = some (r1, r2) := H
      have A5 := Aside0.mk A50
      clear A50
      simp only [Option.some.injEq, Prod.mk.injEq] at H
      obtain ⟨rfl, rfl⟩ := H
      go_enter Tryd.func12, Tryd.ntmps12
      go_wp2_with (first | ((with_reducible refine gate_callee (f := 33) rfl ?_); refine goesL_ (some 16) rfl rfl Tryd.func33 (by kernel_rfl) rfl #[.string a0, .string a1] rfl (by (try simp only [List.map_toArray, List.map_cons, List.map_nil]); first | done | rfl | (simp only [List.length_drop, List.length_take]; rfl)) ?_; (with_reducible refine (spec_Matches.calls k a0 a1 t155 t156 _ A5.out).mono ?_); rintro e w6 ⟨rfl, hb⟩; refine ⟨_, rfl, ?_⟩; have n0_ := Aside0.mk (below_step (by repeat (first | (with_reducible first | exact HB.out | apply below_alloc | apply pw_below_drewN | apply below_drew1) | exact HB.out)) hb); clear HB; have HB := n0_; clear n0_; (try clear hb); (try clear hb2); (try clear hk); (try clear hi)))
      go_ret2
      exact ⟨by first | rfl | (simp [errW_none, errW_some] <;> rfl) | (simp [*, errW_none, errW_some] <;> rfl), by repeat (first | (with_reducible first | exact HB.out | apply below_alloc | apply pw_below_drewN | apply below_drew1) | exact HB.out)⟩

/-! ### spec_appendUTF8: function 35 -/
def spec_appendUTF8.j0 : Nat → List Int → Int → Bool → Option (List Int)
  | 0, _, _, _ => none
  | k + 1, x0, x1, x27 => if x27 = true then ((some (([239, 191, 189] : List Int) : List Int)).bind fun y168 => (if x0.length + y168.length < 140737488355328 then (some (x0 ++ y168)) else (none))) else (if x1 < 65536 then ((some (([(wrap64 (224 + (wrap64 (Int.tdiv x1 4096)))) % 256, (wrap64 (128 + (Int.tmod (wrap64 (Int.tdiv x1 64)) 64))) % 256, (wrap64 (128 + (Int.tmod x1 64))) % 256] : List Int) : List Int)).bind fun y174 => (if x0.length + y174.length < 140737488355328 then (some (x0 ++ y174)) else (none))) else ((some (([(wrap64 (240 + (wrap64 (Int.tdiv x1 262144)))) % 256, (wrap64 (128 + (Int.tmod (wrap64 (Int.tdiv x1 4096)) 64))) % 256, (wrap64 (128 + (Int.tmod (wrap64 (Int.tdiv x1 64)) 64))) % 256, (wrap64 (128 + (Int.tmod x1 64))) % 256] : List Int) : List Int)).bind fun y180 => (if x0.length + y180.length < 140737488355328 then (some (x0 ++ y180)) else (none))))
def spec_appendUTF8.f (k : Nat) (l0 : List Int) (a1 : Int) : Option (List Int) := if a1 < 128 then (if l0.length < 140737488355328 then (some (l0 ++ [(a1) % 256])) else (none)) else (if a1 < 2048 then ((some (([(wrap64 (192 + (wrap64 (Int.tdiv a1 64)))) % 256, (wrap64 (128 + (Int.tmod a1 64))) % 256] : List Int) : List Int)).bind fun y160 => (if l0.length + y160.length < 140737488355328 then (some (l0 ++ y160)) else (none))) else ((spec_high.f a1).bind fun t166 => (if t166 = true then (spec_appendUTF8.j0 k l0 a1 true) else ((spec_low.f a1).bind fun t167 => (spec_appendUTF8.j0 k l0 a1 t167)))))
theorem spec_appendUTF8.mono_l : ∀ k, (∀ y0 y1 y2, LeO (spec_appendUTF8.j0 k y0 y1 y2) (spec_appendUTF8.j0 (k + 1) y0 y1 y2))
  | 0 => fun _ _ _ r h => by simp [spec_appendUTF8.j0] at h
  | k + 1 => by
    have ih0 := spec_appendUTF8.mono_l k
    · intro y0 y1 y2
      unfold spec_appendUTF8.j0
      repeat' first
      | (with_reducible exact ih0 _ _ _)
      | (with_reducible exact LeO.refl _)
      | (with_reducible exact LeO.none _)
      | (with_reducible refine LeO.ite ?_ ?_)
      | (with_reducible refine LeO.bind ?_ (fun _ => ?_))
      | exact ih0 _ _ _
      | exact LeO.none _
      | refine LeO.ite ?_ ?_
      | refine LeO.bind ?_ (fun _ => ?_)
theorem spec_appendUTF8.mono : ∀ a0 a1 k, LeO (spec_appendUTF8.f k a0 a1) (spec_appendUTF8.f (k + 1) a0 a1) := by
  intro a0 a1 k
  have ih0 := spec_appendUTF8.mono_l k
  unfold spec_appendUTF8.f
  repeat' first
      | (with_reducible exact ih0 _ _ _)
      | (with_reducible exact LeO.refl _)
      | (with_reducible exact LeO.none _)
      | (with_reducible refine LeO.ite ?_ ?_)
      | (with_reducible refine LeO.bind ?_ (fun _ => ?_))
      | exact ih0 _ _ _
      | exact LeO.none _
      | refine LeO.ite ?_ ?_
      | refine LeO.bind ?_ (fun _ => ?_)
set_option maxHeartbeats 8000000 in
set_option maxRecDepth 100000 in
theorem spec_appendUTF8.calls (k : Nat) (P0_ : Nat → Prop) (u9000_ : Value) (l0 : List Int) (a1 : Int) (r : List Int) (w0 w : World) (hB : Below w0.heap.size w0 w) (ho0 : Kd.R (Kd.int .u8) 5 w w0.heap.size P0_ u9000_ l0) (h : spec_appendUTF8.f k l0 a1 = some r) :
    Calls Tryd.prog 35 #[u9000_, .int .i64 a1] w fun e w' => ∃ v0_ : Value, e = .returned (v0_) ∧ Kd.R (Kd.int .u8) 5 w' w0.heap.size (fun k_ => (P0_ k_ ∨ w.heap.size ≤ k_)) v0_ r ∧ Below w0.heap.size w0 w' ∧ Kept w w' (fun k_ => P0_ k_) := by
  have HO0 := Aside0.mk (show Kd.R (Kd.int .u8) 5 w w0.heap.size (fun k_ => (P0_ k_ ∨ w.heap.size ≤ k_)) u9000_ l0 from Kd.R_mono ho0 (fun k_ hk => (.inl hk)))
  have HK := Aside0.mk (Kept.refl w (fun k_ => P0_ k_))
  have HW0 := Aside0.mk hB.size
  have HB := Aside0.mk hB
  clear hB
  have H : (if a1 < 128 then (if l0.length < 140737488355328 then (some (l0 ++ [(a1) % 256])) else (none)) else (if a1 < 2048 then ((some (([(wrap64 (192 + (wrap64 (Int.tdiv a1 64)))) % 256, (wrap64 (128 + (Int.tmod a1 64))) % 256] : List Int) : List Int)).bind fun y160 => (if l0.length + y160.length < 140737488355328 then (some (l0 ++ y160)) else (none))) else ((spec_high.f a1).bind fun t166 => (if t166 = true then (spec_appendUTF8.j0 k l0 a1 true) else ((spec_low.f a1).bind fun t167 => (spec_appendUTF8.j0 k l0 a1 t167)))))) = some r := h
  clear h
  by_cases c3 : a1 < 128
  · rw [if_pos c3] at H
    have c3b0 : decide (a1 < 128) = true := decide_eq_true c3
    clear c3
    by_cases c4 : l0.length < 140737488355328
    · rw [if_pos c4] at H
      have LMc4 := Aside0.mk c4
      clear c4
      obtain ⟨y157, hy157⟩ : ∃ y_ : List Int, y_ = (l0 ++ [(a1) % 256]) := ⟨_, rfl⟩
      replace H : (some y157) = some r := by first | (rw [hy157]; with_reducible exact H) | (have H2_ := (Option.bind_some _ _).symm.trans H; rw [hy157]; with_reducible exact H2_) | (have H2_ := (Option.bind_some _ _).symm.trans H; with_reducible exact H2_) | with_reducible exact H | (rw [hy157]; exact H) | exact H
      have Ny157 := Aside0.mk hy157
      clear hy157
      obtain rfl := Option.some.inj H
      go_enter Tryd.func35, Tryd.ntmps35
      go_wp2_with (first | ((with_reducible refine gate_builtin (b := .append) (xs := #[.tmp 8, .tmp 11]) rfl ?_); at_builtin; refine Kd.R_append (Kd.int .u8) (w0 := w0) w0.heap.size rfl (.tmp 8) (.tmp 11) 22 5 (.int .u8 0) 1 rfl Tryd.underlying22 info5 rfl (by decide) (by omega) u9000_ l0 ((a1) % 256) [.int .u8 ((a1) % 256)] (fun k_ => (P0_ k_ ∨ w.heap.size ≤ k_)) (fun _ => False) rfl rfl ?aP (fun _ hk => hk.elim) ?aF ?aO ?aB ?aS ?aL ?_; (case aP => exact rfl); (case aB => exact (by repeat (first | (with_reducible first | exact HB.out | apply below_alloc | apply pw_below_drewN | apply below_drew1) | exact HB.out))); (case aF => exact (fun k_ hk => (.inr (Nat.le_trans (by first | exact HK.out.1 | exact (show Kept w _ (fun k_ => P0_ k_) from by repeat (first | (with_reducible first | exact HK.out | apply Kept.alloc | apply Kept.drewN | apply Kept.drew) | exact HK.out)).1) hk)))); (case aO => exact (by (with_reducible repeat (first | apply Kd.R_alloc | apply Kd.R_drewN | apply Kd.R_drew)); exact HO0.out)); (case aS => exact (below_size (by repeat (first | (with_reducible first | exact HB.out | apply below_alloc | apply pw_below_drewN | apply below_drew1) | exact HB.out)))); (case aL => have := LMc4.out; omega); intro v158 w5 ho hb hg hat; rw [← Ny157.out] at ho; have n0_ := Aside0.mk (hb); have n1_ := Aside0.mk (Kept.of_grown (S := (fun k_ => P0_ k_)) hg (by repeat (first | (with_reducible first | exact HK.out | apply Kept.alloc | apply Kept.drewN | apply Kept.drew) | exact HK.out)) (fun k_ e_ => (HO0.out.1 k_ e_))); have n2_ := Aside0.mk (ho); clear HB; clear HK; clear HO0; have HB := n0_; have HK := n1_; have HO159 := n2_; clear n0_ n1_ n2_; clear ho hb hg hat))
      go_ret
      exact ⟨_, by first | rfl | (simp [errW_none, errW_some] <;> rfl) | (simp [*, errW_none, errW_some] <;> rfl), by (with_reducible repeat (first | apply Kd.R_alloc | apply Kd.R_drewN | apply Kd.R_drew)); exact HO159.out, by repeat (first | (with_reducible first | exact HB.out | apply below_alloc | apply pw_below_drewN | apply below_drew1) | exact HB.out), by repeat (first | (with_reducible first | exact HK.out | apply Kept.alloc | apply Kept.drewN | apply Kept.drew) | exact HK.out)⟩
    · rw [if_neg c4] at H
      exact absurd H (by simp)
  · rw [if_neg c3] at H
    have c3b0 : decide (a1 < 128) = false := decide_eq_false c3
    clear c3
    by_cases c6 : a1 < 2048
    · rw [if_pos c6] at H
      have c6b0 : decide (a1 < 2048) = true := decide_eq_true c6
      clear c6
      obtain ⟨y160, hy160⟩ : ∃ y_ : List Int, y_ = (([(wrap64 (192 + (wrap64 (Int.tdiv a1 64)))) % 256, (wrap64 (128 + (Int.tmod a1 64))) % 256] : List Int)) := ⟨_, rfl⟩
      replace H : (if l0.length + y160.length < 140737488355328 then (some (l0 ++ y160)) else (none)) = some r := by first | (rw [hy160]; with_reducible exact H) | (have H2_ := (Option.bind_some _ _).symm.trans H; rw [hy160]; with_reducible exact H2_) | (have H2_ := (Option.bind_some _ _).symm.trans H; with_reducible exact H2_) | with_reducible exact H | (rw [hy160]; exact H) | exact H
      have Ny160 := Aside0.mk hy160
      clear hy160
      by_cases c7 : l0.length + y160.length < 140737488355328
      · rw [if_pos c7] at H
        have LMc7 := Aside0.mk c7
        clear c7
        obtain ⟨y163, hy163⟩ : ∃ y_ : List Int, y_ = (l0 ++ y160) := ⟨_, rfl⟩
        replace H : (some y163) = some r := by first | (rw [hy163]; with_reducible exact H) | (have H2_ := (Option.bind_some _ _).symm.trans H; rw [hy163]; with_reducible exact H2_) | (have H2_ := (Option.bind_some _ _).symm.trans H; with_reducible exact H2_) | with_reducible exact H | (rw [hy163]; exact H) | exact H
        have Ny163 := Aside0.mk hy163
        clear hy163
        obtain rfl := Option.some.inj H
        go_enter Tryd.func35, Tryd.ntmps35
        go_wp2_with (first | ((with_reducible refine gate_dst (N := 25) rfl ?_); refine Kd.R_lit (Kd.int .u8) _ 5 ?hg (N := 25) ?hd (xs := ([(wrap64 (192 + (wrap64 (Int.tdiv a1 64)))) % 256, (wrap64 (128 + (Int.tmod a1 64))) % 256] : List Int)) (inner := [.int .u8 ((wrap64 (192 + (wrap64 (Int.tdiv a1 64)))) % 256), .int .u8 ((wrap64 (128 + (Int.tmod a1 64))) % 256)]) (ok := fun _ => True) (okp := fun _ => True) ?hr ?hp (fun _ hk => hk) trivial (Below.refl _ _) (Nat.le_refl _) (by simp) ?_; (case hd => rfl); (case hg => rfl); (case hr => first | (go_simp; done) | (go_simp; rfl)); (case hp => exact (Reps.one (show Kd.M (Kd.int .u8) _ _ _ ((wrap64 (192 + (wrap64 (Int.tdiv a1 64)))) % 256) [.int .u8 ((wrap64 (192 + (wrap64 (Int.tdiv a1 64)))) % 256)] from rfl) (Reps.one (show Kd.M (Kd.int .u8) _ _ _ ((wrap64 (128 + (Int.tmod a1 64))) % 256) [.int .u8 ((wrap64 (128 + (Int.tmod a1 64))) % 256)] from rfl) (Reps.none _ _)))); intro v161 w8 ho9 hb hg_ hnew_; clear hg_ hnew_; (first | rw [← Ny160.out] at ho9 | (simp only [Int.reduceToNat] at ho9; rw [← Ny160.out] at ho9)); have n0_ := Aside0.mk (Kd.R_elder' (by (with_reducible repeat (first | apply Kd.R_alloc | apply Kd.R_drewN | apply Kd.R_drew)); exact HO0.out) (Kd.R_base ho9) hb); have n1_ := Aside0.mk (Kd.R_lower (Kd.R_new' (Kd.R_newM (M := fun k_ => (P0_ k_ ∨ w.heap.size ≤ k_)) ho9 (by first | exact HK.out.1 | exact (show Kept w _ (fun k_ => P0_ k_) from by repeat (first | (with_reducible first | exact HK.out | apply Kept.alloc | apply Kept.drewN | apply Kept.drew) | exact HK.out)).1) (fun k_ h_ => .inr h_)) (Kd.R_lt (by (with_reducible repeat (first | apply Kd.R_alloc | apply Kd.R_drewN | apply Kd.R_drew)); exact HO0.out))) (below_size (by repeat (first | (with_reducible first | exact HB.out | apply below_alloc | apply pw_below_drewN | apply below_drew1) | exact HB.out)))); have n2_ := Aside0.mk (Kept.below (S := (fun k_ => P0_ k_)) (by repeat (first | (with_reducible first | exact HK.out | apply Kept.alloc | apply Kept.drewN | apply Kept.drew) | exact HK.out)) hb); have n3_ := Aside0.mk (below_step (by repeat (first | (with_reducible first | exact HB.out | apply below_alloc | apply pw_below_drewN | apply below_drew1) | exact HB.out)) hb); clear HO0; clear HK; clear HB; have HO0 := n0_; have HO162 := n1_; have HK := n2_; have HB := n3_; clear n0_ n1_ n2_ n3_; clear hb ho9; obtain ⟨Ao11, co11, eo11⟩ := Kd.R_slice HO162.out; subst eo11) | ((with_reducible refine gate_builtin (b := .append) (xs := #[.tmp 16, .tmp 25]) rfl ?_); at_builtin; refine Kd.R_append_rows (Kd.int .u8) (w0 := w0) w0.heap.size rfl (.tmp 16) (.tmp 25) 22 5 (.int .u8 0) 1 rfl Tryd.underlying22 info5 rfl (by decide) (by omega) u9000_ l0 y160 _ _ _ (fun k_ => (P0_ k_ ∨ w.heap.size ≤ k_) ∧ some k_ ≠ (.slice Ao11 y160.length co11 : Value).ownBlock) (fun _ => False) rfl rfl ?aO ?aR (fun _ _ h => h) (fun _ h => h.elim) ?aF ?aB ?aS ?aL ?_; (case aR => repeat (first | exact (Kd.R_reads' HO162.out).2.2 | (with_reducible refine Kd.C_alloc ?_ _) | (with_reducible refine Kd.C_drewN ?_ _) | (with_reducible refine Kd.C_drew ?_))); (case aB => exact (by repeat (first | (with_reducible first | exact HB.out | apply below_alloc | apply pw_below_drewN | apply below_drew1) | exact HB.out))); (case aF => exact (fun k_ hk => ⟨(.inr (Nat.le_trans (by first | exact HK.out.1 | exact (show Kept w _ (fun k_ => P0_ k_) from by repeat (first | (with_reducible first | exact HK.out | apply Kept.alloc | apply Kept.drewN | apply Kept.drew) | exact HK.out)).1) hk)), Kd.fresh' (Kd.R_lt (by (with_reducible repeat (first | apply Kd.R_alloc | apply Kd.R_drewN | apply Kd.R_drew)); exact HO162.out)) k_ hk⟩)); (case aO => exact (by (with_reducible repeat (first | apply Kd.R_alloc | apply Kd.R_drewN | apply Kd.R_drew)); exact HO0.out)); (case aS => exact (below_size (by repeat (first | (with_reducible first | exact HB.out | apply below_alloc | apply pw_below_drewN | apply below_drew1) | exact HB.out)))); (case aL => have := LMc7.out; omega); intro v164 w10 ho hb hg hat; rw [← Ny163.out] at ho; have n0_ := Aside0.mk (Kd.R_after (ok := (fun k_ => (P0_ k_ ∨ w.heap.size ≤ k_))) (by (with_reducible repeat (first | apply Kd.R_alloc | apply Kd.R_drewN | apply Kd.R_drew)); exact Kd.R_mono HO162.out (fun _ hk => ⟨hk.1.1, hk.2⟩)) hg hat); have n1_ := Aside0.mk (hb); have n2_ := Aside0.mk (Kept.of_grown (S := (fun k_ => P0_ k_)) hg (by repeat (first | (with_reducible first | exact HK.out | apply Kept.alloc | apply Kept.drewN | apply Kept.drew) | exact HK.out)) (fun k_ e_ => (HO0.out.1 k_ e_).1)); have n3_ := Aside0.mk (ho); clear HO162; clear HB; clear HK; clear HO0; have HO162 := n0_; have HB := n1_; have HK := n2_; have HO165 := n3_; clear n0_ n1_ n2_ n3_; clear ho hb hg hat))
        go_ret
        exact ⟨_, by first | rfl | (simp [errW_none, errW_some] <;> rfl) | (simp [*, errW_none, errW_some] <;> rfl), by (with_reducible repeat (first | apply Kd.R_alloc | apply Kd.R_drewN | apply Kd.R_drew)); exact Kd.R_mono HO165.out (fun _ hk => hk.1), by repeat (first | (with_reducible first | exact HB.out | apply below_alloc | apply pw_below_drewN | apply below_drew1) | exact HB.out), by repeat (first | (with_reducible first | exact HK.out | apply Kept.alloc | apply Kept.drewN | apply Kept.drew) | exact HK.out)⟩
      · rw [if_neg c7] at H
        exact absurd H (by simp)
    · rw [if_neg c6] at H
      have c6b0 : decide (a1 < 2048) = false := decide_eq_false c6
      clear c6
      have HC12 := Aside0.mk H
      clear H
      go_enter Tryd.func35, Tryd.ntmps35
      go_upto_region 5 with (fail)
      go_cut [27] (fun v27 wc => ∃ (kq : Nat) (x27_11 : Bool), v27 = .bool x27_11 ∧ Aside0 (spec_appendUTF8.j0 kq l0 a1 x27_11 = some r) ∧ Aside0 (kq ≤ k) ∧ Aside0 (Kd.R (Kd.int .u8) 5 wc w0.heap.size (fun k_ => (P0_ k_ ∨ w.heap.size ≤ k_)) u9000_ l0) ∧ Aside0 (Kept w wc (fun k_ => P0_ k_)) ∧ Aside0 (Below w0.heap.size w0 wc))
      case first =>
        have H := HC12.out
        clear HC12
        replace H := Option.bind_eq_some_iff.mp H
        obtain ⟨t166, A130, H⟩ := H
        replace H : (if t166 = true then (spec_appendUTF8.j0 k l0 a1 true) else ((spec_low.f a1).bind fun t167 => (spec_appendUTF8.j0 k l0 a1 t167))) = some r := H
        have A13 := Aside0.mk A130
        clear A130
        by_cases c14 : t166 = true
        · subst c14
          have H1 : (spec_appendUTF8.j0 k l0 a1 true) = some r := by rw [if_pos rfl] at H; exact H
          clear H
          have H := H1
          clear H1
          have H' := Aside0.mk H
          clear H
          go_wp2_with (first | ((with_reducible refine gate_callee (f := 55) rfl ?_); refine goesL_ (some 29) rfl rfl Tryd.func55 (by kernel_rfl) rfl #[.int .i64 a1] rfl (by (try simp only [List.map_toArray, List.map_cons, List.map_nil]); first | done | rfl | (simp only [List.length_drop, List.length_take]; rfl)) ?_; (with_reducible refine (spec_high.calls a1 true _ A13.out).mono ?_); rintro e w' ⟨rfl, ⟨nd, rfl⟩⟩; refine ⟨_, rfl, ?_⟩))
          go_meet
          case rel => exact ⟨_, (true), (by first | rfl | (simp; done) | (simp [*]; done)), H', ⟨by first | omega | exact Nat.le_refl _⟩, ⟨by (with_reducible repeat (first | apply Kd.R_alloc | apply Kd.R_drewN | apply Kd.R_drew)); exact HO0.out⟩, ⟨by repeat (first | (with_reducible first | exact HK.out | apply Kept.alloc | apply Kept.drewN | apply Kept.drew) | exact HK.out)⟩, ⟨by repeat (first | (with_reducible first | exact HB.out | apply below_alloc | apply pw_below_drewN | apply below_drew1) | exact HB.out)⟩⟩
        · replace c14 := Bool.eq_false_iff.mpr c14
          subst c14
          have H1 : ((spec_low.f a1).bind fun t167 => (spec_appendUTF8.j0 k l0 a1 t167)) = some r := by rw [if_neg (show ¬ (false = true) by decide)] at H; exact H
          clear H
          have H := H1
          clear H1
          replace H := Option.bind_eq_some_iff.mp H
          obtain ⟨t167, A150, H⟩ := H
          replace H : (spec_appendUTF8.j0 k l0 a1 t167) = some r := H
          have A15 := Aside0.mk A150
          clear A150
          have H' := Aside0.mk H
          clear H
          go_wp2_with (first | ((with_reducible refine gate_callee (f := 55) rfl ?_); refine goesL_ (some 29) rfl rfl Tryd.func55 (by kernel_rfl) rfl #[.int .i64 a1] rfl (by (try simp only [List.map_toArray, List.map_cons, List.map_nil]); first | done | rfl | (simp only [List.length_drop, List.length_take]; rfl)) ?_; (with_reducible refine (spec_high.calls a1 false _ A13.out).mono ?_); rintro e w' ⟨rfl, ⟨nd, rfl⟩⟩; refine ⟨_, rfl, ?_⟩) | (go_at_call 56; (with_reducible refine (spec_low.calls a1 t167 _ A15.out).mono ?_); rintro e w' ⟨rfl, ⟨nd, rfl⟩⟩))
          go_meet
          case rel => exact ⟨_, (t167), (by first | rfl | (simp; done) | (simp [*]; done)), H', ⟨by first | omega | exact Nat.le_refl _⟩, ⟨by (with_reducible repeat (first | apply Kd.R_alloc | apply Kd.R_drewN | apply Kd.R_drew)); exact HO0.out⟩, ⟨by repeat (first | (with_reducible first | exact HK.out | apply Kept.alloc | apply Kept.drewN | apply Kept.drew) | exact HK.out)⟩, ⟨by repeat (first | (with_reducible first | exact HB.out | apply below_alloc | apply pw_below_drewN | apply below_drew1) | exact HB.out)⟩⟩
      case rest =>
        clear HC12
        try clear c1
        try clear p2
        try clear c3
        try clear c3b0
        try clear c4
        try clear c5
        try clear c6
        try clear c6b0
        try clear p6
        try clear c7
        try clear c14
        obtain ⟨kq, x27_11, rfl, HA, HJ11, HO_0, HK, HB⟩ := hcut
        cases kq with
        | zero => exact absurd HA.out (by simp [spec_appendUTF8.j0])
        | succ kj11 =>
          have H := HA.out
          clear HA
          simp only [spec_appendUTF8.j0] at H
          by_cases c16 : x27_11 = true
          · subst c16
            have H1 : ((some (([239, 191, 189] : List Int) : List Int)).bind fun y168 => (if l0.length + y168.length < 140737488355328 then (some (l0 ++ y168)) else (none))) = some r := by rw [if_pos rfl] at H; exact H
            clear H
            have H := H1
            clear H1
            obtain ⟨y168, hy168⟩ : ∃ y_ : List Int, y_ = (([239, 191, 189] : List Int)) := ⟨_, rfl⟩
            replace H : (if l0.length + y168.length < 140737488355328 then (some (l0 ++ y168)) else (none)) = some r := by first | (rw [hy168]; with_reducible exact H) | (have H2_ := (Option.bind_some _ _).symm.trans H; rw [hy168]; with_reducible exact H2_) | (have H2_ := (Option.bind_some _ _).symm.trans H; with_reducible exact H2_) | with_reducible exact H | (rw [hy168]; exact H) | exact H
            have Ny168 := Aside0.mk hy168
            clear hy168
            by_cases c17 : l0.length + y168.length < 140737488355328
            · rw [if_pos c17] at H
              have LMc17 := Aside0.mk c17
              clear c17
              obtain ⟨y171, hy171⟩ : ∃ y_ : List Int, y_ = (l0 ++ y168) := ⟨_, rfl⟩
              replace H : (some y171) = some r := by first | (rw [hy171]; with_reducible exact H) | (have H2_ := (Option.bind_some _ _).symm.trans H; rw [hy171]; with_reducible exact H2_) | (have H2_ := (Option.bind_some _ _).symm.trans H; with_reducible exact H2_) | with_reducible exact H | (rw [hy171]; exact H) | exact H
              have Ny171 := Aside0.mk hy171
              clear hy171
              obtain rfl := Option.some.inj H
              go_wp2_with (first | ((with_reducible refine gate_dst (N := 35) rfl ?_); refine Kd.R_lit (Kd.int .u8) _ 5 ?hg (N := 35) ?hd (xs := ([239, 191, 189] : List Int)) (inner := [.int .u8 239, .int .u8 191, .int .u8 189]) (ok := fun _ => True) (okp := fun _ => True) ?hr ?hp (fun _ hk => hk) trivial (Below.refl _ _) (Nat.le_refl _) (by simp) ?_; (case hd => rfl); (case hg => rfl); (case hr => first | (go_simp; done) | (go_simp; rfl)); (case hp => exact (Reps.one (show Kd.M (Kd.int .u8) _ _ _ 239 [.int .u8 239] from rfl) (Reps.one (show Kd.M (Kd.int .u8) _ _ _ 191 [.int .u8 191] from rfl) (Reps.one (show Kd.M (Kd.int .u8) _ _ _ 189 [.int .u8 189] from rfl) (Reps.none _ _))))); intro v169 w18 ho19 hb hg_ hnew_; clear hg_ hnew_; (first | rw [← Ny168.out] at ho19 | (simp only [Int.reduceToNat] at ho19; rw [← Ny168.out] at ho19)); have n0_ := Aside0.mk (Kd.R_elder' (by (with_reducible repeat (first | apply Kd.R_alloc | apply Kd.R_drewN | apply Kd.R_drew)); exact HO_0.out) (Kd.R_base ho19) hb); have n1_ := Aside0.mk (Kd.R_lower (Kd.R_new' (Kd.R_newM (M := fun k_ => (P0_ k_ ∨ w.heap.size ≤ k_)) ho19 (by first | exact HK.out.1 | exact (show Kept w _ (fun k_ => P0_ k_) from by repeat (first | (with_reducible first | exact HK.out | apply Kept.alloc | apply Kept.drewN | apply Kept.drew) | exact HK.out)).1) (fun k_ h_ => .inr h_)) (Kd.R_lt (by (with_reducible repeat (first | apply Kd.R_alloc | apply Kd.R_drewN | apply Kd.R_drew)); exact HO_0.out))) (below_size (by repeat (first | (with_reducible first | exact HB.out | apply below_alloc | apply pw_below_drewN | apply below_drew1) | exact HB.out)))); have n2_ := Aside0.mk (Kept.below (S := (fun k_ => P0_ k_)) (by repeat (first | (with_reducible first | exact HK.out | apply Kept.alloc | apply Kept.drewN | apply Kept.drew) | exact HK.out)) hb); have n3_ := Aside0.mk (below_step (by repeat (first | (with_reducible first | exact HB.out | apply below_alloc | apply pw_below_drewN | apply below_drew1) | exact HB.out)) hb); clear HO_0; clear HK; clear HB; have HO_0 := n0_; have HO170 := n1_; have HK := n2_; have HB := n3_; clear n0_ n1_ n2_ n3_; clear hb ho19; obtain ⟨Ao21, co21, eo21⟩ := Kd.R_slice HO170.out; subst eo21) | ((with_reducible refine gate_builtin (b := .append) (xs := #[.tmp 34, .tmp 35]) rfl ?_); at_builtin; refine Kd.R_append_rows (Kd.int .u8) (w0 := w0) w0.heap.size rfl (.tmp 34) (.tmp 35) 22 5 (.int .u8 0) 1 rfl Tryd.underlying22 info5 rfl (by decide) (by omega) u9000_ l0 y168 _ _ _ (fun k_ => (P0_ k_ ∨ w.heap.size ≤ k_) ∧ some k_ ≠ (.slice Ao21 y168.length co21 : Value).ownBlock) (fun _ => False) rfl rfl ?aO ?aR (fun _ _ h => h) (fun _ h => h.elim) ?aF ?aB ?aS ?aL ?_; (case aR => repeat (first | exact (Kd.R_reads' HO170.out).2.2 | (with_reducible refine Kd.C_alloc ?_ _) | (with_reducible refine Kd.C_drewN ?_ _) | (with_reducible refine Kd.C_drew ?_))); (case aB => exact (by repeat (first | (with_reducible first | exact HB.out | apply below_alloc | apply pw_below_drewN | apply below_drew1) | exact HB.out))); (case aF => exact (fun k_ hk => ⟨(.inr (Nat.le_trans (by first | exact HK.out.1 | exact (show Kept w _ (fun k_ => P0_ k_) from by repeat (first | (with_reducible first | exact HK.out | apply Kept.alloc | apply Kept.drewN | apply Kept.drew) | exact HK.out)).1) hk)), Kd.fresh' (Kd.R_lt (by (with_reducible repeat (first | apply Kd.R_alloc | apply Kd.R_drewN | apply Kd.R_drew)); exact HO170.out)) k_ hk⟩)); (case aO => exact (by (with_reducible repeat (first | apply Kd.R_alloc | apply Kd.R_drewN | apply Kd.R_drew)); exact HO_0.out)); (case aS => exact (below_size (by repeat (first | (with_reducible first | exact HB.out | apply below_alloc | apply pw_below_drewN | apply below_drew1) | exact HB.out)))); (case aL => have := LMc17.out; omega); intro v172 w20 ho hb hg hat; rw [← Ny171.out] at ho; have n0_ := Aside0.mk (Kd.R_after (ok := (fun k_ => (P0_ k_ ∨ w.heap.size ≤ k_))) (by (with_reducible repeat (first | apply Kd.R_alloc | apply Kd.R_drewN | apply Kd.R_drew)); exact Kd.R_mono HO170.out (fun _ hk => ⟨hk.1.1, hk.2⟩)) hg hat); have n1_ := Aside0.mk (hb); have n2_ := Aside0.mk (Kept.of_grown (S := (fun k_ => P0_ k_)) hg (by repeat (first | (with_reducible first | exact HK.out | apply Kept.alloc | apply Kept.drewN | apply Kept.drew) | exact HK.out)) (fun k_ e_ => (HO_0.out.1 k_ e_).1)); have n3_ := Aside0.mk (ho); clear HO170; clear HB; clear HK; clear HO_0; have HO170 := n0_; have HB := n1_; have HK := n2_; have HO173 := n3_; clear n0_ n1_ n2_ n3_; clear ho hb hg hat))
              go_ret
              exact ⟨_, by first | rfl | (simp [errW_none, errW_some] <;> rfl) | (simp [*, errW_none, errW_some] <;> rfl), by (with_reducible repeat (first | apply Kd.R_alloc | apply Kd.R_drewN | apply Kd.R_drew)); exact Kd.R_mono HO173.out (fun _ hk => hk.1), by repeat (first | (with_reducible first | exact HB.out | apply below_alloc | apply pw_below_drewN | apply below_drew1) | exact HB.out), by repeat (first | (with_reducible first | exact HK.out | apply Kept.alloc | apply Kept.drewN | apply Kept.drew) | exact HK.out)⟩
            · rw [if_neg c17] at H
              exact absurd H (by simp)
          · replace c16 := Bool.eq_false_iff.mpr c16
            subst c16
            have H1 : (if a1 < 65536 then ((some (([(wrap64 (224 + (wrap64 (Int.tdiv a1 4096)))) % 256, (wrap64 (128 + (Int.tmod (wrap64 (Int.tdiv a1 64)) 64))) % 256, (wrap64 (128 + (Int.tmod a1 64))) % 256] : List Int) : List Int)).bind fun y174 => (if l0.length + y174.length < 140737488355328 then (some (l0 ++ y174)) else (none))) else ((some (([(wrap64 (240 + (wrap64 (Int.tdiv a1 262144)))) % 256, (wrap64 (128 + (Int.tmod (wrap64 (Int.tdiv a1 4096)) 64))) % 256, (wrap64 (128 + (Int.tmod (wrap64 (Int.tdiv a1 64)) 64))) % 256, (wrap64 (128 + (Int.tmod a1 64))) % 256] : List Int) : List Int)).bind fun y180 => (if l0.length + y180.length < 140737488355328 then (some (l0 ++ y180)) else (none)))) = some r := by rw [if_neg (show ¬ (false = true) by decide)] at H; exact H
            clear H
            have H := H1
            clear H1
            by_cases c22 : a1 < 65536
            · rw [if_pos c22] at H
              have c22b0 : decide (a1 < 65536) = true := decide_eq_true c22
              clear c22
              obtain ⟨y174, hy174⟩ : ∃ y_ : List Int, y_ = (([(wrap64 (224 + (wrap64 (Int.tdiv a1 4096)))) % 256, (wrap64 (128 + (Int.tmod (wrap64 (Int.tdiv a1 64)) 64))) % 256, (wrap64 (128 + (Int.tmod a1 64))) % 256] : List Int)) := ⟨_, rfl⟩
              replace H : (if l0.length + y174.length < 140737488355328 then (some (l0 ++ y174)) else (none)) = some r := by first | (rw [hy174]; with_reducible exact H) | (have H2_ := (Option.bind_some _ _).symm.trans H; rw [hy174]; with_reducible exact H2_) | (have H2_ := (Option.bind_some _ _).symm.trans H; with_reducible exact H2_) | with_reducible exact H | (rw [hy174]; exact H) | exact H
              have Ny174 := Aside0.mk hy174
              clear hy174
              by_cases c23 : l0.length + y174.length < 140737488355328
              · rw [if_pos c23] at H
                have LMc23 := Aside0.mk c23
                clear c23
                obtain ⟨y177, hy177⟩ : ∃ y_ : List Int, y_ = (l0 ++ y174) := ⟨_, rfl⟩
                replace H : (some y177) = some r := by first | (rw [hy177]; with_reducible exact H) | (have H2_ := (Option.bind_some _ _).symm.trans H; rw [hy177]; with_reducible exact H2_) | (have H2_ := (Option.bind_some _ _).symm.trans H; with_reducible exact H2_) | with_reducible exact H | (rw [hy177]; exact H) | exact H
                have Ny177 := Aside0.mk hy177
                clear hy177
                obtain rfl := Option.some.inj H
                go_wp2_with (first | ((with_reducible refine gate_dst (N := 54) rfl ?_); refine Kd.R_lit (Kd.int .u8) _ 5 ?hg (N := 54) ?hd (xs := ([(wrap64 (224 + (wrap64 (Int.tdiv a1 4096)))) % 256, (wrap64 (128 + (Int.tmod (wrap64 (Int.tdiv a1 64)) 64))) % 256, (wrap64 (128 + (Int.tmod a1 64))) % 256] : List Int)) (inner := [.int .u8 ((wrap64 (224 + (wrap64 (Int.tdiv a1 4096)))) % 256), .int .u8 ((wrap64 (128 + (Int.tmod (wrap64 (Int.tdiv a1 64)) 64))) % 256), .int .u8 ((wrap64 (128 + (Int.tmod a1 64))) % 256)]) (ok := fun _ => True) (okp := fun _ => True) ?hr ?hp (fun _ hk => hk) trivial (Below.refl _ _) (Nat.le_refl _) (by simp) ?_; (case hd => rfl); (case hg => rfl); (case hr => first | (go_simp; done) | (go_simp; rfl)); (case hp => exact (Reps.one (show Kd.M (Kd.int .u8) _ _ _ ((wrap64 (224 + (wrap64 (Int.tdiv a1 4096)))) % 256) [.int .u8 ((wrap64 (224 + (wrap64 (Int.tdiv a1 4096)))) % 256)] from rfl) (Reps.one (show Kd.M (Kd.int .u8) _ _ _ ((wrap64 (128 + (Int.tmod (wrap64 (Int.tdiv a1 64)) 64))) % 256) [.int .u8 ((wrap64 (128 + (Int.tmod (wrap64 (Int.tdiv a1 64)) 64))) % 256)] from rfl) (Reps.one (show Kd.M (Kd.int .u8) _ _ _ ((wrap64 (128 + (Int.tmod a1 64))) % 256) [.int .u8 ((wrap64 (128 + (Int.tmod a1 64))) % 256)] from rfl) (Reps.none _ _))))); intro v175 w24 ho25 hb hg_ hnew_; clear hg_ hnew_; (first | rw [← Ny174.out] at ho25 | (simp only [Int.reduceToNat] at ho25; rw [← Ny174.out] at ho25)); have n0_ := Aside0.mk (Kd.R_elder' (by (with_reducible repeat (first | apply Kd.R_alloc | apply Kd.R_drewN | apply Kd.R_drew)); exact HO_0.out) (Kd.R_base ho25) hb); have n1_ := Aside0.mk (Kd.R_lower (Kd.R_new' (Kd.R_newM (M := fun k_ => (P0_ k_ ∨ w.heap.size ≤ k_)) ho25 (by first | exact HK.out.1 | exact (show Kept w _ (fun k_ => P0_ k_) from by repeat (first | (with_reducible first | exact HK.out | apply Kept.alloc | apply Kept.drewN | apply Kept.drew) | exact HK.out)).1) (fun k_ h_ => .inr h_)) (Kd.R_lt (by (with_reducible repeat (first | apply Kd.R_alloc | apply Kd.R_drewN | apply Kd.R_drew)); exact HO_0.out))) (below_size (by repeat (first | (with_reducible first | exact HB.out | apply below_alloc | apply pw_below_drewN | apply below_drew1) | exact HB.out)))); have n2_ := Aside0.mk (Kept.below (S := (fun k_ => P0_ k_)) (by repeat (first | (with_reducible first | exact HK.out | apply Kept.alloc | apply Kept.drewN | apply Kept.drew) | exact HK.out)) hb); have n3_ := Aside0.mk (below_step (by repeat (first | (with_reducible first | exact HB.out | apply below_alloc | apply pw_below_drewN | apply below_drew1) | exact HB.out)) hb); clear HO_0; clear HK; clear HB; have HO_0 := n0_; have HO176 := n1_; have HK := n2_; have HB := n3_; clear n0_ n1_ n2_ n3_; clear hb ho25; obtain ⟨Ao27, co27, eo27⟩ := Kd.R_slice HO176.out; subst eo27) | ((with_reducible refine gate_builtin (b := .append) (xs := #[.tmp 40, .tmp 54]) rfl ?_); at_builtin; refine Kd.R_append_rows (Kd.int .u8) (w0 := w0) w0.heap.size rfl (.tmp 40) (.tmp 54) 22 5 (.int .u8 0) 1 rfl Tryd.underlying22 info5 rfl (by decide) (by omega) u9000_ l0 y174 _ _ _ (fun k_ => (P0_ k_ ∨ w.heap.size ≤ k_) ∧ some k_ ≠ (.slice Ao27 y174.length co27 : Value).ownBlock) (fun _ => False) rfl rfl ?aO ?aR (fun _ _ h => h) (fun _ h => h.elim) ?aF ?aB ?aS ?aL ?_; (case aR => repeat (first | exact (Kd.R_reads' HO176.out).2.2 | (with_reducible refine Kd.C_alloc ?_ _) | (with_reducible refine Kd.C_drewN ?_ _) | (with_reducible refine Kd.C_drew ?_))); (case aB => exact (by repeat (first | (with_reducible first | exact HB.out | apply below_alloc | apply pw_below_drewN | apply below_drew1) | exact HB.out))); (case aF => exact (fun k_ hk => ⟨(.inr (Nat.le_trans (by first | exact HK.out.1 | exact (show Kept w _ (fun k_ => P0_ k_) from by repeat (first | (with_reducible first | exact HK.out | apply Kept.alloc | apply Kept.drewN | apply Kept.drew) | exact HK.out)).1) hk)), Kd.fresh' (Kd.R_lt (by (with_reducible repeat (first | apply Kd.R_alloc | apply Kd.R_drewN | apply Kd.R_drew)); exact HO176.out)) k_ hk⟩)); (case aO => exact (by (with_reducible repeat (first | apply Kd.R_alloc | apply Kd.R_drewN | apply Kd.R_drew)); exact HO_0.out)); (case aS => exact (below_size (by repeat (first | (with_reducible first | exact HB.out | apply below_alloc | apply pw_below_drewN | apply below_drew1) | exact HB.out)))); (case aL => have := LMc23.out; omega); intro v178 w26 ho hb hg hat; rw [← Ny177.out] at ho; have n0_ := Aside0.mk (Kd.R_after (ok := (fun k_ => (P0_ k_ ∨ w.heap.size ≤ k_))) (by (with_reducible repeat (first | apply Kd.R_alloc | apply Kd.R_drewN | apply Kd.R_drew)); exact Kd.R_mono HO176.out (fun _ hk => ⟨hk.1.1, hk.2⟩)) hg hat); have n1_ := Aside0.mk (hb); have n2_ := Aside0.mk (Kept.of_grown (S := (fun k_ => P0_ k_)) hg (by repeat (first | (with_reducible first | exact HK.out | apply Kept.alloc | apply Kept.drewN | apply Kept.drew) | exact HK.out)) (fun k_ e_ => (HO_0.out.1 k_ e_).1)); have n3_ := Aside0.mk (ho); clear HO176; clear HB; clear HK; clear HO_0; have HO176 := n0_; have HB := n1_; have HK := n2_; have HO179 := n3_; clear n0_ n1_ n2_ n3_; clear ho hb hg hat))
                go_ret
                exact ⟨_, by first | rfl | (simp [errW_none, errW_some] <;> rfl) | (simp [*, errW_none, errW_some] <;> rfl), by (with_reducible repeat (first | apply Kd.R_alloc | apply Kd.R_drewN | apply Kd.R_drew)); exact Kd.R_mono HO179.out (fun _ hk => hk.1), by repeat (first | (with_reducible first | exact HB.out | apply below_alloc | apply pw_below_drewN | apply below_drew1) | exact HB.out), by repeat (first | (with_reducible first | exact HK.out | apply Kept.alloc | apply Kept.drewN | apply Kept.drew) | exact HK.out)⟩
              · rw [if_neg c23] at H
                exact absurd H (by simp)
            · rw [if_neg c22] at H
              have c22b0 : decide (a1 < 65536) = false := decide_eq_false c22
              clear c22
              obtain ⟨y180, hy180⟩ : ∃ y_ : List Int, y_ = (([(wrap64 (240 + (wrap64 (Int.tdiv a1 262144)))) % 256, (wrap64 (128 + (Int.tmod (wrap64 (Int.tdiv a1 4096)) 64))) % 256, (wrap64 (128 + (Int.tmod (wrap64 (Int.tdiv a1 64)) 64))) % 256, (wrap64 (128 + (Int.tmod a1 64))) % 256] : List Int)) := ⟨_, rfl⟩
              replace H : (if l0.length + y180.length < 140737488355328 then (some (l0 ++ y180)) else (none)) = some r := by first | (rw [hy180]; with_reducible exact H) | (have H2_ := (Option.bind_some _ _).symm.trans H; rw [hy180]; with_reducible exact H2_) | (have H2_ := (Option.bind_some _ _).symm.trans H; with_reducible exact H2_) | with_reducible exact H | (rw [hy180]; exact H) | exact H
              have Ny180 := Aside0.mk hy180
              clear hy180
              by_cases c28 : l0.length + y180.length < 140737488355328
              · rw [if_pos c28] at H
                have LMc28 := Aside0.mk c28
                clear c28
                obtain ⟨y183, hy183⟩ : ∃ y_ : List Int, y_ = (l0 ++ y180) := ⟨_, rfl⟩
                replace H : (some y183) = some r := by first | (rw [hy183]; with_reducible exact H) | (have H2_ := (Option.bind_some _ _).symm.trans H; rw [hy183]; with_reducible exact H2_) | (have H2_ := (Option.bind_some _ _).symm.trans H; with_reducible exact H2_) | with_reducible exact H | (rw [hy183]; exact H) | exact H
                have Ny183 := Aside0.mk hy183
                clear hy183
                obtain rfl := Option.some.inj H
                go_wp2_with (first | ((with_reducible refine gate_dst (N := 75) rfl ?_); refine Kd.R_lit (Kd.int .u8) _ 5 ?hg (N := 75) ?hd (xs := ([(wrap64 (240 + (wrap64 (Int.tdiv a1 262144)))) % 256, (wrap64 (128 + (Int.tmod (wrap64 (Int.tdiv a1 4096)) 64))) % 256, (wrap64 (128 + (Int.tmod (wrap64 (Int.tdiv a1 64)) 64))) % 256, (wrap64 (128 + (Int.tmod a1 64))) % 256] : List Int)) (inner := [.int .u8 ((wrap64 (240 + (wrap64 (Int.tdiv a1 262144)))) % 256), .int .u8 ((wrap64 (128 + (Int.tmod (wrap64 (Int.tdiv a1 4096)) 64))) % 256), .int .u8 ((wrap64 (128 + (Int.tmod (wrap64 (Int.tdiv a1 64)) 64))) % 256), .int .u8 ((wrap64 (128 + (Int.tmod a1 64))) % 256)]) (ok := fun _ => True) (okp := fun _ => True) ?hr ?hp (fun _ hk => hk) trivial (Below.refl _ _) (Nat.le_refl _) (by simp) ?_; (case hd => rfl); (case hg => rfl); (case hr => first | (go_simp; done) | (go_simp; rfl)); (case hp => exact (Reps.one (show Kd.M (Kd.int .u8) _ _ _ ((wrap64 (240 + (wrap64 (Int.tdiv a1 262144)))) % 256) [.int .u8 ((wrap64 (240 + (wrap64 (Int.tdiv a1 262144)))) % 256)] from rfl) (Reps.one (show Kd.M (Kd.int .u8) _ _ _ ((wrap64 (128 + (Int.tmod (wrap64 (Int.tdiv a1 4096)) 64))) % 256) [.int .u8 ((wrap64 (128 + (Int.tmod (wrap64 (Int.tdiv a1 4096)) 64))) % 256)] from rfl) (Reps.one (show Kd.M (Kd.int .u8) _ _ _ ((wrap64 (128 + (Int.tmod (wrap64 (Int.tdiv a1 64)) 64))) % 256) [.int .u8 ((wrap64 (128 + (Int.tmod (wrap64 (Int.tdiv a1 64)) 64))) % 256)] from rfl) (Reps.one (show Kd.M (Kd.int .u8) _ _ _ ((wrap64 (128 + (Int.tmod a1 64))) % 256) [.int .u8 ((wrap64 (128 + (Int.tmod a1 64))) % 256)] from rfl) (Reps.none _ _)))))); intro v181 w29 ho30 hb hg_ hnew_; clear hg_ hnew_; (first | rw [← Ny180.out] at ho30 | (simp only [Int.reduceToNat] at ho30; rw [← Ny180.out] at ho30)); have n0_ := Aside0.mk (Kd.R_elder' (by (with_reducible repeat (first | apply Kd.R_alloc | apply Kd.R_drewN | apply Kd.R_drew)); exact HO_0.out) (Kd.R_base ho30) hb); have n1_ := Aside0.mk (Kd.R_lower (Kd.R_new' (Kd.R_newM (M := fun k_ => (P0_ k_ ∨ w.heap.size ≤ k_)) ho30 (by first | exact HK.out.1 | exact (show Kept w _ (fun k_ => P0_ k_) from by repeat (first | (with_reducible first | exact HK.out | apply Kept.alloc | apply Kept.drewN | apply Kept.drew) | exact HK.out)).1) (fun k_ h_ => .inr h_)) (Kd.R_lt (by (with_reducible repeat (first | apply Kd.R_alloc | apply Kd.R_drewN | apply Kd.R_drew)); exact HO_0.out))) (below_size (by repeat (first | (with_reducible first | exact HB.out | apply below_alloc | apply pw_below_drewN | apply below_drew1) | exact HB.out)))); have n2_ := Aside0.mk (Kept.below (S := (fun k_ => P0_ k_)) (by repeat (first | (with_reducible first | exact HK.out | apply Kept.alloc | apply Kept.drewN | apply Kept.drew) | exact HK.out)) hb); have n3_ := Aside0.mk (below_step (by repeat (first | (with_reducible first | exact HB.out | apply below_alloc | apply pw_below_drewN | apply below_drew1) | exact HB.out)) hb); clear HO_0; clear HK; clear HB; have HO_0 := n0_; have HO182 := n1_; have HK := n2_; have HB := n3_; clear n0_ n1_ n2_ n3_; clear hb ho30; obtain ⟨Ao32, co32, eo32⟩ := Kd.R_slice HO182.out; subst eo32) | ((with_reducible refine gate_builtin (b := .append) (xs := #[.tmp 56, .tmp 75]) rfl ?_); at_builtin; refine Kd.R_append_rows (Kd.int .u8) (w0 := w0) w0.heap.size rfl (.tmp 56) (.tmp 75) 22 5 (.int .u8 0) 1 rfl Tryd.underlying22 info5 rfl (by decide) (by omega) u9000_ l0 y180 _ _ _ (fun k_ => (P0_ k_ ∨ w.heap.size ≤ k_) ∧ some k_ ≠ (.slice Ao32 y180.length co32 : Value).ownBlock) (fun _ => False) rfl rfl ?aO ?aR (fun _ _ h => h) (fun _ h => h.elim) ?aF ?aB ?aS ?aL ?_; (case aR => repeat (first | exact (Kd.R_reads' HO182.out).2.2 | (with_reducible refine Kd.C_alloc ?_ _) | (with_reducible refine Kd.C_drewN ?_ _) | (with_reducible refine Kd.C_drew ?_))); (case aB => exact (by repeat (first | (with_reducible first | exact HB.out | apply below_alloc | apply pw_below_drewN | apply below_drew1) | exact HB.out))); (case aF => exact (fun k_ hk => ⟨(.inr (Nat.le_trans (by first | exact HK.out.1 | exact (show Kept w _ (fun k_ => P0_ k_) from by repeat (first | (with_reducible first | exact HK.out | apply Kept.alloc | apply Kept.drewN | apply Kept.drew) | exact HK.out)).1) hk)), Kd.fresh' (Kd.R_lt (by (with_reducible repeat (first | apply Kd.R_alloc | apply Kd.R_drewN | apply Kd.R_drew)); exact HO182.out)) k_ hk⟩)); (case aO => exact (by (with_reducible repeat (first | apply Kd.R_alloc | apply Kd.R_drewN | apply Kd.R_drew)); exact HO_0.out)); (case aS => exact (below_size (by repeat (first | (with_reducible first | exact HB.out | apply below_alloc | apply pw_below_drewN | apply below_drew1) | exact HB.out)))); (case aL => have := LMc28.out; omega); intro v184 w31 ho hb hg hat; rw [← Ny183.out] at ho; have n0_ := Aside0.mk (Kd.R_after (ok := (fun k_ => (P0_ k_ ∨ w.heap.size ≤ k_))) (by (with_reducible repeat (first | apply Kd.R_alloc | apply Kd.R_drewN | apply Kd.R_drew)); exact Kd.R_mono HO182.out (fun _ hk => ⟨hk.1.1, hk.2⟩)) hg hat); have n1_ := Aside0.mk (hb); have n2_ := Aside0.mk (Kept.of_grown (S := (fun k_ => P0_ k_)) hg (by repeat (first | (with_reducible first | exact HK.out | apply Kept.alloc | apply Kept.drewN | apply Kept.drew) | exact HK.out)) (fun k_ e_ => (HO_0.out.1 k_ e_).1)); have n3_ := Aside0.mk (ho); clear HO182; clear HB; clear HK; clear HO_0; have HO182 := n0_; have HB := n1_; have HK := n2_; have HO185 := n3_; clear n0_ n1_ n2_ n3_; clear ho hb hg hat))
                go_ret
                exact ⟨_, by first | rfl | (simp [errW_none, errW_some] <;> rfl) | (simp [*, errW_none, errW_some] <;> rfl), by (with_reducible repeat (first | apply Kd.R_alloc | apply Kd.R_drewN | apply Kd.R_drew)); exact Kd.R_mono HO185.out (fun _ hk => hk.1), by repeat (first | (with_reducible first | exact HB.out | apply below_alloc | apply pw_below_drewN | apply below_drew1) | exact HB.out), by repeat (first | (with_reducible first | exact HK.out | apply Kept.alloc | apply Kept.drewN | apply Kept.drew) | exact HK.out)⟩
              · rw [if_neg c28] at H
                exact absurd H (by simp)

/-! ### spec_Pattern: function 14 -/
def spec_Pattern.l0 : Nat → List Int → List (S31) → Int → Int → Option (ByteArray)
  | 0, _, _, _, _ => none
  | k + 1, x3, x6, x7, x8 => if x8 < x7 then (if 0 ≤ x8 then (if x8 < (x6.length : Int) then (if (rd_T31 x6 x8).f0 = true then (if x3.length < 140737488355328 then (spec_Pattern.l0 k (x3 ++ [42]) x6 x7 (wrap64 (x8 + 1))) else (none)) else (if (rd_T31 x6 x8).f1 = true then (if x3.length < 140737488355328 then (spec_Pattern.l0 k (x3 ++ [63]) x6 x7 (wrap64 (x8 + 1))) else (none)) else (if ((rd_T31 x6 x8).f2) = 42 then ((some (([92, ((rd_T31 x6 x8).f2) % 256] : List Int) : List Int)).bind fun y194 => (if x3.length + y194.length < 140737488355328 then (spec_Pattern.l0 k (x3 ++ y194) x6 x7 (wrap64 (x8 + 1))) else (none))) else (if ((rd_T31 x6 x8).f2) = 63 then ((some (([92, ((rd_T31 x6 x8).f2) % 256] : List Int) : List Int)).bind fun y200 => (if x3.length + y200.length < 140737488355328 then (spec_Pattern.l0 k (x3 ++ y200) x6 x7 (wrap64 (x8 + 1))) else (none))) else (if ((rd_T31 x6 x8).f2) = 92 then ((some (([92, ((rd_T31 x6 x8).f2) % 256] : List Int) : List Int)).bind fun y206 => (if x3.length + y206.length < 140737488355328 then (spec_Pattern.l0 k (x3 ++ y206) x6 x7 (wrap64 (x8 + 1))) else (none))) else ((spec_appendUTF8.f k x3 ((rd_T31 x6 x8).f2)).bind fun t212 => (spec_Pattern.l0 k t212 x6 x7 (wrap64 (x8 + 1))))))))) else (none)) else (none)) else (some (strOfNums x3))
def spec_Pattern.f (k : Nat) (l0 : List (S31)) : Option (ByteArray) := spec_Pattern.l0 k ([] : List Int) l0 (l0.length : Int) 0
theorem spec_Pattern.mono_l : ∀ k, (∀ y0 y1 y2 y3, LeO (spec_Pattern.l0 k y0 y1 y2 y3) (spec_Pattern.l0 (k + 1) y0 y1 y2 y3))
  | 0 => fun _ _ _ _ r h => by simp [spec_Pattern.l0] at h
  | k + 1 => by
    have ih0 := spec_Pattern.mono_l k
    · intro y0 y1 y2 y3
      unfold spec_Pattern.l0
      repeat' first
      | (with_reducible exact ih0 _ _ _ _)
      | (with_reducible exact spec_appendUTF8.mono _ _ _)
      | (with_reducible exact LeO.refl _)
      | (with_reducible exact LeO.none _)
      | (with_reducible refine LeO.ite ?_ ?_)
      | (with_reducible refine LeO.bind ?_ (fun _ => ?_))
      | exact ih0 _ _ _ _
      | exact spec_appendUTF8.mono _ _ _
      | exact LeO.none _
      | refine LeO.ite ?_ ?_
      | refine LeO.bind ?_ (fun _ => ?_)
theorem spec_Pattern.mono : ∀ a0 k, LeO (spec_Pattern.f k a0) (spec_Pattern.f (k + 1) a0) := by
  intro a0 k
  have ih0 := spec_Pattern.mono_l k
  unfold spec_Pattern.f
  repeat' first
      | (with_reducible exact ih0 _ _ _ _)
      | (with_reducible exact spec_appendUTF8.mono _ _ _)
      | (with_reducible exact LeO.refl _)
      | (with_reducible exact LeO.none _)
      | (with_reducible refine LeO.ite ?_ ?_)
      | (with_reducible refine LeO.bind ?_ (fun _ => ?_))
      | exact ih0 _ _ _ _
      | exact spec_appendUTF8.mono _ _ _
      | exact LeO.none _
      | refine LeO.ite ?_ ?_
      | refine LeO.bind ?_ (fun _ => ?_)
set_option maxHeartbeats 8000000 in
set_option maxRecDepth 100000 in
theorem spec_Pattern.calls (k : Nat) (A0 : Option Addr) (c0 : Nat) (l0 : List (S31)) (r : ByteArray) (w : World) (hr0 : Kd.C k31 w A0 l0.length l0) (hc0 : l0.length ≤ c0) (h : spec_Pattern.f k l0 = some r) :
    Calls Tryd.prog 14 #[.slice A0 l0.length c0] w fun e w' => e = .returned (.string r) ∧ Below w.heap.size w w' := by
  have hu31 := Tryd.underlying31
  have HR0 := Aside0.mk hr0
  have HC0 := Aside0.mk hc0
  clear hr0 hc0
  have HB := Aside0.mk (Below.refl w.heap.size w)
  have H : (spec_Pattern.l0 k ([] : List Int) l0 (l0.length : Int) 0) = some r := h
  clear h
  have H' := Aside0.mk H
  clear H
  go_enter Tryd.func14, Tryd.ntmps14
  go_wp2
  (try simp only [Act.put, List.setIfInBounds_toArray, List.set_cons_succ, List.set_cons_zero])
  go_loopg [3, 8] k (fun kq v3 v8 w' => ∃ (x3_1 : List Int) (x8_1 : Int), v8 = .int .i64 x8_1 ∧ Aside0 (spec_Pattern.l0 kq x3_1 l0 (l0.length : Int) x8_1 = some r) ∧ Aside0 (kq ≤ k) ∧ Aside0 (Kd.R (Kd.int .u8) 5 w' w.heap.size (fun _ => True) v3 x3_1) ∧ Aside0 (Below w.heap.size w w'))
  case atStart => exact ⟨(([] : List Int)), (0), (by first | rfl | (simp; done) | (simp [*]; done)), H', ⟨Nat.le_refl _⟩, ⟨by first | exact Kd.R_nil _ _ _ _ _ | exact Kd.N_nil _ _ _ _ _ | exact Kd.V_nil _ _ _ _ _ | exact Kd.Q_nil _ _ _ _ _ | exact Kd.S_nil _ _ _ _ _⟩, ⟨by repeat (first | (with_reducible first | exact HB.out | apply below_alloc | apply pw_below_drewN | apply below_drew1) | exact HB.out)⟩⟩
  case round =>
    clear H'
    try clear c1
    obtain ⟨x3_1, x8_1, rfl, HA, HK1, HO_3, HB⟩ := hrel
    cases gk with
    | zero => exact absurd HA.out (by simp [spec_Pattern.l0])
    | succ k1 =>
      have H := HA.out
      clear HA
      simp only [spec_Pattern.l0] at H
      by_cases c2 : x8_1 < (l0.length : Int)
      · rw [if_pos c2] at H
        have c2b0 : decide (x8_1 < (l0.length : Int)) = true := decide_eq_true c2
        clear c2
        by_cases c3 : 0 ≤ x8_1
        · rw [if_pos c3] at H
          have c3b0 : decide (0 ≤ x8_1) = true := decide_eq_true c3
          clear c3
          by_cases c4 : x8_1 < (l0.length : Int)
          · rw [if_pos c4] at H
            have c4b0 : decide (x8_1 < (l0.length : Int)) = true := decide_eq_true c4
            clear c4
            obtain ⟨bq5, hbq5⟩ : ∃ b_ : Bool, b_ = ((rd_T31 l0 x8_1).f0) := ⟨_, rfl⟩
            replace H : (if bq5 = true then (if x3_1.length < 140737488355328 then (spec_Pattern.l0 k1 (x3_1 ++ [42]) l0 (l0.length : Int) (wrap64 (x8_1 + 1))) else (none)) else (if (rd_T31 l0 x8_1).f1 = true then (if x3_1.length < 140737488355328 then (spec_Pattern.l0 k1 (x3_1 ++ [63]) l0 (l0.length : Int) (wrap64 (x8_1 + 1))) else (none)) else (if ((rd_T31 l0 x8_1).f2) = 42 then ((some (([92, ((rd_T31 l0 x8_1).f2) % 256] : List Int) : List Int)).bind fun y194 => (if x3_1.length + y194.length < 140737488355328 then (spec_Pattern.l0 k1 (x3_1 ++ y194) l0 (l0.length : Int) (wrap64 (x8_1 + 1))) else (none))) else (if ((rd_T31 l0 x8_1).f2) = 63 then ((some (([92, ((rd_T31 l0 x8_1).f2) % 256] : List Int) : List Int)).bind fun y200 => (if x3_1.length + y200.length < 140737488355328 then (spec_Pattern.l0 k1 (x3_1 ++ y200) l0 (l0.length : Int) (wrap64 (x8_1 + 1))) else (none))) else (if ((rd_T31 l0 x8_1).f2) = 92 then ((some (([92, ((rd_T31 l0 x8_1).f2) % 256] : List Int) : List Int)).bind fun y206 => (if x3_1.length + y206.length < 140737488355328 then (spec_Pattern.l0 k1 (x3_1 ++ y206) l0 (l0.length : Int) (wrap64 (x8_1 + 1))) else (none))) else ((spec_appendUTF8.f k1 x3_1 ((rd_T31 l0 x8_1).f2)).bind fun t212 => (spec_Pattern.l0 k1 t212 l0 (l0.length : Int) (wrap64 (x8_1 + 1))))))))) = some r := by rw [← hbq5] at H; exact H
            have Nbq5 := Aside0.mk hbq5
            clear hbq5
            by_cases c6 : bq5 = true
            · subst c6
              have H1 : (if x3_1.length < 140737488355328 then (spec_Pattern.l0 k1 (x3_1 ++ [42]) l0 (l0.length : Int) (wrap64 (x8_1 + 1))) else (none)) = some r := by rw [if_pos rfl] at H; exact H
              clear H
              have H := H1
              clear H1
              by_cases c7 : x3_1.length < 140737488355328
              · rw [if_pos c7] at H
                have LMc7 := Aside0.mk c7
                clear c7
                obtain ⟨y188, hy188⟩ : ∃ y_ : List Int, y_ = (x3_1 ++ [42]) := ⟨_, rfl⟩
                replace H : (spec_Pattern.l0 k1 y188 l0 (l0.length : Int) (wrap64 (x8_1 + 1))) = some r := by first | (rw [hy188]; with_reducible exact H) | (have H2_ := (Option.bind_some _ _).symm.trans H; rw [hy188]; with_reducible exact H2_) | (have H2_ := (Option.bind_some _ _).symm.trans H; with_reducible exact H2_) | with_reducible exact H | (rw [hy188]; exact H) | exact H
                have Ny188 := Aside0.mk hy188
                clear hy188
                have H' := Aside0.mk H
                clear H
                have p186 : 0 ≤ (x8_1 : Int) := of_decide_eq_true (by first | (with_reducible assumption) | assumption)
                have q186 : x8_1 < (l0.length : Int) := of_decide_eq_true (by first | (with_reducible assumption) | assumption)
                obtain ⟨ad186, e186, hx186_0, hx186_1, hx186_2⟩ := at_T31 HR0.out x8_1 p186 q186
                (try rw [← Nbq5.out] at hx186_0)
                (try rw [← Nbq5.out] at hx186_1)
                cases e186
                replace hx186_0 := (HB.out.cell (World.block_lt_of_cell? w _ hx186_0)).trans hx186_0
                replace hx186_1 := (HB.out.cell (World.block_lt_of_cell? w _ hx186_1)).trans hx186_1
                replace hx186_2 := (HB.out.cell (World.block_lt_of_cell? w _ hx186_2)).trans hx186_2
                replace p186 := eq_true p186
                replace q186 := eq_true q186
                go_wp2_with (first | ((with_reducible refine gate_dst (N := 5) rfl ?_); refine box_event ?hg (N := 5) ?hd (cs := #[.bool false, .bool false, .int .i64 0]) (t := 31) ?hr ?_; (case hd => rfl); (case hg => rfl); (case hr => first | (go_simp; done) | (go_simp; rfl)); intro gb187 hg w8 hbox hb; have n0_ := Aside0.mk (Kd.R_below (by (with_reducible repeat (first | apply Kd.R_alloc | apply Kd.R_drewN | apply Kd.R_drew)); exact HO_3.out) hb); have n1_ := Aside0.mk (below_step (by repeat (first | (with_reducible first | exact HB.out | apply below_alloc | apply pw_below_drewN | apply below_drew1) | exact HB.out)) hb); have n2_ := Aside0.mk (hbox); have n3_ := Aside0.mk ((by rw [hg]; exact (below_size (by repeat (first | (with_reducible first | exact HB.out | apply below_alloc | apply pw_below_drewN | apply below_drew1) | exact HB.out))) : w.heap.size ≤ gb187)); have n4_ := Aside0.mk ((by rw [hg]; exact (below_size (by repeat (first | (with_reducible first | exact HB.out | apply below_alloc | apply pw_below_drewN | apply below_drew1) | exact HB.out))) : w.heap.size ≤ gb187)); clear HO_3; clear HB; have HO_3 := n0_; have HB := n1_; have BK187 := n2_; have GW187 := n3_; have GE187 := n4_; clear n0_ n1_ n2_ n3_ n4_; clear hb hbox hg; have hcz9_0 : w8.cell? ⟨gb187, 0, none⟩ = some (.bool false) := (blk_cell BK187.out 0).trans rfl; have hcz9_1 : w8.cell? ⟨gb187, 1, none⟩ = some (.bool false) := (blk_cell BK187.out 1).trans rfl; have hcz9_2 : w8.cell? ⟨gb187, 2, none⟩ = some (.int .i64 0) := (blk_cell BK187.out 2).trans rfl; have hfz9_0 := blk_frozen BK187.out 0; have hfz9_1 := blk_frozen BK187.out 1; have hfz9_2 := blk_frozen BK187.out 2) | ((with_reducible refine gate_builtin (b := .append) (xs := #[.tmp 19, .tmp 20]) rfl ?_); at_builtin; refine Kd.R_append (Kd.int .u8) (w0 := w) w.heap.size rfl (.tmp 19) (.tmp 20) 22 5 (.int .u8 0) 1 rfl Tryd.underlying22 info5 rfl (by decide) (by omega) u3 x3_1 42 [.int .u8 42] (fun _ => True) (fun _ => False) rfl (by first | (go_simp; done) | (go_simp; rfl)) ?aP (fun _ hk => hk.elim) ?aF ?aO ?aB ?aS ?aL ?_; (case aP => exact rfl); (case aB => exact (by repeat (first | (with_reducible first | exact HB.out | apply below_alloc | apply pw_below_drewN | apply below_drew1 | refine below_set ?_ GE187.out) | exact HB.out))); (case aF => exact (fun _ _ => trivial)); (case aO => exact (by (with_reducible repeat (first | apply Kd.R_alloc | apply Kd.R_drewN | apply Kd.R_drew)); exact Kd.R_mono (Kd.R_far (p := ⟨gb187, 2, none⟩) (Kd.R_far (p := ⟨gb187, 1, none⟩) (Kd.R_far (p := ⟨gb187, 0, none⟩) (Kd.R_types HO_3.out BK187.out (by decide)) (fun _ hk => hk.2) (.bool true)) (fun _ hk => hk.2) (.bool ((rd_T31 l0 x8_1).f1))) (fun _ hk => hk.2) (.int .i64 ((rd_T31 l0 x8_1).f2))) (fun _ hk => trivial))); (case aS => exact (below_size (by repeat (first | (with_reducible first | exact HB.out | apply below_alloc | apply pw_below_drewN | apply below_drew1 | refine below_set ?_ GE187.out) | exact HB.out)))); (case aL => have := LMc7.out; omega); intro v189 w10 ho hb hg hat; rw [← Ny188.out] at ho; have n0_ := Aside0.mk (blk_grown (g := gb187) (o := .cells #[.bool true, .bool ((rd_T31 l0 x8_1).f1), .int .i64 ((rd_T31 l0 x8_1).f2)] 31 (0, 0)) (by (with_reducible repeat (first | refine blk_drewN ?_ _ | refine blk_drew ?_ | refine blk_alloc ?_ _)); refine blk_put (cs := #[.bool true, .bool ((rd_T31 l0 x8_1).f1), .int .i64 0]) ?_ 2 _ rfl; (with_reducible repeat (first | refine blk_drewN ?_ _ | refine blk_drew ?_ | refine blk_alloc ?_ _)); refine blk_put (cs := #[.bool true, .bool false, .int .i64 0]) ?_ 1 _ rfl; (with_reducible repeat (first | refine blk_drewN ?_ _ | refine blk_drew ?_ | refine blk_alloc ?_ _)); refine blk_put (cs := #[.bool false, .bool false, .int .i64 0]) ?_ 0 _ rfl; (with_reducible repeat (first | refine blk_drewN ?_ _ | refine blk_drew ?_ | refine blk_alloc ?_ _)); exact BK187.out) hg (Kd.R_ne HO_3.out BK187.out (by decide))); have n1_ := Aside0.mk (hb); have n2_ := Aside0.mk (ho); clear BK187; clear HB; clear HO_3; have BK187 := n0_; have HB := n1_; have HO190 := n2_; clear n0_ n1_ n2_; clear ho hb hg hat))
                go_roundg k1
                case measure => have := HK1.out; omega
                case rel => exact ⟨(y188), (wrap64 (x8_1 + 1)), (by first | rfl | (simp; done) | (simp [*]; done)), H', ⟨by have := HK1.out; omega⟩, ⟨by (with_reducible repeat (first | apply Kd.R_alloc | apply Kd.R_drewN | apply Kd.R_drew)); exact HO190.out⟩, ⟨by repeat (first | (with_reducible first | exact HB.out | apply below_alloc | apply pw_below_drewN | apply below_drew1 | refine below_set ?_ GE187.out) | exact HB.out)⟩⟩
              · rw [if_neg c7] at H
                exact absurd H (by simp)
            · replace c6 := Bool.eq_false_iff.mpr c6
              subst c6
              have H1 : (if (rd_T31 l0 x8_1).f1 = true then (if x3_1.length < 140737488355328 then (spec_Pattern.l0 k1 (x3_1 ++ [63]) l0 (l0.length : Int) (wrap64 (x8_1 + 1))) else (none)) else (if ((rd_T31 l0 x8_1).f2) = 42 then ((some (([92, ((rd_T31 l0 x8_1).f2) % 256] : List Int) : List Int)).bind fun y194 => (if x3_1.length + y194.length < 140737488355328 then (spec_Pattern.l0 k1 (x3_1 ++ y194) l0 (l0.length : Int) (wrap64 (x8_1 + 1))) else (none))) else (if ((rd_T31 l0 x8_1).f2) = 63 then ((some (([92, ((rd_T31 l0 x8_1).f2) % 256] : List Int) : List Int)).bind fun y200 => (if x3_1.length + y200.length < 140737488355328 then (spec_Pattern.l0 k1 (x3_1 ++ y200) l0 (l0.length : Int) (wrap64 (x8_1 + 1))) else (none))) else (if ((rd_T31 l0 x8_1).f2) = 92 then ((some (([92, ((rd_T31 l0 x8_1).f2) % 256] : List Int) : List Int)).bind fun y206 => (if x3_1.length + y206.length < 140737488355328 then (spec_Pattern.l0 k1 (x3_1 ++ y206) l0 (l0.length : Int) (wrap64 (x8_1 + 1))) else (none))) else ((spec_appendUTF8.f k1 x3_1 ((rd_T31 l0 x8_1).f2)).bind fun t212 => (spec_Pattern.l0 k1 t212 l0 (l0.length : Int) (wrap64 (x8_1 + 1)))))))) = some r := by rw [if_neg (show ¬ (false = true) by decide)] at H; exact H
              clear H
              have H := H1
              clear H1
              obtain ⟨bq11, hbq11⟩ : ∃ b_ : Bool, b_ = ((rd_T31 l0 x8_1).f1) := ⟨_, rfl⟩
              replace H : (if bq11 = true then (if x3_1.length < 140737488355328 then (spec_Pattern.l0 k1 (x3_1 ++ [63]) l0 (l0.length : Int) (wrap64 (x8_1 + 1))) else (none)) else (if ((rd_T31 l0 x8_1).f2) = 42 then ((some (([92, ((rd_T31 l0 x8_1).f2) % 256] : List Int) : List Int)).bind fun y194 => (if x3_1.length + y194.length < 140737488355328 then (spec_Pattern.l0 k1 (x3_1 ++ y194) l0 (l0.length : Int) (wrap64 (x8_1 + 1))) else (none))) else (if ((rd_T31 l0 x8_1).f2) = 63 then ((some (([92, ((rd_T31 l0 x8_1).f2) % 256] : List Int) : List Int)).bind fun y200 => (if x3_1.length + y200.length < 140737488355328 then (spec_Pattern.l0 k1 (x3_1 ++ y200) l0 (l0.length : Int) (wrap64 (x8_1 + 1))) else (none))) else (if ((rd_T31 l0 x8_1).f2) = 92 then ((some (([92, ((rd_T31 l0 x8_1).f2) % 256] : List Int) : List Int)).bind fun y206 => (if x3_1.length + y206.length < 140737488355328 then (spec_Pattern.l0 k1 (x3_1 ++ y206) l0 (l0.length : Int) (wrap64 (x8_1 + 1))) else (none))) else ((spec_appendUTF8.f k1 x3_1 ((rd_T31 l0 x8_1).f2)).bind fun t212 => (spec_Pattern.l0 k1 t212 l0 (l0.length : Int) (wrap64 (x8_1 + 1)))))))) = some r := by rw [← hbq11] at H; exact H
              have Nbq11 := Aside0.mk hbq11
              clear hbq11
              by_cases c12 : bq11 = true
              · subst c12
                have H1 : (if x3_1.length < 140737488355328 then (spec_Pattern.l0 k1 (x3_1 ++ [63]) l0 (l0.length : Int) (wrap64 (x8_1 + 1))) else (none)) = some r := by rw [if_pos rfl] at H; exact H
                clear H
                have H := H1
                clear H1
                by_cases c13 : x3_1.length < 140737488355328
                · rw [if_pos c13] at H
                  have LMc13 := Aside0.mk c13
                  clear c13
                  obtain ⟨y191, hy191⟩ : ∃ y_ : List Int, y_ = (x3_1 ++ [63]) := ⟨_, rfl⟩
                  replace H : (spec_Pattern.l0 k1 y191 l0 (l0.length : Int) (wrap64 (x8_1 + 1))) = some r := by first | (rw [hy191]; with_reducible exact H) | (have H2_ := (Option.bind_some _ _).symm.trans H; rw [hy191]; with_reducible exact H2_) | (have H2_ := (Option.bind_some _ _).symm.trans H; with_reducible exact H2_) | with_reducible exact H | (rw [hy191]; exact H) | exact H
                  have Ny191 := Aside0.mk hy191
                  clear hy191
                  have H' := Aside0.mk H
                  clear H
                  have p186 : 0 ≤ (x8_1 : Int) := of_decide_eq_true (by first | (with_reducible assumption) | assumption)
                  have q186 : x8_1 < (l0.length : Int) := of_decide_eq_true (by first | (with_reducible assumption) | assumption)
                  obtain ⟨ad186, e186, hx186_0, hx186_1, hx186_2⟩ := at_T31 HR0.out x8_1 p186 q186
                  (try rw [← Nbq5.out] at hx186_0)
                  (try rw [← Nbq11.out] at hx186_0)
                  (try rw [← Nbq5.out] at hx186_1)
                  (try rw [← Nbq11.out] at hx186_1)
                  cases e186
                  replace hx186_0 := (HB.out.cell (World.block_lt_of_cell? w _ hx186_0)).trans hx186_0
                  replace hx186_1 := (HB.out.cell (World.block_lt_of_cell? w _ hx186_1)).trans hx186_1
                  replace hx186_2 := (HB.out.cell (World.block_lt_of_cell? w _ hx186_2)).trans hx186_2
                  replace p186 := eq_true p186
                  replace q186 := eq_true q186
                  go_wp2_with (first | ((with_reducible refine gate_dst (N := 5) rfl ?_); refine box_event ?hg (N := 5) ?hd (cs := #[.bool false, .bool false, .int .i64 0]) (t := 31) ?hr ?_; (case hd => rfl); (case hg => rfl); (case hr => first | (go_simp; done) | (go_simp; rfl)); intro gb187 hg w14 hbox hb; have n0_ := Aside0.mk (Kd.R_below (by (with_reducible repeat (first | apply Kd.R_alloc | apply Kd.R_drewN | apply Kd.R_drew)); exact HO_3.out) hb); have n1_ := Aside0.mk (below_step (by repeat (first | (with_reducible first | exact HB.out | apply below_alloc | apply pw_below_drewN | apply below_drew1) | exact HB.out)) hb); have n2_ := Aside0.mk (hbox); have n3_ := Aside0.mk ((by rw [hg]; exact (below_size (by repeat (first | (with_reducible first | exact HB.out | apply below_alloc | apply pw_below_drewN | apply below_drew1) | exact HB.out))) : w.heap.size ≤ gb187)); have n4_ := Aside0.mk ((by rw [hg]; exact (below_size (by repeat (first | (with_reducible first | exact HB.out | apply below_alloc | apply pw_below_drewN | apply below_drew1) | exact HB.out))) : w.heap.size ≤ gb187)); clear HO_3; clear HB; have HO_3 := n0_; have HB := n1_; have BK187 := n2_; have GW187 := n3_; have GE187 := n4_; clear n0_ n1_ n2_ n3_ n4_; clear hb hbox hg; have hcz15_0 : w14.cell? ⟨gb187, 0, none⟩ = some (.bool false) := (blk_cell BK187.out 0).trans rfl; have hcz15_1 : w14.cell? ⟨gb187, 1, none⟩ = some (.bool false) := (blk_cell BK187.out 1).trans rfl; have hcz15_2 : w14.cell? ⟨gb187, 2, none⟩ = some (.int .i64 0) := (blk_cell BK187.out 2).trans rfl; have hfz15_0 := blk_frozen BK187.out 0; have hfz15_1 := blk_frozen BK187.out 1; have hfz15_2 := blk_frozen BK187.out 2) | ((with_reducible refine gate_builtin (b := .append) (xs := #[.tmp 25, .tmp 26]) rfl ?_); at_builtin; refine Kd.R_append (Kd.int .u8) (w0 := w) w.heap.size rfl (.tmp 25) (.tmp 26) 22 5 (.int .u8 0) 1 rfl Tryd.underlying22 info5 rfl (by decide) (by omega) u3 x3_1 63 [.int .u8 63] (fun _ => True) (fun _ => False) rfl (by first | (go_simp; done) | (go_simp; rfl)) ?aP (fun _ hk => hk.elim) ?aF ?aO ?aB ?aS ?aL ?_; (case aP => exact rfl); (case aB => exact (by repeat (first | (with_reducible first | exact HB.out | apply below_alloc | apply pw_below_drewN | apply below_drew1 | refine below_set ?_ GE187.out) | exact HB.out))); (case aF => exact (fun _ _ => trivial)); (case aO => exact (by (with_reducible repeat (first | apply Kd.R_alloc | apply Kd.R_drewN | apply Kd.R_drew)); exact Kd.R_mono (Kd.R_far (p := ⟨gb187, 2, none⟩) (Kd.R_far (p := ⟨gb187, 1, none⟩) (Kd.R_far (p := ⟨gb187, 0, none⟩) (Kd.R_types HO_3.out BK187.out (by decide)) (fun _ hk => hk.2) (.bool false)) (fun _ hk => hk.2) (.bool true)) (fun _ hk => hk.2) (.int .i64 ((rd_T31 l0 x8_1).f2))) (fun _ hk => trivial))); (case aS => exact (below_size (by repeat (first | (with_reducible first | exact HB.out | apply below_alloc | apply pw_below_drewN | apply below_drew1 | refine below_set ?_ GE187.out) | exact HB.out)))); (case aL => have := LMc13.out; omega); intro v192 w16 ho hb hg hat; rw [← Ny191.out] at ho; have n0_ := Aside0.mk (blk_grown (g := gb187) (o := .cells #[.bool false, .bool true, .int .i64 ((rd_T31 l0 x8_1).f2)] 31 (0, 0)) (by (with_reducible repeat (first | refine blk_drewN ?_ _ | refine blk_drew ?_ | refine blk_alloc ?_ _)); refine blk_put (cs := #[.bool false, .bool true, .int .i64 0]) ?_ 2 _ rfl; (with_reducible repeat (first | refine blk_drewN ?_ _ | refine blk_drew ?_ | refine blk_alloc ?_ _)); refine blk_put (cs := #[.bool false, .bool false, .int .i64 0]) ?_ 1 _ rfl; (with_reducible repeat (first | refine blk_drewN ?_ _ | refine blk_drew ?_ | refine blk_alloc ?_ _)); refine blk_put (cs := #[.bool false, .bool false, .int .i64 0]) ?_ 0 _ rfl; (with_reducible repeat (first | refine blk_drewN ?_ _ | refine blk_drew ?_ | refine blk_alloc ?_ _)); exact BK187.out) hg (Kd.R_ne HO_3.out BK187.out (by decide))); have n1_ := Aside0.mk (hb); have n2_ := Aside0.mk (ho); clear BK187; clear HB; clear HO_3; have BK187 := n0_; have HB := n1_; have HO193 := n2_; clear n0_ n1_ n2_; clear ho hb hg hat))
                  go_roundg k1
                  case measure => have := HK1.out; omega
                  case rel => exact ⟨(y191), (wrap64 (x8_1 + 1)), (by first | rfl | (simp; done) | (simp [*]; done)), H', ⟨by have := HK1.out; omega⟩, ⟨by (with_reducible repeat (first | apply Kd.R_alloc | apply Kd.R_drewN | apply Kd.R_drew)); exact HO193.out⟩, ⟨by repeat (first | (with_reducible first | exact HB.out | apply below_alloc | apply pw_below_drewN | apply below_drew1 | refine below_set ?_ GE187.out) | exact HB.out)⟩⟩
                · rw [if_neg c13] at H
                  exact absurd H (by simp)
              · replace c12 := Bool.eq_false_iff.mpr c12
                subst c12
                have H1 : (if ((rd_T31 l0 x8_1).f2) = 42 then ((some (([92, ((rd_T31 l0 x8_1).f2) % 256] : List Int) : List Int)).bind fun y194 => (if x3_1.length + y194.length < 140737488355328 then (spec_Pattern.l0 k1 (x3_1 ++ y194) l0 (l0.length : Int) (wrap64 (x8_1 + 1))) else (none))) else (if ((rd_T31 l0 x8_1).f2) = 63 then ((some (([92, ((rd_T31 l0 x8_1).f2) % 256] : List Int) : List Int)).bind fun y200 => (if x3_1.length + y200.length < 140737488355328 then (spec_Pattern.l0 k1 (x3_1 ++ y200) l0 (l0.length : Int) (wrap64 (x8_1 + 1))) else (none))) else (if ((rd_T31 l0 x8_1).f2) = 92 then ((some (([92, ((rd_T31 l0 x8_1).f2) % 256] : List Int) : List Int)).bind fun y206 => (if x3_1.length + y206.length < 140737488355328 then (spec_Pattern.l0 k1 (x3_1 ++ y206) l0 (l0.length : Int) (wrap64 (x8_1 + 1))) else (none))) else ((spec_appendUTF8.f k1 x3_1 ((rd_T31 l0 x8_1).f2)).bind fun t212 => (spec_Pattern.l0 k1 t212 l0 (l0.length : Int) (wrap64 (x8_1 + 1))))))) = some r := by rw [if_neg (show ¬ (false = true) by decide)] at H; exact H
                clear H
                have H := H1
                clear H1
                by_cases c17 : ((rd_T31 l0 x8_1).f2) = 42
                · rw [if_pos c17] at H
                  have c17b0 : (((rd_T31 l0 x8_1).f2) == 42) = true := beq_iff_eq.mpr c17
                  have c17b1 : (((rd_T31 l0 x8_1).f2) != 42) = false := bne_eq_false_iff_eq.mpr c17
                  clear c17
                  obtain ⟨y194, hy194⟩ : ∃ y_ : List Int, y_ = (([92, ((rd_T31 l0 x8_1).f2) % 256] : List Int)) := ⟨_, rfl⟩
                  replace H : (if x3_1.length + y194.length < 140737488355328 then (spec_Pattern.l0 k1 (x3_1 ++ y194) l0 (l0.length : Int) (wrap64 (x8_1 + 1))) else (none)) = some r := by first | (rw [hy194]; with_reducible exact H) | (have H2_ := (Option.bind_some _ _).symm.trans H; rw [hy194]; with_reducible exact H2_) | (have H2_ := (Option.bind_some _ _).symm.trans H; with_reducible exact H2_) | with_reducible exact H | (rw [hy194]; exact H) | exact H
                  have Ny194 := Aside0.mk hy194
                  clear hy194
                  by_cases c18 : x3_1.length + y194.length < 140737488355328
                  · rw [if_pos c18] at H
                    have LMc18 := Aside0.mk c18
                    clear c18
                    obtain ⟨y197, hy197⟩ : ∃ y_ : List Int, y_ = (x3_1 ++ y194) := ⟨_, rfl⟩
                    replace H : (spec_Pattern.l0 k1 y197 l0 (l0.length : Int) (wrap64 (x8_1 + 1))) = some r := by first | (rw [hy197]; with_reducible exact H) | (have H2_ := (Option.bind_some _ _).symm.trans H; rw [hy197]; with_reducible exact H2_) | (have H2_ := (Option.bind_some _ _).symm.trans H; with_reducible exact H2_) | with_reducible exact H | (rw [hy197]; exact H) | exact H
                    have Ny197 := Aside0.mk hy197
                    clear hy197
                    have H' := Aside0.mk H
                    clear H
                    have p186 : 0 ≤ (x8_1 : Int) := of_decide_eq_true (by first | (with_reducible assumption) | assumption)
                    have q186 : x8_1 < (l0.length : Int) := of_decide_eq_true (by first | (with_reducible assumption) | assumption)
                    obtain ⟨ad186, e186, hx186_0, hx186_1, hx186_2⟩ := at_T31 HR0.out x8_1 p186 q186
                    (try rw [← Nbq5.out] at hx186_0)
                    (try rw [← Nbq11.out] at hx186_0)
                    (try rw [← Nbq5.out] at hx186_1)
                    (try rw [← Nbq11.out] at hx186_1)
                    cases e186
                    replace hx186_0 := (HB.out.cell (World.block_lt_of_cell? w _ hx186_0)).trans hx186_0
                    replace hx186_1 := (HB.out.cell (World.block_lt_of_cell? w _ hx186_1)).trans hx186_1
                    replace hx186_2 := (HB.out.cell (World.block_lt_of_cell? w _ hx186_2)).trans hx186_2
                    replace p186 := eq_true p186
                    replace q186 := eq_true q186
                    go_wp2_with (first | ((with_reducible refine gate_dst (N := 5) rfl ?_); refine box_event ?hg (N := 5) ?hd (cs := #[.bool false, .bool false, .int .i64 0]) (t := 31) ?hr ?_; (case hd => rfl); (case hg => rfl); (case hr => first | (go_simp; done) | (go_simp; rfl)); intro gb187 hg w19 hbox hb; have n0_ := Aside0.mk (Kd.R_below (by (with_reducible repeat (first | apply Kd.R_alloc | apply Kd.R_drewN | apply Kd.R_drew)); exact HO_3.out) hb); have n1_ := Aside0.mk (below_step (by repeat (first | (with_reducible first | exact HB.out | apply below_alloc | apply pw_below_drewN | apply below_drew1) | exact HB.out)) hb); have n2_ := Aside0.mk (hbox); have n3_ := Aside0.mk ((by rw [hg]; exact (below_size (by repeat (first | (with_reducible first | exact HB.out | apply below_alloc | apply pw_below_drewN | apply below_drew1) | exact HB.out))) : w.heap.size ≤ gb187)); have n4_ := Aside0.mk ((by rw [hg]; exact (below_size (by repeat (first | (with_reducible first | exact HB.out | apply below_alloc | apply pw_below_drewN | apply below_drew1) | exact HB.out))) : w.heap.size ≤ gb187)); clear HO_3; clear HB; have HO_3 := n0_; have HB := n1_; have BK187 := n2_; have GW187 := n3_; have GE187 := n4_; clear n0_ n1_ n2_ n3_ n4_; clear hb hbox hg; have hcz20_0 : w19.cell? ⟨gb187, 0, none⟩ = some (.bool false) := (blk_cell BK187.out 0).trans rfl; have hcz20_1 : w19.cell? ⟨gb187, 1, none⟩ = some (.bool false) := (blk_cell BK187.out 1).trans rfl; have hcz20_2 : w19.cell? ⟨gb187, 2, none⟩ = some (.int .i64 0) := (blk_cell BK187.out 2).trans rfl; have hfz20_0 := blk_frozen BK187.out 0; have hfz20_1 := blk_frozen BK187.out 1; have hfz20_2 := blk_frozen BK187.out 2) | ((with_reducible refine gate_dst (N := 46) rfl ?_); refine Kd.R_lit (Kd.int .u8) _ 5 ?hg (N := 46) ?hd (xs := ([92, ((rd_T31 l0 x8_1).f2) % 256] : List Int)) (inner := [.int .u8 92, .int .u8 (((rd_T31 l0 x8_1).f2) % 256)]) (ok := fun _ => True) (okp := fun _ => True) ?hr ?hp (fun _ hk => hk) trivial (Below.refl _ _) (Nat.le_refl _) (by simp) ?_; (case hd => rfl); (case hg => rfl); (case hr => first | (go_simp; done) | (go_simp; rfl)); (case hp => exact (Reps.one (show Kd.M (Kd.int .u8) _ _ _ 92 [.int .u8 92] from rfl) (Reps.one (show Kd.M (Kd.int .u8) _ _ _ (((rd_T31 l0 x8_1).f2) % 256) [.int .u8 (((rd_T31 l0 x8_1).f2) % 256)] from rfl) (Reps.none _ _)))); intro v195 w21 ho22 hb hg_ hnew_; clear hg_ hnew_; (first | rw [← Ny194.out] at ho22 | (simp only [Int.reduceToNat] at ho22; rw [← Ny194.out] at ho22)); have n0_ := Aside0.mk (Kd.R_elder' (by (with_reducible repeat (first | apply Kd.R_alloc | apply Kd.R_drewN | apply Kd.R_drew)); exact (Kd.R_mono (Kd.R_far (p := ⟨gb187, 2, none⟩) (Kd.R_far (p := ⟨gb187, 1, none⟩) (Kd.R_far (p := ⟨gb187, 0, none⟩) (Kd.R_types HO_3.out BK187.out (by decide)) (fun _ hk => hk.2) (.bool false)) (fun _ hk => hk.2) (.bool false)) (fun _ hk => hk.2) (.int .i64 ((rd_T31 l0 x8_1).f2))) (fun _ h_ => h_.1))) (Kd.R_base ho22) hb); have n1_ := Aside0.mk (Kd.R_lower (Kd.R_new' ho22 (Kd.R_lt (by (with_reducible repeat (first | apply Kd.R_alloc | apply Kd.R_drewN | apply Kd.R_drew)); exact (Kd.R_mono (Kd.R_far (p := ⟨gb187, 2, none⟩) (Kd.R_far (p := ⟨gb187, 1, none⟩) (Kd.R_far (p := ⟨gb187, 0, none⟩) (Kd.R_types HO_3.out BK187.out (by decide)) (fun _ hk => hk.2) (.bool false)) (fun _ hk => hk.2) (.bool false)) (fun _ hk => hk.2) (.int .i64 ((rd_T31 l0 x8_1).f2))) (fun _ h_ => h_.1))))) (below_size (by repeat (first | (with_reducible first | exact HB.out | apply below_alloc | apply pw_below_drewN | apply below_drew1 | refine below_set ?_ GE187.out) | exact HB.out)))); have n2_ := Aside0.mk (blk_below (g := gb187) (o := .cells #[.bool false, .bool false, .int .i64 ((rd_T31 l0 x8_1).f2)] 31 (0, 0)) (by (with_reducible repeat (first | refine blk_drewN ?_ _ | refine blk_drew ?_ | refine blk_alloc ?_ _)); refine blk_put (cs := #[.bool false, .bool false, .int .i64 0]) ?_ 2 _ rfl; (with_reducible repeat (first | refine blk_drewN ?_ _ | refine blk_drew ?_ | refine blk_alloc ?_ _)); refine blk_put (cs := #[.bool false, .bool false, .int .i64 0]) ?_ 1 _ rfl; (with_reducible repeat (first | refine blk_drewN ?_ _ | refine blk_drew ?_ | refine blk_alloc ?_ _)); refine blk_put (cs := #[.bool false, .bool false, .int .i64 0]) ?_ 0 _ rfl; (with_reducible repeat (first | refine blk_drewN ?_ _ | refine blk_drew ?_ | refine blk_alloc ?_ _)); exact BK187.out) hb); have n3_ := Aside0.mk (below_step (by repeat (first | (with_reducible first | exact HB.out | apply below_alloc | apply pw_below_drewN | apply below_drew1 | refine below_set ?_ GE187.out) | exact HB.out)) hb); clear HO_3; clear BK187; clear HB; have HO_3 := n0_; have HO196 := n1_; have BK187 := n2_; have HB := n3_; clear n0_ n1_ n2_ n3_; clear hb ho22; obtain ⟨Ao24, co24, eo24⟩ := Kd.R_slice HO196.out; subst eo24) | ((with_reducible refine gate_builtin (b := .append) (xs := #[.tmp 42, .tmp 46]) rfl ?_); at_builtin; refine Kd.R_append_rows (Kd.int .u8) (w0 := w) w.heap.size rfl (.tmp 42) (.tmp 46) 22 5 (.int .u8 0) 1 rfl Tryd.underlying22 info5 rfl (by decide) (by omega) u3 x3_1 y194 _ _ _ (fun k_ => some k_ ≠ (.slice Ao24 y194.length co24 : Value).ownBlock) (fun _ => False) rfl rfl ?aO ?aR (fun _ _ h => h) (fun _ h => h.elim) ?aF ?aB ?aS ?aL ?_; (case aR => repeat (first | exact (Kd.R_reads' HO196.out).2.2 | (with_reducible refine Kd.C_alloc ?_ _) | (with_reducible refine Kd.C_drewN ?_ _) | (with_reducible refine Kd.C_drew ?_))); (case aB => exact (by repeat (first | (with_reducible first | exact HB.out | apply below_alloc | apply pw_below_drewN | apply below_drew1 | refine below_set ?_ GE187.out) | exact HB.out))); (case aF => exact (fun k_ hk => Kd.fresh' (Kd.R_lt (by (with_reducible repeat (first | apply Kd.R_alloc | apply Kd.R_drewN | apply Kd.R_drew)); exact HO196.out)) k_ hk)); (case aO => exact (by (with_reducible repeat (first | apply Kd.R_alloc | apply Kd.R_drewN | apply Kd.R_drew)); exact Kd.R_mono HO_3.out (fun _ hk => hk.2))); (case aS => exact (below_size (by repeat (first | (with_reducible first | exact HB.out | apply below_alloc | apply pw_below_drewN | apply below_drew1 | refine below_set ?_ GE187.out) | exact HB.out)))); (case aL => have := LMc18.out; omega); intro v198 w23 ho hb hg hat; rw [← Ny197.out] at ho; have n0_ := Aside0.mk (blk_grown (g := gb187) (o := .cells #[.bool false, .bool false, .int .i64 ((rd_T31 l0 x8_1).f2)] 31 (0, 0)) (by (with_reducible repeat (first | refine blk_drewN ?_ _ | refine blk_drew ?_ | refine blk_alloc ?_ _)); exact BK187.out) hg (Kd.R_ne HO_3.out BK187.out (by decide))); have n1_ := Aside0.mk (Kd.R_after (ok := (fun _ => True)) (by (with_reducible repeat (first | apply Kd.R_alloc | apply Kd.R_drewN | apply Kd.R_drew)); exact HO196.out) hg hat); have n2_ := Aside0.mk (hb); have n3_ := Aside0.mk (ho); clear BK187; clear HO196; clear HB; clear HO_3; have BK187 := n0_; have HO196 := n1_; have HB := n2_; have HO199 := n3_; clear n0_ n1_ n2_ n3_; clear ho hb hg hat))
                    go_roundg k1
                    case measure => have := HK1.out; omega
                    case rel => exact ⟨(y197), (wrap64 (x8_1 + 1)), (by first | rfl | (simp; done) | (simp [*]; done)), H', ⟨by have := HK1.out; omega⟩, ⟨by (with_reducible repeat (first | apply Kd.R_alloc | apply Kd.R_drewN | apply Kd.R_drew)); exact Kd.R_mono HO199.out (fun _ hk => trivial)⟩, ⟨by repeat (first | (with_reducible first | exact HB.out | apply below_alloc | apply pw_below_drewN | apply below_drew1 | refine below_set ?_ GE187.out) | exact HB.out)⟩⟩
                  · rw [if_neg c18] at H
                    exact absurd H (by simp)
                · rw [if_neg c17] at H
                  have c17b0 : (((rd_T31 l0 x8_1).f2) == 42) = false := beq_eq_false_iff_ne.mpr c17
                  have c17b1 : (((rd_T31 l0 x8_1).f2) != 42) = true := bne_iff_ne.mpr c17
                  by_cases c25 : ((rd_T31 l0 x8_1).f2) = 63
                  · rw [if_pos c25] at H
                    have c25b0 : (((rd_T31 l0 x8_1).f2) == 63) = true := beq_iff_eq.mpr c25
                    have c25b1 : (((rd_T31 l0 x8_1).f2) != 63) = false := bne_eq_false_iff_eq.mpr c25
                    clear c25
                    obtain ⟨y200, hy200⟩ : ∃ y_ : List Int, y_ = (([92, ((rd_T31 l0 x8_1).f2) % 256] : List Int)) := ⟨_, rfl⟩
                    replace H : (if x3_1.length + y200.length < 140737488355328 then (spec_Pattern.l0 k1 (x3_1 ++ y200) l0 (l0.length : Int) (wrap64 (x8_1 + 1))) else (none)) = some r := by first | (rw [hy200]; with_reducible exact H) | (have H2_ := (Option.bind_some _ _).symm.trans H; rw [hy200]; with_reducible exact H2_) | (have H2_ := (Option.bind_some _ _).symm.trans H; with_reducible exact H2_) | with_reducible exact H | (rw [hy200]; exact H) | exact H
                    have Ny200 := Aside0.mk hy200
                    clear hy200
                    by_cases c26 : x3_1.length + y200.length < 140737488355328
                    · rw [if_pos c26] at H
                      have LMc26 := Aside0.mk c26
                      clear c26
                      obtain ⟨y203, hy203⟩ : ∃ y_ : List Int, y_ = (x3_1 ++ y200) := ⟨_, rfl⟩
                      replace H : (spec_Pattern.l0 k1 y203 l0 (l0.length : Int) (wrap64 (x8_1 + 1))) = some r := by first | (rw [hy203]; with_reducible exact H) | (have H2_ := (Option.bind_some _ _).symm.trans H; rw [hy203]; with_reducible exact H2_) | (have H2_ := (Option.bind_some _ _).symm.trans H; with_reducible exact H2_) | with_reducible exact H | (rw [hy203]; exact H) | exact H
                      have Ny203 := Aside0.mk hy203
                      clear hy203
                      have H' := Aside0.mk H
                      clear H
                      have p186 : 0 ≤ (x8_1 : Int) := of_decide_eq_true (by first | (with_reducible assumption) | assumption)
                      have q186 : x8_1 < (l0.length : Int) := of_decide_eq_true (by first | (with_reducible assumption) | assumption)
                      obtain ⟨ad186, e186, hx186_0, hx186_1, hx186_2⟩ := at_T31 HR0.out x8_1 p186 q186
                      (try rw [← Nbq5.out] at hx186_0)
                      (try rw [← Nbq11.out] at hx186_0)
                      (try rw [← Nbq5.out] at hx186_1)
                      (try rw [← Nbq11.out] at hx186_1)
                      cases e186
                      replace hx186_0 := (HB.out.cell (World.block_lt_of_cell? w _ hx186_0)).trans hx186_0
                      replace hx186_1 := (HB.out.cell (World.block_lt_of_cell? w _ hx186_1)).trans hx186_1
                      replace hx186_2 := (HB.out.cell (World.block_lt_of_cell? w _ hx186_2)).trans hx186_2
                      replace p186 := eq_true p186
                      replace q186 := eq_true q186
                      go_wp2_with (first | ((with_reducible refine gate_dst (N := 5) rfl ?_); refine box_event ?hg (N := 5) ?hd (cs := #[.bool false, .bool false, .int .i64 0]) (t := 31) ?hr ?_; (case hd => rfl); (case hg => rfl); (case hr => first | (go_simp; done) | (go_simp; rfl)); intro gb187 hg w27 hbox hb; have n0_ := Aside0.mk (Kd.R_below (by (with_reducible repeat (first | apply Kd.R_alloc | apply Kd.R_drewN | apply Kd.R_drew)); exact HO_3.out) hb); have n1_ := Aside0.mk (below_step (by repeat (first | (with_reducible first | exact HB.out | apply below_alloc | apply pw_below_drewN | apply below_drew1) | exact HB.out)) hb); have n2_ := Aside0.mk (hbox); have n3_ := Aside0.mk ((by rw [hg]; exact (below_size (by repeat (first | (with_reducible first | exact HB.out | apply below_alloc | apply pw_below_drewN | apply below_drew1) | exact HB.out))) : w.heap.size ≤ gb187)); have n4_ := Aside0.mk ((by rw [hg]; exact (below_size (by repeat (first | (with_reducible first | exact HB.out | apply below_alloc | apply pw_below_drewN | apply below_drew1) | exact HB.out))) : w.heap.size ≤ gb187)); clear HO_3; clear HB; have HO_3 := n0_; have HB := n1_; have BK187 := n2_; have GW187 := n3_; have GE187 := n4_; clear n0_ n1_ n2_ n3_ n4_; clear hb hbox hg; have hcz28_0 : w27.cell? ⟨gb187, 0, none⟩ = some (.bool false) := (blk_cell BK187.out 0).trans rfl; have hcz28_1 : w27.cell? ⟨gb187, 1, none⟩ = some (.bool false) := (blk_cell BK187.out 1).trans rfl; have hcz28_2 : w27.cell? ⟨gb187, 2, none⟩ = some (.int .i64 0) := (blk_cell BK187.out 2).trans rfl; have hfz28_0 := blk_frozen BK187.out 0; have hfz28_1 := blk_frozen BK187.out 1; have hfz28_2 := blk_frozen BK187.out 2) | ((with_reducible refine gate_dst (N := 46) rfl ?_); refine Kd.R_lit (Kd.int .u8) _ 5 ?hg (N := 46) ?hd (xs := ([92, ((rd_T31 l0 x8_1).f2) % 256] : List Int)) (inner := [.int .u8 92, .int .u8 (((rd_T31 l0 x8_1).f2) % 256)]) (ok := fun _ => True) (okp := fun _ => True) ?hr ?hp (fun _ hk => hk) trivial (Below.refl _ _) (Nat.le_refl _) (by simp) ?_; (case hd => rfl); (case hg => rfl); (case hr => first | (go_simp; done) | (go_simp; rfl)); (case hp => exact (Reps.one (show Kd.M (Kd.int .u8) _ _ _ 92 [.int .u8 92] from rfl) (Reps.one (show Kd.M (Kd.int .u8) _ _ _ (((rd_T31 l0 x8_1).f2) % 256) [.int .u8 (((rd_T31 l0 x8_1).f2) % 256)] from rfl) (Reps.none _ _)))); intro v201 w29 ho30 hb hg_ hnew_; clear hg_ hnew_; (first | rw [← Ny200.out] at ho30 | (simp only [Int.reduceToNat] at ho30; rw [← Ny200.out] at ho30)); have n0_ := Aside0.mk (Kd.R_elder' (by (with_reducible repeat (first | apply Kd.R_alloc | apply Kd.R_drewN | apply Kd.R_drew)); exact (Kd.R_mono (Kd.R_far (p := ⟨gb187, 2, none⟩) (Kd.R_far (p := ⟨gb187, 1, none⟩) (Kd.R_far (p := ⟨gb187, 0, none⟩) (Kd.R_types HO_3.out BK187.out (by decide)) (fun _ hk => hk.2) (.bool false)) (fun _ hk => hk.2) (.bool false)) (fun _ hk => hk.2) (.int .i64 ((rd_T31 l0 x8_1).f2))) (fun _ h_ => h_.1))) (Kd.R_base ho30) hb); have n1_ := Aside0.mk (Kd.R_lower (Kd.R_new' ho30 (Kd.R_lt (by (with_reducible repeat (first | apply Kd.R_alloc | apply Kd.R_drewN | apply Kd.R_drew)); exact (Kd.R_mono (Kd.R_far (p := ⟨gb187, 2, none⟩) (Kd.R_far (p := ⟨gb187, 1, none⟩) (Kd.R_far (p := ⟨gb187, 0, none⟩) (Kd.R_types HO_3.out BK187.out (by decide)) (fun _ hk => hk.2) (.bool false)) (fun _ hk => hk.2) (.bool false)) (fun _ hk => hk.2) (.int .i64 ((rd_T31 l0 x8_1).f2))) (fun _ h_ => h_.1))))) (below_size (by repeat (first | (with_reducible first | exact HB.out | apply below_alloc | apply pw_below_drewN | apply below_drew1 | refine below_set ?_ GE187.out) | exact HB.out)))); have n2_ := Aside0.mk (blk_below (g := gb187) (o := .cells #[.bool false, .bool false, .int .i64 ((rd_T31 l0 x8_1).f2)] 31 (0, 0)) (by (with_reducible repeat (first | refine blk_drewN ?_ _ | refine blk_drew ?_ | refine blk_alloc ?_ _)); refine blk_put (cs := #[.bool false, .bool false, .int .i64 0]) ?_ 2 _ rfl; (with_reducible repeat (first | refine blk_drewN ?_ _ | refine blk_drew ?_ | refine blk_alloc ?_ _)); refine blk_put (cs := #[.bool false, .bool false, .int .i64 0]) ?_ 1 _ rfl; (with_reducible repeat (first | refine blk_drewN ?_ _ | refine blk_drew ?_ | refine blk_alloc ?_ _)); refine blk_put (cs := #[.bool false, .bool false, .int .i64 0]) ?_ 0 _ rfl; (with_reducible repeat (first | refine blk_drewN ?_ _ | refine blk_drew ?_ | refine blk_alloc ?_ _)); exact BK187.out) hb); have n3_ := Aside0.mk (below_step (by repeat (first | (with_reducible first | exact HB.out | apply below_alloc | apply pw_below_drewN | apply below_drew1 | refine below_set ?_ GE187.out) | exact HB.out)) hb); clear HO_3; clear BK187; clear HB; have HO_3 := n0_; have HO202 := n1_; have BK187 := n2_; have HB := n3_; clear n0_ n1_ n2_ n3_; clear hb ho30; obtain ⟨Ao32, co32, eo32⟩ := Kd.R_slice HO202.out; subst eo32) | ((with_reducible refine gate_builtin (b := .append) (xs := #[.tmp 42, .tmp 46]) rfl ?_); at_builtin; refine Kd.R_append_rows (Kd.int .u8) (w0 := w) w.heap.size rfl (.tmp 42) (.tmp 46) 22 5 (.int .u8 0) 1 rfl Tryd.underlying22 info5 rfl (by decide) (by omega) u3 x3_1 y200 _ _ _ (fun k_ => some k_ ≠ (.slice Ao32 y200.length co32 : Value).ownBlock) (fun _ => False) rfl rfl ?aO ?aR (fun _ _ h => h) (fun _ h => h.elim) ?aF ?aB ?aS ?aL ?_; (case aR => repeat (first | exact (Kd.R_reads' HO202.out).2.2 | (with_reducible refine Kd.C_alloc ?_ _) | (with_reducible refine Kd.C_drewN ?_ _) | (with_reducible refine Kd.C_drew ?_))); (case aB => exact (by repeat (first | (with_reducible first | exact HB.out | apply below_alloc | apply pw_below_drewN | apply below_drew1 | refine below_set ?_ GE187.out) | exact HB.out))); (case aF => exact (fun k_ hk => Kd.fresh' (Kd.R_lt (by (with_reducible repeat (first | apply Kd.R_alloc | apply Kd.R_drewN | apply Kd.R_drew)); exact HO202.out)) k_ hk)); (case aO => exact (by (with_reducible repeat (first | apply Kd.R_alloc | apply Kd.R_drewN | apply Kd.R_drew)); exact Kd.R_mono HO_3.out (fun _ hk => hk.2))); (case aS => exact (below_size (by repeat (first | (with_reducible first | exact HB.out | apply below_alloc | apply pw_below_drewN | apply below_drew1 | refine below_set ?_ GE187.out) | exact HB.out)))); (case aL => have := LMc26.out; omega); intro v204 w31 ho hb hg hat; rw [← Ny203.out] at ho; have n0_ := Aside0.mk (blk_grown (g := gb187) (o := .cells #[.bool false, .bool false, .int .i64 ((rd_T31 l0 x8_1).f2)] 31 (0, 0)) (by (with_reducible repeat (first | refine blk_drewN ?_ _ | refine blk_drew ?_ | refine blk_alloc ?_ _)); exact BK187.out) hg (Kd.R_ne HO_3.out BK187.out (by decide))); have n1_ := Aside0.mk (Kd.R_after (ok := (fun _ => True)) (by (with_reducible repeat (first | apply Kd.R_alloc | apply Kd.R_drewN | apply Kd.R_drew)); exact HO202.out) hg hat); have n2_ := Aside0.mk (hb); have n3_ := Aside0.mk (ho); clear BK187; clear HO202; clear HB; clear HO_3; have BK187 := n0_; have HO202 := n1_; have HB := n2_; have HO205 := n3_; clear n0_ n1_ n2_ n3_; clear ho hb hg hat))
                      go_roundg k1
                      case measure => have := HK1.out; omega
                      case rel => exact ⟨(y203), (wrap64 (x8_1 + 1)), (by first | rfl | (simp; done) | (simp [*]; done)), H', ⟨by have := HK1.out; omega⟩, ⟨by (with_reducible repeat (first | apply Kd.R_alloc | apply Kd.R_drewN | apply Kd.R_drew)); exact Kd.R_mono HO205.out (fun _ hk => trivial)⟩, ⟨by repeat (first | (with_reducible first | exact HB.out | apply below_alloc | apply pw_below_drewN | apply below_drew1 | refine below_set ?_ GE187.out) | exact HB.out)⟩⟩
                    · rw [if_neg c26] at H
                      exact absurd H (by simp)
                  · rw [if_neg c25] at H
                    have c25b0 : (((rd_T31 l0 x8_1).f2) == 63) = false := beq_eq_false_iff_ne.mpr c25
                    have c25b1 : (((rd_T31 l0 x8_1).f2) != 63) = true := bne_iff_ne.mpr c25
                    by_cases c33 : ((rd_T31 l0 x8_1).f2) = 92
                    · rw [if_pos c33] at H
                      have c33b0 : (((rd_T31 l0 x8_1).f2) == 92) = true := beq_iff_eq.mpr c33
                      have c33b1 : (((rd_T31 l0 x8_1).f2) != 92) = false := bne_eq_false_iff_eq.mpr c33
                      clear c33
                      obtain ⟨y206, hy206⟩ : ∃ y_ : List Int, y_ = (([92, ((rd_T31 l0 x8_1).f2) % 256] : List Int)) := ⟨_, rfl⟩
                      replace H : (if x3_1.length + y206.length < 140737488355328 then (spec_Pattern.l0 k1 (x3_1 ++ y206) l0 (l0.length : Int) (wrap64 (x8_1 + 1))) else (none)) = some r := by first | (rw [hy206]; with_reducible exact H) | (have H2_ := (Option.bind_some _ _).symm.trans H; rw [hy206]; with_reducible exact H2_) | (have H2_ := (Option.bind_some _ _).symm.trans H; with_reducible exact H2_) | with_reducible exact H | (rw [hy206]; exact H) | exact H
                      have Ny206 := Aside0.mk hy206
                      clear hy206
                      by_cases c34 : x3_1.length + y206.length < 140737488355328
                      · rw [if_pos c34] at H
                        have LMc34 := Aside0.mk c34
                        clear c34
                        obtain ⟨y209, hy209⟩ : ∃ y_ : List Int, y_ = (x3_1 ++ y206) := ⟨_, rfl⟩
                        replace H : (spec_Pattern.l0 k1 y209 l0 (l0.length : Int) (wrap64 (x8_1 + 1))) = some r := by first | (rw [hy209]; with_reducible exact H) | (have H2_ := (Option.bind_some _ _).symm.trans H; rw [hy209]; with_reducible exact H2_) | (have H2_ := (Option.bind_some _ _).symm.trans H; with_reducible exact H2_) | with_reducible exact H | (rw [hy209]; exact H) | exact H
                        have Ny209 := Aside0.mk hy209
                        clear hy209
                        have H' := Aside0.mk H
                        clear H
                        have p186 : 0 ≤ (x8_1 : Int) := of_decide_eq_true (by first | (with_reducible assumption) | assumption)
                        have q186 : x8_1 < (l0.length : Int) := of_decide_eq_true (by first | (with_reducible assumption) | assumption)
                        obtain ⟨ad186, e186, hx186_0, hx186_1, hx186_2⟩ := at_T31 HR0.out x8_1 p186 q186
                        (try rw [← Nbq5.out] at hx186_0)
                        (try rw [← Nbq11.out] at hx186_0)
                        (try rw [← Nbq5.out] at hx186_1)
                        (try rw [← Nbq11.out] at hx186_1)
                        cases e186
                        replace hx186_0 := (HB.out.cell (World.block_lt_of_cell? w _ hx186_0)).trans hx186_0
                        replace hx186_1 := (HB.out.cell (World.block_lt_of_cell? w _ hx186_1)).trans hx186_1
                        replace hx186_2 := (HB.out.cell (World.block_lt_of_cell? w _ hx186_2)).trans hx186_2
                        replace p186 := eq_true p186
                        replace q186 := eq_true q186
                        go_wp2_with (first | ((with_reducible refine gate_dst (N := 5) rfl ?_); refine box_event ?hg (N := 5) ?hd (cs := #[.bool false, .bool false, .int .i64 0]) (t := 31) ?hr ?_; (case hd => rfl); (case hg => rfl); (case hr => first | (go_simp; done) | (go_simp; rfl)); intro gb187 hg w35 hbox hb; have n0_ := Aside0.mk (Kd.R_below (by (with_reducible repeat (first | apply Kd.R_alloc | apply Kd.R_drewN | apply Kd.R_drew)); exact HO_3.out) hb); have n1_ := Aside0.mk (below_step (by repeat (first | (with_reducible first | exact HB.out | apply below_alloc | apply pw_below_drewN | apply below_drew1) | exact HB.out)) hb); have n2_ := Aside0.mk (hbox); have n3_ := Aside0.mk ((by rw [hg]; exact (below_size (by repeat (first | (with_reducible first | exact HB.out | apply below_alloc | apply pw_below_drewN | apply below_drew1) | exact HB.out))) : w.heap.size ≤ gb187)); have n4_ := Aside0.mk ((by rw [hg]; exact (below_size (by repeat (first | (with_reducible first | exact HB.out | apply below_alloc | apply pw_below_drewN | apply below_drew1) | exact HB.out))) : w.heap.size ≤ gb187)); clear HO_3; clear HB; have HO_3 := n0_; have HB := n1_; have BK187 := n2_; have GW187 := n3_; have GE187 := n4_; clear n0_ n1_ n2_ n3_ n4_; clear hb hbox hg; have hcz36_0 : w35.cell? ⟨gb187, 0, none⟩ = some (.bool false) := (blk_cell BK187.out 0).trans rfl; have hcz36_1 : w35.cell? ⟨gb187, 1, none⟩ = some (.bool false) := (blk_cell BK187.out 1).trans rfl; have hcz36_2 : w35.cell? ⟨gb187, 2, none⟩ = some (.int .i64 0) := (blk_cell BK187.out 2).trans rfl; have hfz36_0 := blk_frozen BK187.out 0; have hfz36_1 := blk_frozen BK187.out 1; have hfz36_2 := blk_frozen BK187.out 2) | ((with_reducible refine gate_dst (N := 46) rfl ?_); refine Kd.R_lit (Kd.int .u8) _ 5 ?hg (N := 46) ?hd (xs := ([92, ((rd_T31 l0 x8_1).f2) % 256] : List Int)) (inner := [.int .u8 92, .int .u8 (((rd_T31 l0 x8_1).f2) % 256)]) (ok := fun _ => True) (okp := fun _ => True) ?hr ?hp (fun _ hk => hk) trivial (Below.refl _ _) (Nat.le_refl _) (by simp) ?_; (case hd => rfl); (case hg => rfl); (case hr => first | (go_simp; done) | (go_simp; rfl)); (case hp => exact (Reps.one (show Kd.M (Kd.int .u8) _ _ _ 92 [.int .u8 92] from rfl) (Reps.one (show Kd.M (Kd.int .u8) _ _ _ (((rd_T31 l0 x8_1).f2) % 256) [.int .u8 (((rd_T31 l0 x8_1).f2) % 256)] from rfl) (Reps.none _ _)))); intro v207 w37 ho38 hb hg_ hnew_; clear hg_ hnew_; (first | rw [← Ny206.out] at ho38 | (simp only [Int.reduceToNat] at ho38; rw [← Ny206.out] at ho38)); have n0_ := Aside0.mk (Kd.R_elder' (by (with_reducible repeat (first | apply Kd.R_alloc | apply Kd.R_drewN | apply Kd.R_drew)); exact (Kd.R_mono (Kd.R_far (p := ⟨gb187, 2, none⟩) (Kd.R_far (p := ⟨gb187, 1, none⟩) (Kd.R_far (p := ⟨gb187, 0, none⟩) (Kd.R_types HO_3.out BK187.out (by decide)) (fun _ hk => hk.2) (.bool false)) (fun _ hk => hk.2) (.bool false)) (fun _ hk => hk.2) (.int .i64 ((rd_T31 l0 x8_1).f2))) (fun _ h_ => h_.1))) (Kd.R_base ho38) hb); have n1_ := Aside0.mk (Kd.R_lower (Kd.R_new' ho38 (Kd.R_lt (by (with_reducible repeat (first | apply Kd.R_alloc | apply Kd.R_drewN | apply Kd.R_drew)); exact (Kd.R_mono (Kd.R_far (p := ⟨gb187, 2, none⟩) (Kd.R_far (p := ⟨gb187, 1, none⟩) (Kd.R_far (p := ⟨gb187, 0, none⟩) (Kd.R_types HO_3.out BK187.out (by decide)) (fun _ hk => hk.2) (.bool false)) (fun _ hk => hk.2) (.bool false)) (fun _ hk => hk.2) (.int .i64 ((rd_T31 l0 x8_1).f2))) (fun _ h_ => h_.1))))) (below_size (by repeat (first | (with_reducible first | exact HB.out | apply below_alloc | apply pw_below_drewN | apply below_drew1 | refine below_set ?_ GE187.out) | exact HB.out)))); have n2_ := Aside0.mk (blk_below (g := gb187) (o := .cells #[.bool false, .bool false, .int .i64 ((rd_T31 l0 x8_1).f2)] 31 (0, 0)) (by (with_reducible repeat (first | refine blk_drewN ?_ _ | refine blk_drew ?_ | refine blk_alloc ?_ _)); refine blk_put (cs := #[.bool false, .bool false, .int .i64 0]) ?_ 2 _ rfl; (with_reducible repeat (first | refine blk_drewN ?_ _ | refine blk_drew ?_ | refine blk_alloc ?_ _)); refine blk_put (cs := #[.bool false, .bool false, .int .i64 0]) ?_ 1 _ rfl; (with_reducible repeat (first | refine blk_drewN ?_ _ | refine blk_drew ?_ | refine blk_alloc ?_ _)); refine blk_put (cs := #[.bool false, .bool false, .int .i64 0]) ?_ 0 _ rfl; (with_reducible repeat (first | refine blk_drewN ?_ _ | refine blk_drew ?_ | refine blk_alloc ?_ _)); exact BK187.out) hb); have n3_ := Aside0.mk (below_step (by repeat (first | (with_reducible first | exact HB.out | apply below_alloc | apply pw_below_drewN | apply below_drew1 | refine below_set ?_ GE187.out) | exact HB.out)) hb); clear HO_3; clear BK187; clear HB; have HO_3 := n0_; have HO208 := n1_; have BK187 := n2_; have HB := n3_; clear n0_ n1_ n2_ n3_; clear hb ho38; obtain ⟨Ao40, co40, eo40⟩ := Kd.R_slice HO208.out; subst eo40) | ((with_reducible refine gate_builtin (b := .append) (xs := #[.tmp 42, .tmp 46]) rfl ?_); at_builtin; refine Kd.R_append_rows (Kd.int .u8) (w0 := w) w.heap.size rfl (.tmp 42) (.tmp 46) 22 5 (.int .u8 0) 1 rfl Tryd.underlying22 info5 rfl (by decide) (by omega) u3 x3_1 y206 _ _ _ (fun k_ => some k_ ≠ (.slice Ao40 y206.length co40 : Value).ownBlock) (fun _ => False) rfl rfl ?aO ?aR (fun _ _ h => h) (fun _ h => h.elim) ?aF ?aB ?aS ?aL ?_; (case aR => repeat (first | exact (Kd.R_reads' HO208.out).2.2 | (with_reducible refine Kd.C_alloc ?_ _) | (with_reducible refine Kd.C_drewN ?_ _) | (with_reducible refine Kd.C_drew ?_))); (case aB => exact (by repeat (first | (with_reducible first | exact HB.out | apply below_alloc | apply pw_below_drewN | apply below_drew1 | refine below_set ?_ GE187.out) | exact HB.out))); (case aF => exact (fun k_ hk => Kd.fresh' (Kd.R_lt (by (with_reducible repeat (first | apply Kd.R_alloc | apply Kd.R_drewN | apply Kd.R_drew)); exact HO208.out)) k_ hk)); (case aO => exact (by (with_reducible repeat (first | apply Kd.R_alloc | apply Kd.R_drewN | apply Kd.R_drew)); exact Kd.R_mono HO_3.out (fun _ hk => hk.2))); (case aS => exact (below_size (by repeat (first | (with_reducible first | exact HB.out | apply below_alloc | apply pw_below_drewN | apply below_drew1 | refine below_set ?_ GE187.out) | exact HB.out)))); (case aL => have := LMc34.out; omega); intro v210 w39 ho hb hg hat; rw [← Ny209.out] at ho; have n0_ := Aside0.mk (blk_grown (g := gb187) (o := .cells #[.bool false, .bool false, .int .i64 ((rd_T31 l0 x8_1).f2)] 31 (0, 0)) (by (with_reducible repeat (first | refine blk_drewN ?_ _ | refine blk_drew ?_ | refine blk_alloc ?_ _)); exact BK187.out) hg (Kd.R_ne HO_3.out BK187.out (by decide))); have n1_ := Aside0.mk (Kd.R_after (ok := (fun _ => True)) (by (with_reducible repeat (first | apply Kd.R_alloc | apply Kd.R_drewN | apply Kd.R_drew)); exact HO208.out) hg hat); have n2_ := Aside0.mk (hb); have n3_ := Aside0.mk (ho); clear BK187; clear HO208; clear HB; clear HO_3; have BK187 := n0_; have HO208 := n1_; have HB := n2_; have HO211 := n3_; clear n0_ n1_ n2_ n3_; clear ho hb hg hat))
                        go_roundg k1
                        case measure => have := HK1.out; omega
                        case rel => exact ⟨(y209), (wrap64 (x8_1 + 1)), (by first | rfl | (simp; done) | (simp [*]; done)), H', ⟨by have := HK1.out; omega⟩, ⟨by (with_reducible repeat (first | apply Kd.R_alloc | apply Kd.R_drewN | apply Kd.R_drew)); exact Kd.R_mono HO211.out (fun _ hk => trivial)⟩, ⟨by repeat (first | (with_reducible first | exact HB.out | apply below_alloc | apply pw_below_drewN | apply below_drew1 | refine below_set ?_ GE187.out) | exact HB.out)⟩⟩
                      · rw [if_neg c34] at H
                        exact absurd H (by simp)
                    · rw [if_neg c33] at H
                      have c33b0 : (((rd_T31 l0 x8_1).f2) == 92) = false := beq_eq_false_iff_ne.mpr c33
                      have c33b1 : (((rd_T31 l0 x8_1).f2) != 92) = true := bne_iff_ne.mpr c33
                      replace H := Option.bind_eq_some_iff.mp H
                      obtain ⟨t212, A410, H⟩ := H
                      replace H : (spec_Pattern.l0 k1 t212 l0 (l0.length : Int) (wrap64 (x8_1 + 1))) = some r := H
                      have A41 := Aside0.mk A410
                      clear A410
                      have H' := Aside0.mk H
                      clear H
                      have p186 : 0 ≤ (x8_1 : Int) := of_decide_eq_true (by first | (with_reducible assumption) | assumption)
                      have q186 : x8_1 < (l0.length : Int) := of_decide_eq_true (by first | (with_reducible assumption) | assumption)
                      obtain ⟨ad186, e186, hx186_0, hx186_1, hx186_2⟩ := at_T31 HR0.out x8_1 p186 q186
                      (try rw [← Nbq5.out] at hx186_0)
                      (try rw [← Nbq11.out] at hx186_0)
                      (try rw [← Nbq5.out] at hx186_1)
                      (try rw [← Nbq11.out] at hx186_1)
                      cases e186
                      replace hx186_0 := (HB.out.cell (World.block_lt_of_cell? w _ hx186_0)).trans hx186_0
                      replace hx186_1 := (HB.out.cell (World.block_lt_of_cell? w _ hx186_1)).trans hx186_1
                      replace hx186_2 := (HB.out.cell (World.block_lt_of_cell? w _ hx186_2)).trans hx186_2
                      replace p186 := eq_true p186
                      replace q186 := eq_true q186
                      go_wp2_with (first | ((with_reducible refine gate_dst (N := 5) rfl ?_); refine box_event ?hg (N := 5) ?hd (cs := #[.bool false, .bool false, .int .i64 0]) (t := 31) ?hr ?_; (case hd => rfl); (case hg => rfl); (case hr => first | (go_simp; done) | (go_simp; rfl)); intro gb187 hg w42 hbox hb; have n0_ := Aside0.mk (Kd.R_below (by (with_reducible repeat (first | apply Kd.R_alloc | apply Kd.R_drewN | apply Kd.R_drew)); exact HO_3.out) hb); have n1_ := Aside0.mk (below_step (by repeat (first | (with_reducible first | exact HB.out | apply below_alloc | apply pw_below_drewN | apply below_drew1) | exact HB.out)) hb); have n2_ := Aside0.mk (hbox); have n3_ := Aside0.mk ((by rw [hg]; exact (below_size (by repeat (first | (with_reducible first | exact HB.out | apply below_alloc | apply pw_below_drewN | apply below_drew1) | exact HB.out))) : w.heap.size ≤ gb187)); have n4_ := Aside0.mk ((by rw [hg]; exact (below_size (by repeat (first | (with_reducible first | exact HB.out | apply below_alloc | apply pw_below_drewN | apply below_drew1) | exact HB.out))) : w.heap.size ≤ gb187)); clear HO_3; clear HB; have HO_3 := n0_; have HB := n1_; have BK187 := n2_; have GW187 := n3_; have GE187 := n4_; clear n0_ n1_ n2_ n3_ n4_; clear hb hbox hg; have hcz43_0 : w42.cell? ⟨gb187, 0, none⟩ = some (.bool false) := (blk_cell BK187.out 0).trans rfl; have hcz43_1 : w42.cell? ⟨gb187, 1, none⟩ = some (.bool false) := (blk_cell BK187.out 1).trans rfl; have hcz43_2 : w42.cell? ⟨gb187, 2, none⟩ = some (.int .i64 0) := (blk_cell BK187.out 2).trans rfl; have hfz43_0 := blk_frozen BK187.out 0; have hfz43_1 := blk_frozen BK187.out 1; have hfz43_2 := blk_frozen BK187.out 2) | ((with_reducible refine gate_store (t := 31) (p := 5) rfl ?_); refine store_event (t := 31) (p := 5) (v := ?vo_w44) (w1 := (((w42.setCell ⟨gb187, 0, none⟩ (.bool false)).setCell ⟨gb187, 1, none⟩ (.bool false)).setCell ⟨gb187, 2, none⟩ (.int .i64 ((rd_T31 l0 x8_1).f2)))) ?hg ?ho ?hn ?hr ?_; (case ho => rfl); (case hg => rfl); (case hn => rfl); (case hr => first | (go_simp; done) | (go_simp; rfl)); intro w44 hw; have n0_ : Aside0 (Kd.R (Kd.int .u8) 5 w44 w.heap.size (fun _ => True) u3 x3_1) := ⟨(by rw [hw]; exact (by (with_reducible repeat (first | apply Kd.R_alloc | apply Kd.R_drewN | apply Kd.R_drew)); exact Kd.R_mono (Kd.R_far (p := ⟨gb187, 2, none⟩) (Kd.R_far (p := ⟨gb187, 1, none⟩) (Kd.R_far (p := ⟨gb187, 0, none⟩) (Kd.R_types HO_3.out BK187.out (by decide)) (fun _ hk => hk.2) (.bool false)) (fun _ hk => hk.2) (.bool false)) (fun _ hk => hk.2) (.int .i64 ((rd_T31 l0 x8_1).f2))) (fun _ hk => trivial)))⟩; have n1_ : Aside0 (w44.heap[gb187]? = some (.cells #[.bool false, .bool false, .int .i64 ((rd_T31 l0 x8_1).f2)] 31 (0, 0))) := ⟨(by rw [hw]; exact (by (with_reducible repeat (first | refine blk_drewN ?_ _ | refine blk_drew ?_ | refine blk_alloc ?_ _)); refine blk_put (cs := #[.bool false, .bool false, .int .i64 0]) ?_ 2 _ rfl; (with_reducible repeat (first | refine blk_drewN ?_ _ | refine blk_drew ?_ | refine blk_alloc ?_ _)); refine blk_put (cs := #[.bool false, .bool false, .int .i64 0]) ?_ 1 _ rfl; (with_reducible repeat (first | refine blk_drewN ?_ _ | refine blk_drew ?_ | refine blk_alloc ?_ _)); refine blk_put (cs := #[.bool false, .bool false, .int .i64 0]) ?_ 0 _ rfl; (with_reducible repeat (first | refine blk_drewN ?_ _ | refine blk_drew ?_ | refine blk_alloc ?_ _)); exact BK187.out))⟩; have n2_ : Aside0 (Below w.heap.size w w44) := ⟨(by rw [hw]; exact (by repeat (first | (with_reducible first | exact HB.out | apply below_alloc | apply pw_below_drewN | apply below_drew1 | refine below_set ?_ GE187.out) | exact HB.out)))⟩; clear hw; clear HO_3; clear BK187; clear HB; have HO_3 := n0_; have BK187 := n1_; have HB := n2_; clear n0_ n1_ n2_; have hcz45_0 : w44.cell? ⟨gb187, 0, none⟩ = some (.bool false) := (blk_cell BK187.out 0).trans rfl; have hcz45_1 : w44.cell? ⟨gb187, 1, none⟩ = some (.bool false) := (blk_cell BK187.out 1).trans rfl; have hcz45_2 : w44.cell? ⟨gb187, 2, none⟩ = some (.int .i64 ((rd_T31 l0 x8_1).f2)) := (blk_cell BK187.out 2).trans rfl; have hfz45_0 := blk_frozen BK187.out 0; have hfz45_1 := blk_frozen BK187.out 1; have hfz45_2 := blk_frozen BK187.out 2; obtain ⟨Ao46, co46, eo46⟩ := Kd.R_slice HO_3.out; subst eo46) | ((with_reducible refine gate_callee (f := 35) rfl ?_); refine goesL_ (some 15) rfl rfl Tryd.func35 (by kernel_rfl) rfl #[.slice Ao46 x3_1.length co46, .int .i64 ((rd_T31 l0 x8_1).f2)] rfl (by (try simp only [List.map_toArray, List.map_cons, List.map_nil]); first | done | rfl | (simp only [List.length_drop, List.length_take]; rfl)) ?_; (with_reducible refine (spec_appendUTF8.calls k1 (fun k_ => some k_ = (.slice Ao46 x3_1.length co46 : Value).ownBlock) (.slice Ao46 x3_1.length co46) x3_1 ((rd_T31 l0 x8_1).f2) t212 w _ ?side1 ?side2 A41.out).mono ?_); (case side1 => repeat (first | (with_reducible first | exact HB.out | apply below_alloc | apply pw_below_drewN | apply below_drew1 | refine below_set ?_ GE187.out) | exact HB.out)); (case side2 => exact Kd.R_tight rfl HO_3.out); rintro e w47 ⟨v213, rfl, ho0, hb, hkp⟩; refine ⟨_, rfl, ?_⟩; have n0_ := Aside0.mk (blk_kept (by (with_reducible repeat (first | refine blk_drewN ?_ _ | refine blk_drew ?_ | refine blk_alloc ?_ _)); exact BK187.out) hkp (fun hs_ => (fun e_ => (Kd.R_ne HO_3.out BK187.out (by decide)) e_) hs_)); have n1_ := Aside0.mk (Kd.R_mono (ok' := fun k_ => True) ho0 (fun k_ hk_ => trivial)); have n2_ := Aside0.mk (hb); clear BK187; clear HB; clear HO_3; have BK187 := n0_; have HO214 := n1_; have HB := n2_; clear n0_ n1_ n2_; (try clear hb); (try clear hkp); (try clear ho0)))
                      go_roundg k1
                      case measure => have := HK1.out; omega
                      case rel => exact ⟨(t212), (wrap64 (x8_1 + 1)), (by first | rfl | (simp; done) | (simp [*]; done)), H', ⟨by have := HK1.out; omega⟩, ⟨by (with_reducible repeat (first | apply Kd.R_alloc | apply Kd.R_drewN | apply Kd.R_drew)); exact HO214.out⟩, ⟨by repeat (first | (with_reducible first | exact HB.out | apply below_alloc | apply pw_below_drewN | apply below_drew1 | refine below_set ?_ GE187.out) | exact HB.out)⟩⟩
          · rw [if_neg c4] at H
            exact absurd H (by simp)
        · rw [if_neg c3] at H
          exact absurd H (by simp)
      · rw [if_neg c2] at H
        have c2b0 : decide (x8_1 < (l0.length : Int)) = false := decide_eq_false c2
        clear c2
        obtain rfl := Option.some.inj H
        have hcv48 := own_string (P := Tryd.prog) Tryd.underlying22 Tryd.underlying5 Tryd.underlying9 (Kd.own_of_R HO_3.out)
        go_wp2
        go_ret
        exact ⟨by first | rfl | (simp [errW_none, errW_some] <;> rfl) | (simp [*, errW_none, errW_some] <;> rfl), by repeat (first | (with_reducible first | exact HB.out | apply below_alloc | apply pw_below_drewN | apply below_drew1) | exact HB.out)⟩

end Go.Proofs.YtphpjboljlkdkaaDoor.PMt
