/- Written by a program of this session (a turned copy of the print) out of the translation. -/
import Derived.Test.YtphpjboljlkdkaaPFnGjValidCutx0
import Derived.Test.YtphpjboljlkdkaaPFnGjValidCutx5
import Derived.Test.YtphpjboljlkdkaaPFnGjValidCutx6
import Derived.Test.YtphpjboljlkdkaaPFnGjValidCutx7
import Derived.Test.YtphpjboljlkdkaaPFnGjValidCutx8
import Derived.Test.YtphpjboljlkdkaaPFnGjValidCutx9
namespace Go.Proofs.Ytphpjboljlkdkaa.PFnGjValidCut
open Go.RowKit Go.Proofs.YtphpjboljlkdkaaW.PrintWords Go.Proofs.YtphpjboljlkdkaaW.PrintLast Go.Proofs.YtphpjboljlkdkaaW.PrintMore
attribute [local go_sem] max2_int min2_int max_two min_two max_three min_three max_four min_four   -- for this text's walks alone
set_option linter.unusedVariables false
set_option linter.unusedSimpArgs false
set_option maxHeartbeats 8000000 in
set_option maxRecDepth 100000 in
theorem gjson_validany.step (k : Nat) (ih_21 : ∀ m, m < k + 1 → ∀ (A0 : Option Addr) (c0 : Nat) (l0 : List Int) (a1 : Int) (r1 : Int) (r2 : Bool) (w : World) (hr0 : Kd.C (Kd.int .u8) w A0 l0.length l0) (hc0 : l0.length ≤ c0) (h : gjson_validany.f m l0 a1 = some (r1, r2)),
    Calls Try.prog 21 #[.slice A0 l0.length c0, .int .i64 a1] w fun e w' => e = .returned (.tuple #[.int .i64 r1, .bool r2]) ∧ Drawn0 w w') (ih_27 : ∀ m, m < k + 1 → ∀ (A0 : Option Addr) (c0 : Nat) (l0 : List Int) (a1 : Int) (r1 : Int) (r2 : Bool) (w : World) (hr0 : Kd.C (Kd.int .u8) w A0 l0.length l0) (hc0 : l0.length ≤ c0) (h : gjson_validobject.f m l0 a1 = some (r1, r2)),
    Calls Try.prog 27 #[.slice A0 l0.length c0, .int .i64 a1] w fun e w' => e = .returned (.tuple #[.int .i64 r1, .bool r2]) ∧ Drawn0 w w') (ih_28 : ∀ m, m < k + 1 → ∀ (A0 : Option Addr) (c0 : Nat) (l0 : List Int) (a1 : Int) (r1 : Int) (r2 : Bool) (w : World) (hr0 : Kd.C (Kd.int .u8) w A0 l0.length l0) (hc0 : l0.length ≤ c0) (h : gjson_validarray.f m l0 a1 = some (r1, r2)),
    Calls Try.prog 28 #[.slice A0 l0.length c0, .int .i64 a1] w fun e w' => e = .returned (.tuple #[.int .i64 r1, .bool r2]) ∧ Drawn0 w w') : ∀ (A0 : Option Addr) (c0 : Nat) (l0 : List Int) (a1 : Int) (r1 : Int) (r2 : Bool) (w : World) (hr0 : Kd.C (Kd.int .u8) w A0 l0.length l0) (hc0 : l0.length ≤ c0) (h : gjson_validany.f (k + 1) l0 a1 = some (r1, r2)),
    Calls Try.prog 21 #[.slice A0 l0.length c0, .int .i64 a1] w fun e w' => e = .returned (.tuple #[.int .i64 r1, .bool r2]) ∧ Drawn0 w w' := by
  intro A0 c0 l0 a1 r1 r2 w hr0 hc0 h
  simp only [gjson_validany.f] at h
  have HR0 := Aside0.mk hr0
  have HC0 := Aside0.mk hc0
  clear hr0 hc0
  have H : (gjson_validany.l0 k l0 a1) = some (r1, r2) := h
  clear h
  have H' := Aside0.mk H
  clear H
  go_enter Try.func21, Try.ntmps21
  go_wp2
  (try simp only [Act.put, List.setIfInBounds_toArray, List.set_cons_succ, List.set_cons_zero])
  go_loopg [1] k (fun kq v1 w' => ∃ (x1_1 : Int), v1 = .int .i64 x1_1 ∧ Aside0 (gjson_validany.l0 kq l0 x1_1 = some (r1, r2)) ∧ Aside0 (kq ≤ k) ∧ Drawn0 w w')
  case atStart => exact ⟨(a1), (by first | rfl | (simp; done) | (simp [*]; done)), H', ⟨Nat.le_refl _⟩, by repeat (first | exact Drawn0.refl _ | apply Drawn0.step)⟩
  case round =>
    clear H'
    try clear c2
    try clear p2
    obtain ⟨x1_1, rfl, HA, HK1, ⟨m1, rfl⟩⟩ := hrel
    cases gk with
    | zero => exact absurd HA.out (by simp [gjson_validany.l0])
    | succ k1 =>
      have H := HA.out
      clear HA
      simp only [gjson_validany.l0] at H
      by_cases c3 : x1_1 < (l0.length : Int)
      · rw [if_pos c3] at H
        have c3b0 : decide (x1_1 < (l0.length : Int)) = true := decide_eq_true c3
        clear c3
        by_cases c4 : 0 ≤ x1_1
        · rw [if_pos c4] at H
          have c4b0 : decide (0 ≤ x1_1) = true := decide_eq_true c4
          clear c4
          have HC5 := Aside0.mk H
          clear H
          have p283 : 0 ≤ (x1_1 : Int) := of_decide_eq_true (by first | (with_reducible assumption) | assumption)
          have q283 : x1_1 < (l0.length : Int) := of_decide_eq_true (by first | (with_reducible assumption) | assumption)
          obtain ⟨ad283, e283, hx283_0⟩ := Kd.at_int HR0.out x1_1 p283 q283
          cases e283
          replace p283 := eq_true p283
          replace q283 := eq_true q283
          go_upto_if 17 with (fail)
          go_cut [17] (fun v17 wc => ∃ (kq : Nat) (x17_4 : Bool), v17 = .bool x17_4 ∧ Aside0 (gjson_validany.j1 kq l0 x1_1 (rd l0 x1_1) x17_4 = some (r1, r2)) ∧ Aside0 (kq ≤ k1) ∧ Drawn0 w wc)
          case first =>
            have H := HC5.out
            clear HC5
            by_cases c6 : (rd l0 x1_1) = 32
            · rw [if_pos c6] at H
              have c6b0 : ((rd l0 x1_1) == 32) = true := beq_iff_eq.mpr c6
              have c6b1 : ((rd l0 x1_1) != 32) = false := bne_eq_false_iff_eq.mpr c6
              clear c6
              (first | rw [c6b0] | (simp only [i64_w, i32_w]; rw [c6b0]) | skip)
              have H' := Aside0.mk H
              clear H
              go_wp2
              go_meet
              case rel => exact ⟨_, (((rd l0 x1_1) == 32)), (by first | rfl | (simp; done) | (simp [*]; done)), H', ⟨by have := HK1.out; first | omega | exact Nat.le_refl _⟩, by repeat (first | exact Drawn0.refl _ | apply Drawn0.step)⟩
            · rw [if_neg c6] at H
              have c6b0 : ((rd l0 x1_1) == 32) = false := beq_eq_false_iff_ne.mpr c6
              have c6b1 : ((rd l0 x1_1) != 32) = true := bne_iff_ne.mpr c6
              (first | rw [c6b0] | (simp only [i64_w, i32_w]; rw [c6b0]) | skip)
              by_cases c7 : (rd l0 x1_1) = 9
              · rw [if_pos c7] at H
                have c7b0 : ((rd l0 x1_1) == 9) = true := beq_iff_eq.mpr c7
                have c7b1 : ((rd l0 x1_1) != 9) = false := bne_eq_false_iff_eq.mpr c7
                clear c7
                have H' := Aside0.mk H
                clear H
                go_wp2
                go_meet
                case rel => exact ⟨_, (((rd l0 x1_1) == 9)), (by first | rfl | (simp; done) | (simp [*]; done)), H', ⟨by have := HK1.out; first | omega | exact Nat.le_refl _⟩, by repeat (first | exact Drawn0.refl _ | apply Drawn0.step)⟩
              · rw [if_neg c7] at H
                have c7b0 : ((rd l0 x1_1) == 9) = false := beq_eq_false_iff_ne.mpr c7
                have c7b1 : ((rd l0 x1_1) != 9) = true := bne_iff_ne.mpr c7
                by_cases c8 : (rd l0 x1_1) = 10
                · rw [if_pos c8] at H
                  have c8b0 : ((rd l0 x1_1) == 10) = true := beq_iff_eq.mpr c8
                  have c8b1 : ((rd l0 x1_1) != 10) = false := bne_eq_false_iff_eq.mpr c8
                  clear c8
                  have H' := Aside0.mk H
                  clear H
                  go_wp2
                  go_meet
                  case rel => exact ⟨_, (((rd l0 x1_1) == 10)), (by first | rfl | (simp; done) | (simp [*]; done)), H', ⟨by have := HK1.out; first | omega | exact Nat.le_refl _⟩, by repeat (first | exact Drawn0.refl _ | apply Drawn0.step)⟩
                · rw [if_neg c8] at H
                  have c8b0 : ((rd l0 x1_1) == 10) = false := beq_eq_false_iff_ne.mpr c8
                  have c8b1 : ((rd l0 x1_1) != 10) = true := bne_iff_ne.mpr c8
                  have H' := Aside0.mk H
                  clear H
                  go_wp2
                  go_meet
                  case rel => exact ⟨_, (((rd l0 x1_1) == 13)), (by first | rfl | (simp; done) | (simp [*]; done)), H', ⟨by have := HK1.out; first | omega | exact Nat.le_refl _⟩, by repeat (first | exact Drawn0.refl _ | apply Drawn0.step)⟩
          case rest =>
            clear HC5
            try clear c2
            try clear p2
            try clear q2
            try clear hx2
            try clear c3
            try clear c3b0
            try clear c4
            try clear c4b0
            try clear c6
            try clear c6b0
            try clear c6b1
            try clear c7
            try clear c7b0
            try clear c7b1
            try clear c8
            try clear c8b0
            try clear c8b1
            try clear hx283_0
            try clear p2
            try clear p283
            try clear q283
            obtain ⟨kq, x17_4, rfl, HA, HJ4, ⟨mc4, rfl⟩⟩ := hcut
            cases kq with
            | zero => exact absurd HA.out (by simp [gjson_validany.j1])
            | succ kj4 =>
              have H := HA.out
              clear HA
              simp only [gjson_validany.j1] at H
              by_cases c9 : x17_4 = true
              · subst c9
                have H1 : (gjson_validany.l0 kj4 l0 (wrap64 (x1_1 + 1))) = some (r1, r2) := by rw [if_pos rfl] at H; exact H
                clear H
                have H := H1
                clear H1
                have H' := Aside0.mk H
                clear H
                go_wp2
                go_roundg kj4
                case measure => have := HK1.out; have := HJ4.out; omega
                case rel => exact ⟨(wrap64 (x1_1 + 1)), (by first | rfl | (simp; done) | (simp [*]; done)), H', ⟨by have := HK1.out; have := HJ4.out; omega⟩, by repeat (first | exact Drawn0.refl _ | apply Drawn0.step)⟩
              · replace c9 := Bool.eq_false_iff.mpr c9
                subst c9
                have H1 : (if (rd l0 x1_1) = 123 then ((gjson_validobject.f kj4 l0 (wrap64 (x1_1 + 1))).bind fun bt284 => (some (bt284.1, bt284.2))) else (if (rd l0 x1_1) = 91 then ((gjson_validarray.f kj4 l0 (wrap64 (x1_1 + 1))).bind fun bt286 => (some (bt286.1, bt286.2))) else (if (rd l0 x1_1) = 34 then ((gjson_validstring.f kj4 l0 (wrap64 (x1_1 + 1))).bind fun bt288 => (some (bt288.1, bt288.2))) else (if (rd l0 x1_1) = 45 then (gjson_validany.j2 kj4 l0 x1_1 (rd l0 x1_1) ((rd l0 x1_1) == 45)) else (if (rd l0 x1_1) = 48 then (gjson_validany.j2 kj4 l0 x1_1 (rd l0 x1_1) ((rd l0 x1_1) == 48)) else (if (rd l0 x1_1) = 49 then (gjson_validany.j2 kj4 l0 x1_1 (rd l0 x1_1) ((rd l0 x1_1) == 49)) else (if (rd l0 x1_1) = 50 then (gjson_validany.j2 kj4 l0 x1_1 (rd l0 x1_1) ((rd l0 x1_1) == 50)) else (if (rd l0 x1_1) = 51 then (gjson_validany.j2 kj4 l0 x1_1 (rd l0 x1_1) ((rd l0 x1_1) == 51)) else (if (rd l0 x1_1) = 52 then (gjson_validany.j2 kj4 l0 x1_1 (rd l0 x1_1) ((rd l0 x1_1) == 52)) else (if (rd l0 x1_1) = 53 then (gjson_validany.j2 kj4 l0 x1_1 (rd l0 x1_1) ((rd l0 x1_1) == 53)) else (if (rd l0 x1_1) = 54 then (gjson_validany.j2 kj4 l0 x1_1 (rd l0 x1_1) ((rd l0 x1_1) == 54)) else (if (rd l0 x1_1) = 55 then (gjson_validany.j2 kj4 l0 x1_1 (rd l0 x1_1) ((rd l0 x1_1) == 55)) else (if (rd l0 x1_1) = 56 then (gjson_validany.j2 kj4 l0 x1_1 (rd l0 x1_1) ((rd l0 x1_1) == 56)) else (gjson_validany.j2 kj4 l0 x1_1 (rd l0 x1_1) ((rd l0 x1_1) == 57))))))))))))))) = some (r1, r2) := by rw [if_neg (show ¬ (false = true) by decide)] at H; exact H
                clear H
                have H := H1
                clear H1
                by_cases c10 : (rd l0 x1_1) = 123
                · rw [if_pos c10] at H
                  have c10b0 : ((rd l0 x1_1) == 123) = true := beq_iff_eq.mpr c10
                  have c10b1 : ((rd l0 x1_1) != 123) = false := bne_eq_false_iff_eq.mpr c10
                  clear c10
                  replace H := Option.bind_eq_some_iff.mp H
                  obtain ⟨⟨t284, t285⟩, A110, H⟩ := H
                  replace H : (some (t284, t285)) = some (r1, r2) := H
                  have A11 := Aside0.mk A110
                  clear A110
                  simp only [Option.some.injEq, Prod.mk.injEq] at H
                  obtain ⟨rfl, rfl⟩ := H
                  go_wp2_with (first | ((with_reducible refine gate_callee (f := 27) rfl ?_); refine goesL_ (some 27) rfl rfl Try.func27 (by kernel_rfl) rfl #[.slice (some ad283) l0.length c0, .int .i64 (wrap64 (x1_1 + 1))] rfl (by (try simp only [List.map_toArray, List.map_cons, List.map_nil]); first | done | rfl | (simp only [List.length_drop, List.length_take]; rfl)) ?_; (with_reducible refine (ih_27 kj4 (by have := HK1.out; have := HJ4.out; omega) _ _ l0 (wrap64 (x1_1 + 1)) t284 t285 _ ?side1 ?side2 A11.out).mono ?_); (case side1 => repeat (first | exact HR0.out | (with_reducible refine Kd.C_alloc ?_ _) | (with_reducible refine Kd.C_drewN ?_ _) | (with_reducible refine Kd.C_drew ?_))); (case side2 => exact HC0.out); rintro e w' ⟨rfl, ⟨nd, rfl⟩⟩; refine ⟨_, rfl, ?_⟩))
                  go_ret2
                  exact ⟨by first | rfl | (simp; done) | (simp [*]; done), by repeat (first | exact Drawn0.refl _ | apply Drawn0.step)⟩
                · rw [if_neg c10] at H
                  have c10b0 : ((rd l0 x1_1) == 123) = false := beq_eq_false_iff_ne.mpr c10
                  have c10b1 : ((rd l0 x1_1) != 123) = true := bne_iff_ne.mpr c10
                  by_cases c12 : (rd l0 x1_1) = 91
                  · rw [if_pos c12] at H
                    have c12b0 : ((rd l0 x1_1) == 91) = true := beq_iff_eq.mpr c12
                    have c12b1 : ((rd l0 x1_1) != 91) = false := bne_eq_false_iff_eq.mpr c12
                    clear c12
                    replace H := Option.bind_eq_some_iff.mp H
                    obtain ⟨⟨t286, t287⟩, A130, H⟩ := H
                    replace H : (some (t286, t287)) = some (r1, r2) := H
                    have A13 := Aside0.mk A130
                    clear A130
                    simp only [Option.some.injEq, Prod.mk.injEq] at H
                    obtain ⟨rfl, rfl⟩ := H
                    go_wp2_with (first | ((with_reducible refine gate_callee (f := 28) rfl ?_); refine goesL_ (some 35) rfl rfl Try.func28 (by kernel_rfl) rfl #[.slice (some ad283) l0.length c0, .int .i64 (wrap64 (x1_1 + 1))] rfl (by (try simp only [List.map_toArray, List.map_cons, List.map_nil]); first | done | rfl | (simp only [List.length_drop, List.length_take]; rfl)) ?_; (with_reducible refine (ih_28 kj4 (by have := HK1.out; have := HJ4.out; omega) _ _ l0 (wrap64 (x1_1 + 1)) t286 t287 _ ?side1 ?side2 A13.out).mono ?_); (case side1 => repeat (first | exact HR0.out | (with_reducible refine Kd.C_alloc ?_ _) | (with_reducible refine Kd.C_drewN ?_ _) | (with_reducible refine Kd.C_drew ?_))); (case side2 => exact HC0.out); rintro e w' ⟨rfl, ⟨nd, rfl⟩⟩; refine ⟨_, rfl, ?_⟩))
                    go_ret2
                    exact ⟨by first | rfl | (simp; done) | (simp [*]; done), by repeat (first | exact Drawn0.refl _ | apply Drawn0.step)⟩
                  · rw [if_neg c12] at H
                    have c12b0 : ((rd l0 x1_1) == 91) = false := beq_eq_false_iff_ne.mpr c12
                    have c12b1 : ((rd l0 x1_1) != 91) = true := bne_iff_ne.mpr c12
                    by_cases c14 : (rd l0 x1_1) = 34
                    · rw [if_pos c14] at H
                      have c14b0 : ((rd l0 x1_1) == 34) = true := beq_iff_eq.mpr c14
                      have c14b1 : ((rd l0 x1_1) != 34) = false := bne_eq_false_iff_eq.mpr c14
                      clear c14
                      replace H := Option.bind_eq_some_iff.mp H
                      obtain ⟨⟨t288, t289⟩, A150, H⟩ := H
                      replace H : (some (t288, t289)) = some (r1, r2) := H
                      have A15 := Aside0.mk A150
                      clear A150
                      simp only [Option.some.injEq, Prod.mk.injEq] at H
                      obtain ⟨rfl, rfl⟩ := H
                      go_wp2_with (first | ((with_reducible refine gate_callee (f := 29) rfl ?_); refine goesL_ (some 43) rfl rfl Try.func29 (by kernel_rfl) rfl #[.slice (some ad283) l0.length c0, .int .i64 (wrap64 (x1_1 + 1))] rfl (by (try simp only [List.map_toArray, List.map_cons, List.map_nil]); first | done | rfl | (simp only [List.length_drop, List.length_take]; rfl)) ?_; (with_reducible refine (gjson_validstring.calls kj4 _ _ l0 (wrap64 (x1_1 + 1)) t288 t289 _ ?side1 ?side2 A15.out).mono ?_); (case side1 => repeat (first | exact HR0.out | (with_reducible refine Kd.C_alloc ?_ _) | (with_reducible refine Kd.C_drewN ?_ _) | (with_reducible refine Kd.C_drew ?_))); (case side2 => exact HC0.out); rintro e w' ⟨rfl, ⟨nd, rfl⟩⟩; refine ⟨_, rfl, ?_⟩))
                      go_ret2
                      exact ⟨by first | rfl | (simp; done) | (simp [*]; done), by repeat (first | exact Drawn0.refl _ | apply Drawn0.step)⟩
                    · rw [if_neg c14] at H
                      have c14b0 : ((rd l0 x1_1) == 34) = false := beq_eq_false_iff_ne.mpr c14
                      have c14b1 : ((rd l0 x1_1) != 34) = true := bne_iff_ne.mpr c14
                      have HC16 := Aside0.mk H
                      clear H
                      go_upto_if 46 with (fail)
                      go_cut [46] (fun v46 wc => ∃ (kq : Nat) (x46_15 : Bool), v46 = .bool x46_15 ∧ Aside0 (gjson_validany.j2 kq l0 x1_1 (rd l0 x1_1) x46_15 = some (r1, r2)) ∧ Aside0 (kq ≤ kj4) ∧ Drawn0 w wc)
                      case first =>
                        have H := HC16.out
                        clear HC16
                        by_cases c17 : (rd l0 x1_1) = 45
                        · rw [if_pos c17] at H
                          have c17b0 : ((rd l0 x1_1) == 45) = true := beq_iff_eq.mpr c17
                          have c17b1 : ((rd l0 x1_1) != 45) = false := bne_eq_false_iff_eq.mpr c17
                          clear c17
                          (first | rw [c17b0] | (simp only [i64_w, i32_w]; rw [c17b0]) | skip)
                          have H' := Aside0.mk H
                          clear H
                          go_wp2
                          go_meet
                          case rel => exact ⟨_, (((rd l0 x1_1) == 45)), (by first | rfl | (simp; done) | (simp [*]; done)), H', ⟨by have := HK1.out; have := HJ4.out; first | omega | exact Nat.le_refl _⟩, by repeat (first | exact Drawn0.refl _ | apply Drawn0.step)⟩
                        · rw [if_neg c17] at H
                          have c17b0 : ((rd l0 x1_1) == 45) = false := beq_eq_false_iff_ne.mpr c17
                          have c17b1 : ((rd l0 x1_1) != 45) = true := bne_iff_ne.mpr c17
                          (first | rw [c17b0] | (simp only [i64_w, i32_w]; rw [c17b0]) | skip)
                          by_cases c18 : (rd l0 x1_1) = 48
                          · rw [if_pos c18] at H
                            have c18b0 : ((rd l0 x1_1) == 48) = true := beq_iff_eq.mpr c18
                            have c18b1 : ((rd l0 x1_1) != 48) = false := bne_eq_false_iff_eq.mpr c18
                            clear c18
                            have H' := Aside0.mk H
                            clear H
                            go_wp2
                            go_meet
                            case rel => exact ⟨_, (((rd l0 x1_1) == 48)), (by first | rfl | (simp; done) | (simp [*]; done)), H', ⟨by have := HK1.out; have := HJ4.out; first | omega | exact Nat.le_refl _⟩, by repeat (first | exact Drawn0.refl _ | apply Drawn0.step)⟩
                          · rw [if_neg c18] at H
                            have c18b0 : ((rd l0 x1_1) == 48) = false := beq_eq_false_iff_ne.mpr c18
                            have c18b1 : ((rd l0 x1_1) != 48) = true := bne_iff_ne.mpr c18
                            by_cases c19 : (rd l0 x1_1) = 49
                            · rw [if_pos c19] at H
                              have c19b0 : ((rd l0 x1_1) == 49) = true := beq_iff_eq.mpr c19
                              have c19b1 : ((rd l0 x1_1) != 49) = false := bne_eq_false_iff_eq.mpr c19
                              clear c19
                              have H' := Aside0.mk H
                              clear H
                              go_wp2
                              go_meet
                              case rel => exact ⟨_, (((rd l0 x1_1) == 49)), (by first | rfl | (simp; done) | (simp [*]; done)), H', ⟨by have := HK1.out; have := HJ4.out; first | omega | exact Nat.le_refl _⟩, by repeat (first | exact Drawn0.refl _ | apply Drawn0.step)⟩
                            · rw [if_neg c19] at H
                              have c19b0 : ((rd l0 x1_1) == 49) = false := beq_eq_false_iff_ne.mpr c19
                              have c19b1 : ((rd l0 x1_1) != 49) = true := bne_iff_ne.mpr c19
                              by_cases c20 : (rd l0 x1_1) = 50
                              · rw [if_pos c20] at H
                                have c20b0 : ((rd l0 x1_1) == 50) = true := beq_iff_eq.mpr c20
                                have c20b1 : ((rd l0 x1_1) != 50) = false := bne_eq_false_iff_eq.mpr c20
                                clear c20
                                have H' := Aside0.mk H
                                clear H
                                go_wp2
                                go_meet
                                case rel => exact ⟨_, (((rd l0 x1_1) == 50)), (by first | rfl | (simp; done) | (simp [*]; done)), H', ⟨by have := HK1.out; have := HJ4.out; first | omega | exact Nat.le_refl _⟩, by repeat (first | exact Drawn0.refl _ | apply Drawn0.step)⟩
                              · rw [if_neg c20] at H
                                have c20b0 : ((rd l0 x1_1) == 50) = false := beq_eq_false_iff_ne.mpr c20
                                have c20b1 : ((rd l0 x1_1) != 50) = true := bne_iff_ne.mpr c20
                                by_cases c21 : (rd l0 x1_1) = 51
                                · rw [if_pos c21] at H
                                  have c21b0 : ((rd l0 x1_1) == 51) = true := beq_iff_eq.mpr c21
                                  have c21b1 : ((rd l0 x1_1) != 51) = false := bne_eq_false_iff_eq.mpr c21
                                  clear c21
                                  have H' := Aside0.mk H
                                  clear H
                                  go_wp2
                                  go_meet
                                  case rel => exact ⟨_, (((rd l0 x1_1) == 51)), (by first | rfl | (simp; done) | (simp [*]; done)), H', ⟨by have := HK1.out; have := HJ4.out; first | omega | exact Nat.le_refl _⟩, by repeat (first | exact Drawn0.refl _ | apply Drawn0.step)⟩
                                · rw [if_neg c21] at H
                                  have c21b0 : ((rd l0 x1_1) == 51) = false := beq_eq_false_iff_ne.mpr c21
                                  have c21b1 : ((rd l0 x1_1) != 51) = true := bne_iff_ne.mpr c21
                                  by_cases c22 : (rd l0 x1_1) = 52
                                  · rw [if_pos c22] at H
                                    have c22b0 : ((rd l0 x1_1) == 52) = true := beq_iff_eq.mpr c22
                                    have c22b1 : ((rd l0 x1_1) != 52) = false := bne_eq_false_iff_eq.mpr c22
                                    clear c22
                                    have H' := Aside0.mk H
                                    clear H
                                    go_wp2
                                    go_meet
                                    case rel => exact ⟨_, (((rd l0 x1_1) == 52)), (by first | rfl | (simp; done) | (simp [*]; done)), H', ⟨by have := HK1.out; have := HJ4.out; first | omega | exact Nat.le_refl _⟩, by repeat (first | exact Drawn0.refl _ | apply Drawn0.step)⟩
                                  · rw [if_neg c22] at H
                                    have c22b0 : ((rd l0 x1_1) == 52) = false := beq_eq_false_iff_ne.mpr c22
                                    have c22b1 : ((rd l0 x1_1) != 52) = true := bne_iff_ne.mpr c22
                                    by_cases c23 : (rd l0 x1_1) = 53
                                    · rw [if_pos c23] at H
                                      have c23b0 : ((rd l0 x1_1) == 53) = true := beq_iff_eq.mpr c23
                                      have c23b1 : ((rd l0 x1_1) != 53) = false := bne_eq_false_iff_eq.mpr c23
                                      clear c23
                                      have H' := Aside0.mk H
                                      clear H
                                      go_wp2
                                      go_meet
                                      case rel => exact ⟨_, (((rd l0 x1_1) == 53)), (by first | rfl | (simp; done) | (simp [*]; done)), H', ⟨by have := HK1.out; have := HJ4.out; first | omega | exact Nat.le_refl _⟩, by repeat (first | exact Drawn0.refl _ | apply Drawn0.step)⟩
                                    · rw [if_neg c23] at H
                                      have c23b0 : ((rd l0 x1_1) == 53) = false := beq_eq_false_iff_ne.mpr c23
                                      have c23b1 : ((rd l0 x1_1) != 53) = true := bne_iff_ne.mpr c23
                                      by_cases c24 : (rd l0 x1_1) = 54
                                      · rw [if_pos c24] at H
                                        have c24b0 : ((rd l0 x1_1) == 54) = true := beq_iff_eq.mpr c24
                                        have c24b1 : ((rd l0 x1_1) != 54) = false := bne_eq_false_iff_eq.mpr c24
                                        clear c24
                                        have H' := Aside0.mk H
                                        clear H
                                        go_wp2
                                        go_meet
                                        case rel => exact ⟨_, (((rd l0 x1_1) == 54)), (by first | rfl | (simp; done) | (simp [*]; done)), H', ⟨by have := HK1.out; have := HJ4.out; first | omega | exact Nat.le_refl _⟩, by repeat (first | exact Drawn0.refl _ | apply Drawn0.step)⟩
                                      · rw [if_neg c24] at H
                                        have c24b0 : ((rd l0 x1_1) == 54) = false := beq_eq_false_iff_ne.mpr c24
                                        have c24b1 : ((rd l0 x1_1) != 54) = true := bne_iff_ne.mpr c24
                                        by_cases c25 : (rd l0 x1_1) = 55
                                        · rw [if_pos c25] at H
                                          have c25b0 : ((rd l0 x1_1) == 55) = true := beq_iff_eq.mpr c25
                                          have c25b1 : ((rd l0 x1_1) != 55) = false := bne_eq_false_iff_eq.mpr c25
                                          clear c25
                                          have H' := Aside0.mk H
                                          clear H
                                          go_wp2
                                          go_meet
                                          case rel => exact ⟨_, (((rd l0 x1_1) == 55)), (by first | rfl | (simp; done) | (simp [*]; done)), H', ⟨by have := HK1.out; have := HJ4.out; first | omega | exact Nat.le_refl _⟩, by repeat (first | exact Drawn0.refl _ | apply Drawn0.step)⟩
                                        · rw [if_neg c25] at H
                                          have c25b0 : ((rd l0 x1_1) == 55) = false := beq_eq_false_iff_ne.mpr c25
                                          have c25b1 : ((rd l0 x1_1) != 55) = true := bne_iff_ne.mpr c25
                                          by_cases c26 : (rd l0 x1_1) = 56
                                          · rw [if_pos c26] at H
                                            have c26b0 : ((rd l0 x1_1) == 56) = true := beq_iff_eq.mpr c26
                                            have c26b1 : ((rd l0 x1_1) != 56) = false := bne_eq_false_iff_eq.mpr c26
                                            clear c26
                                            have H' := Aside0.mk H
                                            clear H
                                            go_wp2
                                            go_meet
                                            case rel => exact ⟨_, (((rd l0 x1_1) == 56)), (by first | rfl | (simp; done) | (simp [*]; done)), H', ⟨by have := HK1.out; have := HJ4.out; first | omega | exact Nat.le_refl _⟩, by repeat (first | exact Drawn0.refl _ | apply Drawn0.step)⟩
                                          · rw [if_neg c26] at H
                                            have c26b0 : ((rd l0 x1_1) == 56) = false := beq_eq_false_iff_ne.mpr c26
                                            have c26b1 : ((rd l0 x1_1) != 56) = true := bne_iff_ne.mpr c26
                                            have H' := Aside0.mk H
                                            clear H
                                            go_wp2
                                            go_meet
                                            case rel => exact ⟨_, (((rd l0 x1_1) == 57)), (by first | rfl | (simp; done) | (simp [*]; done)), H', ⟨by have := HK1.out; have := HJ4.out; first | omega | exact Nat.le_refl _⟩, by repeat (first | exact Drawn0.refl _ | apply Drawn0.step)⟩
                      case rest =>
                        clear HC16
                        try clear c1
                        try clear c2
                        try clear p2
                        try clear q2
                        try clear hx2
                        try clear c3
                        try clear c3b0
                        try clear c4
                        try clear c4b0
                        try clear c6
                        try clear c6b0
                        try clear c6b1
                        try clear p6
                        try clear c7
                        try clear c7b0
                        try clear c7b1
                        try clear c8
                        try clear c8b0
                        try clear c8b1
                        try clear c9
                        try clear c10
                        try clear c10b0
                        try clear c10b1
                        try clear c12
                        try clear c12b0
                        try clear c12b1
                        try clear c14
                        try clear c14b0
                        try clear c14b1
                        try clear c17
                        try clear c17b0
                        try clear c17b1
                        try clear c18
                        try clear c18b0
                        try clear c18b1
                        try clear c19
                        try clear c19b0
                        try clear c19b1
                        try clear c20
                        try clear c20b0
                        try clear c20b1
                        try clear c21
                        try clear c21b0
                        try clear c21b1
                        try clear c22
                        try clear c22b0
                        try clear c22b1
                        try clear c23
                        try clear c23b0
                        try clear c23b1
                        try clear c24
                        try clear c24b0
                        try clear c24b1
                        try clear c25
                        try clear c25b0
                        try clear c25b1
                        try clear c26
                        try clear c26b0
                        try clear c26b1
                        try clear hx283_0
                        try clear p2
                        try clear p283
                        try clear q2
                        try clear q283
                        obtain ⟨kq, x46_15, rfl, HA, HJ15, ⟨mc15, rfl⟩⟩ := hcut
                        cases kq with
                        | zero => exact absurd HA.out (by simp [gjson_validany.j2])
                        | succ kj15 =>
                          have H := HA.out
                          clear HA
                          simp only [gjson_validany.j2] at H
                          by_cases c27 : x46_15 = true
                          · subst c27
                            have H1 : ((gjson_validnumber.f l0 (wrap64 (x1_1 + 1))).bind fun bt290 => (some (bt290.1, bt290.2))) = some (r1, r2) := by rw [if_pos rfl] at H; exact H
                            clear H
                            have H := H1
                            clear H1
                            replace H := Option.bind_eq_some_iff.mp H
                            obtain ⟨⟨t290, t291⟩, A280, H⟩ := H
                            replace H : (some (t290, t291)) = some (r1, r2) := H
                            have A28 := Aside0.mk A280
                            clear A280
                            simp only [Option.some.injEq, Prod.mk.injEq] at H
                            obtain ⟨rfl, rfl⟩ := H
                            go_wp2_with (first | ((with_reducible refine gate_callee (f := 30) rfl ?_); refine goesL_ (some 61) rfl rfl Try.func30 (by kernel_rfl) rfl #[.slice (some ad283) l0.length c0, .int .i64 (wrap64 (x1_1 + 1))] rfl (by (try simp only [List.map_toArray, List.map_cons, List.map_nil]); first | done | rfl | (simp only [List.length_drop, List.length_take]; rfl)) ?_; (with_reducible refine (gjson_validnumber.calls _ _ l0 (wrap64 (x1_1 + 1)) t290 t291 _ ?side1 ?side2 A28.out).mono ?_); (case side1 => repeat (first | exact HR0.out | (with_reducible refine Kd.C_alloc ?_ _) | (with_reducible refine Kd.C_drewN ?_ _) | (with_reducible refine Kd.C_drew ?_))); (case side2 => exact HC0.out); rintro e w' ⟨rfl, ⟨nd, rfl⟩⟩; refine ⟨_, rfl, ?_⟩))
                            go_ret2
                            exact ⟨by first | rfl | (simp; done) | (simp [*]; done), by repeat (first | exact Drawn0.refl _ | apply Drawn0.step)⟩
                          · replace c27 := Bool.eq_false_iff.mpr c27
                            subst c27
                            have H1 : (if (rd l0 x1_1) = 116 then ((gjson_validtrue.f l0 (wrap64 (x1_1 + 1))).bind fun bt292 => (some (bt292.1, bt292.2))) else (if (rd l0 x1_1) = 102 then ((gjson_validfalse.f l0 (wrap64 (x1_1 + 1))).bind fun bt294 => (some (bt294.1, bt294.2))) else (if (rd l0 x1_1) = 110 then ((gjson_validnull.f l0 (wrap64 (x1_1 + 1))).bind fun bt296 => (some (bt296.1, bt296.2))) else (some (x1_1, false))))) = some (r1, r2) := by rw [if_neg (show ¬ (false = true) by decide)] at H; exact H
                            clear H
                            have H := H1
                            clear H1
                            by_cases c29 : (rd l0 x1_1) = 116
                            · rw [if_pos c29] at H
                              have c29b0 : ((rd l0 x1_1) == 116) = true := beq_iff_eq.mpr c29
                              have c29b1 : ((rd l0 x1_1) != 116) = false := bne_eq_false_iff_eq.mpr c29
                              clear c29
                              replace H := Option.bind_eq_some_iff.mp H
                              obtain ⟨⟨t292, t293⟩, A300, H⟩ := H
                              replace H : (some (t292, t293)) = some (r1, r2) := H
                              have A30 := Aside0.mk A300
                              clear A300
                              simp only [Option.some.injEq, Prod.mk.injEq] at H
                              obtain ⟨rfl, rfl⟩ := H
                              go_wp2_with (first | ((with_reducible refine gate_callee (f := 31) rfl ?_); refine goesL_ (some 69) rfl rfl Try.func31 (by kernel_rfl) rfl #[.slice (some ad283) l0.length c0, .int .i64 (wrap64 (x1_1 + 1))] rfl (by (try simp only [List.map_toArray, List.map_cons, List.map_nil]); first | done | rfl | (simp only [List.length_drop, List.length_take]; rfl)) ?_; (with_reducible refine (gjson_validtrue.calls _ _ l0 (wrap64 (x1_1 + 1)) t292 t293 _ ?side1 ?side2 A30.out).mono ?_); (case side1 => repeat (first | exact HR0.out | (with_reducible refine Kd.C_alloc ?_ _) | (with_reducible refine Kd.C_drewN ?_ _) | (with_reducible refine Kd.C_drew ?_))); (case side2 => exact HC0.out); rintro e w' ⟨rfl, ⟨nd, rfl⟩⟩; refine ⟨_, rfl, ?_⟩))
                              go_ret2
                              exact ⟨by first | rfl | (simp; done) | (simp [*]; done), by repeat (first | exact Drawn0.refl _ | apply Drawn0.step)⟩
                            · rw [if_neg c29] at H
                              have c29b0 : ((rd l0 x1_1) == 116) = false := beq_eq_false_iff_ne.mpr c29
                              have c29b1 : ((rd l0 x1_1) != 116) = true := bne_iff_ne.mpr c29
                              by_cases c31 : (rd l0 x1_1) = 102
                              · rw [if_pos c31] at H
                                have c31b0 : ((rd l0 x1_1) == 102) = true := beq_iff_eq.mpr c31
                                have c31b1 : ((rd l0 x1_1) != 102) = false := bne_eq_false_iff_eq.mpr c31
                                clear c31
                                replace H := Option.bind_eq_some_iff.mp H
                                obtain ⟨⟨t294, t295⟩, A320, H⟩ := H
                                replace H : (some (t294, t295)) = some (r1, r2) := H
                                have A32 := Aside0.mk A320
                                clear A320
                                simp only [Option.some.injEq, Prod.mk.injEq] at H
                                obtain ⟨rfl, rfl⟩ := H
                                go_wp2_with (first | ((with_reducible refine gate_callee (f := 32) rfl ?_); refine goesL_ (some 77) rfl rfl Try.func32 (by kernel_rfl) rfl #[.slice (some ad283) l0.length c0, .int .i64 (wrap64 (x1_1 + 1))] rfl (by (try simp only [List.map_toArray, List.map_cons, List.map_nil]); first | done | rfl | (simp only [List.length_drop, List.length_take]; rfl)) ?_; (with_reducible refine (gjson_validfalse.calls _ _ l0 (wrap64 (x1_1 + 1)) t294 t295 _ ?side1 ?side2 A32.out).mono ?_); (case side1 => repeat (first | exact HR0.out | (with_reducible refine Kd.C_alloc ?_ _) | (with_reducible refine Kd.C_drewN ?_ _) | (with_reducible refine Kd.C_drew ?_))); (case side2 => exact HC0.out); rintro e w' ⟨rfl, ⟨nd, rfl⟩⟩; refine ⟨_, rfl, ?_⟩))
                                go_ret2
                                exact ⟨by first | rfl | (simp; done) | (simp [*]; done), by repeat (first | exact Drawn0.refl _ | apply Drawn0.step)⟩
                              · rw [if_neg c31] at H
                                have c31b0 : ((rd l0 x1_1) == 102) = false := beq_eq_false_iff_ne.mpr c31
                                have c31b1 : ((rd l0 x1_1) != 102) = true := bne_iff_ne.mpr c31
                                by_cases c33 : (rd l0 x1_1) = 110
                                · rw [if_pos c33] at H
                                  have c33b0 : ((rd l0 x1_1) == 110) = true := beq_iff_eq.mpr c33
                                  have c33b1 : ((rd l0 x1_1) != 110) = false := bne_eq_false_iff_eq.mpr c33
                                  clear c33
                                  replace H := Option.bind_eq_some_iff.mp H
                                  obtain ⟨⟨t296, t297⟩, A340, H⟩ := H
                                  replace H : (some (t296, t297)) = some (r1, r2) := H
                                  have A34 := Aside0.mk A340
                                  clear A340
                                  simp only [Option.some.injEq, Prod.mk.injEq] at H
                                  obtain ⟨rfl, rfl⟩ := H
                                  go_wp2_with (first | ((with_reducible refine gate_callee (f := 33) rfl ?_); refine goesL_ (some 85) rfl rfl Try.func33 (by kernel_rfl) rfl #[.slice (some ad283) l0.length c0, .int .i64 (wrap64 (x1_1 + 1))] rfl (by (try simp only [List.map_toArray, List.map_cons, List.map_nil]); first | done | rfl | (simp only [List.length_drop, List.length_take]; rfl)) ?_; (with_reducible refine (gjson_validnull.calls _ _ l0 (wrap64 (x1_1 + 1)) t296 t297 _ ?side1 ?side2 A34.out).mono ?_); (case side1 => repeat (first | exact HR0.out | (with_reducible refine Kd.C_alloc ?_ _) | (with_reducible refine Kd.C_drewN ?_ _) | (with_reducible refine Kd.C_drew ?_))); (case side2 => exact HC0.out); rintro e w' ⟨rfl, ⟨nd, rfl⟩⟩; refine ⟨_, rfl, ?_⟩))
                                  go_ret2
                                  exact ⟨by first | rfl | (simp; done) | (simp [*]; done), by repeat (first | exact Drawn0.refl _ | apply Drawn0.step)⟩
                                · rw [if_neg c33] at H
                                  have c33b0 : ((rd l0 x1_1) == 110) = false := beq_eq_false_iff_ne.mpr c33
                                  have c33b1 : ((rd l0 x1_1) != 110) = true := bne_iff_ne.mpr c33
                                  simp only [Option.some.injEq, Prod.mk.injEq] at H
                                  obtain ⟨rfl, rfl⟩ := H
                                  go_wp2
                                  go_ret2
                                  exact ⟨by first | rfl | (simp; done) | (simp [*]; done), by repeat (first | exact Drawn0.refl _ | apply Drawn0.step)⟩
        · rw [if_neg c4] at H
          exact absurd H (by simp)
      · rw [if_neg c3] at H
        have c3b0 : decide (x1_1 < (l0.length : Int)) = false := decide_eq_false c3
        clear c3
        simp only [Option.some.injEq, Prod.mk.injEq] at H
        obtain ⟨rfl, rfl⟩ := H
        go_wp2
        go_ret2
        exact ⟨by first | rfl | (simp; done) | (simp [*]; done), by repeat (first | exact Drawn0.refl _ | apply Drawn0.step)⟩
set_option maxHeartbeats 4000000 in
set_option maxRecDepth 100000 in
theorem gjson_validobject.step (k : Nat) (ih_21 : ∀ m, m < k + 1 → ∀ (A0 : Option Addr) (c0 : Nat) (l0 : List Int) (a1 : Int) (r1 : Int) (r2 : Bool) (w : World) (hr0 : Kd.C (Kd.int .u8) w A0 l0.length l0) (hc0 : l0.length ≤ c0) (h : gjson_validany.f m l0 a1 = some (r1, r2)),
    Calls Try.prog 21 #[.slice A0 l0.length c0, .int .i64 a1] w fun e w' => e = .returned (.tuple #[.int .i64 r1, .bool r2]) ∧ Drawn0 w w') (ih_27 : ∀ m, m < k + 1 → ∀ (A0 : Option Addr) (c0 : Nat) (l0 : List Int) (a1 : Int) (r1 : Int) (r2 : Bool) (w : World) (hr0 : Kd.C (Kd.int .u8) w A0 l0.length l0) (hc0 : l0.length ≤ c0) (h : gjson_validobject.f m l0 a1 = some (r1, r2)),
    Calls Try.prog 27 #[.slice A0 l0.length c0, .int .i64 a1] w fun e w' => e = .returned (.tuple #[.int .i64 r1, .bool r2]) ∧ Drawn0 w w') (ih_28 : ∀ m, m < k + 1 → ∀ (A0 : Option Addr) (c0 : Nat) (l0 : List Int) (a1 : Int) (r1 : Int) (r2 : Bool) (w : World) (hr0 : Kd.C (Kd.int .u8) w A0 l0.length l0) (hc0 : l0.length ≤ c0) (h : gjson_validarray.f m l0 a1 = some (r1, r2)),
    Calls Try.prog 28 #[.slice A0 l0.length c0, .int .i64 a1] w fun e w' => e = .returned (.tuple #[.int .i64 r1, .bool r2]) ∧ Drawn0 w w') : ∀ (A0 : Option Addr) (c0 : Nat) (l0 : List Int) (a1 : Int) (r1 : Int) (r2 : Bool) (w : World) (hr0 : Kd.C (Kd.int .u8) w A0 l0.length l0) (hc0 : l0.length ≤ c0) (h : gjson_validobject.f (k + 1) l0 a1 = some (r1, r2)),
    Calls Try.prog 27 #[.slice A0 l0.length c0, .int .i64 a1] w fun e w' => e = .returned (.tuple #[.int .i64 r1, .bool r2]) ∧ Drawn0 w w' := by
  intro A0 c0 l0 a1 r1 r2 w hr0 hc0 h
  simp only [gjson_validobject.f] at h
  split at h
  case isFalse => cases h
  case isTrue hp =>
  obtain ⟨ha0, ha1, hb⟩ := hp
  obtain ⟨i, rfl⟩ := Int.eq_ofNat_of_zero_le ha0
  rw [Int.toNat_natCast] at h
  by_cases hpos : 0 < l0.length
  case neg =>
    obtain rfl : i = 0 := by omega
    rw [if_neg (by have := bEnd_le l0 l0.length 0 (by omega); omega)] at h
    have hz : bEnd l0 l0.length 0 = 0 := by have := bEnd_le l0 l0.length 0 (by omega); omega
    rw [hz] at h
    simp only [Option.some.injEq, Prod.mk.injEq] at h
    obtain ⟨rfl, rfl⟩ := h
    clear hz
    have hn : (l0.length : Int) = 0 := by omega
    rw [show l0.length = 0 by omega]
    clear hn hr0
    go_enter Try.func27, Try.ntmps27
    go_wp2
    refine wp_loop_rounds 1 ?_
    rw [rounds_succ]
    go_wp2
    go_ret2
    exact ⟨rfl, Drawn0.refl _⟩
  obtain ⟨ad, rfl, hc⟩ := (Kd.reads_of_C (enc := Value.int .u8) (d := (0 : Int)) (h1 := fun _ => rfl) hr0).2.2 hpos
  have hge := bEnd_ge l0 l0.length i
  have hle := bEnd_le l0 l0.length i (by omega)
  have hbl := bEnd_blank l0 l0.length i
  have hst := bEnd_stop l0 l0.length i (by omega)
  generalize bEnd l0 l0.length i = e at h hge hle hbl hst
  have HC := Lib.hid hc
  have HR := Aside0.mk hr0
  have HP := Lib.hid hbl
  have HS := Lib.hid hst
  have H := Aside0.mk h
  clear hc hr0 hbl hst h
  go_enter Try.func27, Try.ntmps27
  go_wp2
  go_loop [1] (fun v => ∃ j : Nat, i ≤ j ∧ j ≤ e ∧ v = .int .i64 j) (fun v => e - (intOf v).toNat)
  case atStart => exact ⟨i, Nat.le_refl _, hge, rfl⟩
  case round =>
    obtain ⟨j, h1, h2, rfl⟩ := hrel
    by_cases hlt : j < e
    · have hcell := HC.out j (by omega)
      have hpl := HP.out j h1 hlt
      generalize l0.getD j 0 = x at hcell hpl
      rcases hpl with rfl | rfl | rfl | rfl
      all_goals (go_wp2; go_round)
      all_goals first | exact ⟨j + 1, by omega, by omega, by go_num⟩ | (simp [intOf]; omega)
    · obtain rfl : j = e := by omega
      have h := H.out
      by_cases hlt2 : j < l0.length
      case neg =>
        rw [if_neg hlt2] at h
        simp only [Option.some.injEq, Prod.mk.injEq] at h
        obtain ⟨rfl, rfl⟩ := h
        clear hlt
        go_wp2
        go_ret2
        exact ⟨rfl, Drawn0.refl _⟩
      rw [if_pos hlt2] at h
      have hcell := HC.out j hlt2
      have hns := HS.out hlt2
      by_cases h125 : l0.getD j 0 = 125
      · rw [if_pos h125] at h
        simp only [Option.some.injEq, Prod.mk.injEq] at h
        obtain ⟨rfl, rfl⟩ := h
        rw [h125] at hcell
        clear hlt h125 hns
        go_wp2
        go_ret2
        exact ⟨rfl, Drawn0.refl _⟩
      rw [if_neg h125] at h
      by_cases h34 : l0.getD j 0 = 34
      case neg =>
        rw [if_neg h34] at h
        simp only [Option.some.injEq, Prod.mk.injEq] at h
        obtain ⟨rfl, rfl⟩ := h
        generalize l0.getD j 0 = x at hcell hns h34 h125
        have p1 : (x == 32) = false := by rw [beq_eq_false_iff_ne]; intro e; exact hns (.inl e)
        have p2 : (x == 9) = false := by rw [beq_eq_false_iff_ne]; intro e; exact hns (.inr (.inl e))
        have p3 : (x == 10) = false := by rw [beq_eq_false_iff_ne]; intro e; exact hns (.inr (.inr (.inl e)))
        have p4 : (x == 13) = false := by rw [beq_eq_false_iff_ne]; intro e; exact hns (.inr (.inr (.inr e)))
        have p5 : (x == 125) = false := by rw [beq_eq_false_iff_ne]; exact h125
        have p6 : (x == 34) = false := by rw [beq_eq_false_iff_ne]; exact h34
        clear hlt hns h34 h125
        go_wp2
        go_ret2
        exact ⟨rfl, Drawn0.refl _⟩
      rw [if_pos h34] at h
      have HG := Aside0.mk h
      have H34 := Aside0.mk h34
      rw [h34] at hcell
      clear h h34 h125 hns hlt H
      go_wp2
      refine wp_scope_label 0 (fun a' w' => ∃ (j m : Nat) (u2 u3 u4 u5 u6 u7 u8 u9 u10 u11 u12 u13 u14 u15 u16 u17 u18 u19 u20 u21 u22 u23 u24 u25 u26 u27 u28 u29 u30 u31 u32 u33 u34 u35 u36 u37 u38 u39 u40 u41 u42 u43 u44 u45 u46 u47 u48 u49 u50 u51 u52 u53 u54 u55 u56 u57 u58 u59 u60 u61 u62 u63 u64 u65 u66 u67 u68 u69 u70 u71 u72 u73 u74 u75 u76 u77 u78 u79 u80 u81 u82 u83 u84 u85 u86 u87 u88 u89 u90 u91 u92 u93 : Value), Aside0 (Drawn0 w w') ∧ a' = { tmps := #[.slice (some ad) l0.length c0, .int .i64 j, u2, u3, u4, u5, u6, u7, u8, u9, u10, u11, u12, u13, u14, u15, u16, u17, u18, u19, u20, u21, u22, u23, u24, u25, u26, u27, u28, u29, u30, u31, u32, u33, u34, u35, u36, u37, u38, u39, u40, u41, u42, u43, u44, u45, u46, u47, u48, u49, u50, u51, u52, u53, u54, u55, u56, u57, u58, u59, u60, u61, u62, u63, u64, u65, u66, u67, u68, u69, u70, u71, u72, u73, u74, u75, u76, u77, u78, u79, u80, u81, u82, u83, u84, u85, u86, u87, u88, u89, u90, u91, u92, u93], defers := [] } ∧ j < l0.length ∧ Aside0 (l0.getD j 0 = 34) ∧ Aside0 (gjson_validobject.g0 m l0 j = some (r1, r2)) ∧ m ≤ k) (fun a' _ => l0.length - (intOf (a'.tmps.getD 1 undef)).toNat) ?_ ?_
      · exact ⟨j, k, _, _, _, _, _, _, _, _, _, _, _, _, _, _, _, _, _, _, _, _, _, _, _, _, _, _, _, _, _, _, _, _, _, _, _, _, _, _, _, _, _, _, _, _, _, _, _, _, _, _, _, _, _, _, _, _, _, _, _, _, _, _, _, _, _, _, _, _, _, _, _, _, _, _, _, _, _, _, _, _, _, _, _, _, _, _, _, _, _, _, _, _, ⟨Drawn0.refl _⟩, rfl, hlt2, H34, HG, Nat.le_refl _⟩
      · clear hcell HG H34 hlt2 h1 h2 hge hle HP HS ha0 ha1
        intro a' w0 hJ Q0 hret hgoto
        have HRET := Lib.hid (show ∀ a' w', bodyPost Try.prog Try.f27 (fun e w' => e = .returned (.tuple #[.int .i64 r1, .bool r2]) ∧ Drawn0 w w') .ret a' w' → Q0 .ret a' w' from hret)
        have HGOTO := Lib.hid hgoto
        clear hret hgoto
        obtain ⟨j, hJ⟩ := hJ
        obtain ⟨m, hJ⟩ := hJ
        obtain ⟨u2, hJ⟩ := hJ
        obtain ⟨u3, hJ⟩ := hJ
        obtain ⟨u4, hJ⟩ := hJ
        obtain ⟨u5, hJ⟩ := hJ
        obtain ⟨u6, hJ⟩ := hJ
        obtain ⟨u7, hJ⟩ := hJ
        obtain ⟨u8, hJ⟩ := hJ
        obtain ⟨u9, hJ⟩ := hJ
        obtain ⟨u10, hJ⟩ := hJ
        obtain ⟨u11, hJ⟩ := hJ
        obtain ⟨u12, hJ⟩ := hJ
        obtain ⟨u13, hJ⟩ := hJ
        obtain ⟨u14, hJ⟩ := hJ
        obtain ⟨u15, hJ⟩ := hJ
        obtain ⟨u16, hJ⟩ := hJ
        obtain ⟨u17, hJ⟩ := hJ
        obtain ⟨u18, hJ⟩ := hJ
        obtain ⟨u19, hJ⟩ := hJ
        obtain ⟨u20, hJ⟩ := hJ
        obtain ⟨u21, hJ⟩ := hJ
        obtain ⟨u22, hJ⟩ := hJ
        obtain ⟨u23, hJ⟩ := hJ
        obtain ⟨u24, hJ⟩ := hJ
        obtain ⟨u25, hJ⟩ := hJ
        obtain ⟨u26, hJ⟩ := hJ
        obtain ⟨u27, hJ⟩ := hJ
        obtain ⟨u28, hJ⟩ := hJ
        obtain ⟨u29, hJ⟩ := hJ
        obtain ⟨u30, hJ⟩ := hJ
        obtain ⟨u31, hJ⟩ := hJ
        obtain ⟨u32, hJ⟩ := hJ
        obtain ⟨u33, hJ⟩ := hJ
        obtain ⟨u34, hJ⟩ := hJ
        obtain ⟨u35, hJ⟩ := hJ
        obtain ⟨u36, hJ⟩ := hJ
        obtain ⟨u37, hJ⟩ := hJ
        obtain ⟨u38, hJ⟩ := hJ
        obtain ⟨u39, hJ⟩ := hJ
        obtain ⟨u40, hJ⟩ := hJ
        obtain ⟨u41, hJ⟩ := hJ
        obtain ⟨u42, hJ⟩ := hJ
        obtain ⟨u43, hJ⟩ := hJ
        obtain ⟨u44, hJ⟩ := hJ
        obtain ⟨u45, hJ⟩ := hJ
        obtain ⟨u46, hJ⟩ := hJ
        obtain ⟨u47, hJ⟩ := hJ
        obtain ⟨u48, hJ⟩ := hJ
        obtain ⟨u49, hJ⟩ := hJ
        obtain ⟨u50, hJ⟩ := hJ
        obtain ⟨u51, hJ⟩ := hJ
        obtain ⟨u52, hJ⟩ := hJ
        obtain ⟨u53, hJ⟩ := hJ
        obtain ⟨u54, hJ⟩ := hJ
        obtain ⟨u55, hJ⟩ := hJ
        obtain ⟨u56, hJ⟩ := hJ
        obtain ⟨u57, hJ⟩ := hJ
        obtain ⟨u58, hJ⟩ := hJ
        obtain ⟨u59, hJ⟩ := hJ
        obtain ⟨u60, hJ⟩ := hJ
        obtain ⟨u61, hJ⟩ := hJ
        obtain ⟨u62, hJ⟩ := hJ
        obtain ⟨u63, hJ⟩ := hJ
        obtain ⟨u64, hJ⟩ := hJ
        obtain ⟨u65, hJ⟩ := hJ
        obtain ⟨u66, hJ⟩ := hJ
        obtain ⟨u67, hJ⟩ := hJ
        obtain ⟨u68, hJ⟩ := hJ
        obtain ⟨u69, hJ⟩ := hJ
        obtain ⟨u70, hJ⟩ := hJ
        obtain ⟨u71, hJ⟩ := hJ
        obtain ⟨u72, hJ⟩ := hJ
        obtain ⟨u73, hJ⟩ := hJ
        obtain ⟨u74, hJ⟩ := hJ
        obtain ⟨u75, hJ⟩ := hJ
        obtain ⟨u76, hJ⟩ := hJ
        obtain ⟨u77, hJ⟩ := hJ
        obtain ⟨u78, hJ⟩ := hJ
        obtain ⟨u79, hJ⟩ := hJ
        obtain ⟨u80, hJ⟩ := hJ
        obtain ⟨u81, hJ⟩ := hJ
        obtain ⟨u82, hJ⟩ := hJ
        obtain ⟨u83, hJ⟩ := hJ
        obtain ⟨u84, hJ⟩ := hJ
        obtain ⟨u85, hJ⟩ := hJ
        obtain ⟨u86, hJ⟩ := hJ
        obtain ⟨u87, hJ⟩ := hJ
        obtain ⟨u88, hJ⟩ := hJ
        obtain ⟨u89, hJ⟩ := hJ
        obtain ⟨u90, hJ⟩ := hJ
        obtain ⟨u91, hJ⟩ := hJ
        obtain ⟨u92, hJ⟩ := hJ
        obtain ⟨u93, hJ⟩ := hJ
        obtain ⟨HD, rfl, hj, H34, HG, hm⟩ := hJ
        have hg := HG.out
        cases m with
        | zero => simp [gjson_validobject.g0] at hg
        | succ m =>
          simp only [gjson_validobject.g0] at hg
          replace hg := Option.bind_eq_some_iff.mp hg
          obtain ⟨⟨s1, s2⟩, ha, hg⟩ := hg
          have HA := Aside0.mk ha
          clear ha HG
          cases s2 with
          | false =>
            rw [if_pos rfl] at hg
            simp only [Option.some.injEq, Prod.mk.injEq] at hg
            obtain ⟨rfl, rfl⟩ := hg
            go_wp2_with ((go_at_call 29; refine (gjson_validstring.calls m _ c0 l0 _ _ _ _ (C_drawn HD.out HR.out) hc0 HA.out).mono ?_; rintro e w1 ⟨rfl, hd⟩; have HD1 := Aside0.mk (drawn_trans HD.out hd); clear hd))
            refine HRET.out _ _ ?_; go_ret2
            exact ⟨rfl, HD1.out⟩
          | true =>
            rw [if_neg (by simp)] at hg
            replace hg := Option.bind_eq_some_iff.mp hg
            obtain ⟨⟨b1, b2⟩, hx, hg⟩ := hg
            have HB := Aside0.mk hx
            clear hx
            cases b2 with
            | false =>
              rw [if_pos rfl] at hg
              simp only [Option.some.injEq, Prod.mk.injEq] at hg
              obtain ⟨rfl, rfl⟩ := hg
              go_wp2_with (first | (go_at_call 29; refine (gjson_validstring.calls m _ c0 l0 _ _ _ _ (C_drawn HD.out HR.out) hc0 HA.out).mono ?_; rintro e w1 ⟨rfl, hd⟩; have HD1 := Aside0.mk (drawn_trans HD.out hd); clear hd) | (go_at_call 35; refine (gjson_validcolon.calls m _ c0 l0 _ _ _ _ (C_drawn HD1.out HR.out) hc0 HB.out).mono ?_; rintro e w2 ⟨rfl, hd⟩; have HD2 := Aside0.mk (drawn_trans HD1.out hd); clear hd))
              refine HRET.out _ _ ?_; go_ret2
              exact ⟨rfl, HD2.out⟩
            | true =>
              rw [if_neg (by simp)] at hg
              replace hg := Option.bind_eq_some_iff.mp hg
              obtain ⟨⟨c1, c2⟩, hx, hg⟩ := hg
              have HIV := Lib.hid (fun (w2 : World) (hd : Drawn0 w w2) => ih_21 m (by omega) (some ad) c0 l0 b1 c1 c2 w2 (C_drawn hd HR.out) hc0 hx)
              clear hx
              cases c2 with
              | false =>
                rw [if_pos rfl] at hg
                simp only [Option.some.injEq, Prod.mk.injEq] at hg
                obtain ⟨rfl, rfl⟩ := hg
                go_wp2_with (first | (go_at_call 29; refine (gjson_validstring.calls m _ c0 l0 _ _ _ _ (C_drawn HD.out HR.out) hc0 HA.out).mono ?_; rintro e w1 ⟨rfl, hd⟩; have HD1 := Aside0.mk (drawn_trans HD.out hd); clear hd) | (go_at_call 35; refine (gjson_validcolon.calls m _ c0 l0 _ _ _ _ (C_drawn HD1.out HR.out) hc0 HB.out).mono ?_; rintro e w2 ⟨rfl, hd⟩; have HD2 := Aside0.mk (drawn_trans HD1.out hd); clear hd) | (go_at_call 21; refine (HIV.out _ HD2.out).mono ?_; rintro e w3 ⟨rfl, hd⟩; have HD3 := Aside0.mk (drawn_trans HD2.out hd); clear hd))
                refine HRET.out _ _ ?_; go_ret2
                exact ⟨rfl, HD3.out⟩
              | true =>
                rw [if_neg (by simp)] at hg
                replace hg := Option.bind_eq_some_iff.mp hg
                obtain ⟨⟨d1, d2⟩, hx, hg⟩ := hg
                cases d2 with
                | false =>
                  have HM := Aside0.mk hx
                  clear hx
                  rw [if_pos rfl] at hg
                  simp only [Option.some.injEq, Prod.mk.injEq] at hg
                  obtain ⟨rfl, rfl⟩ := hg
                  go_wp2_with (first | (go_at_call 29; refine (gjson_validstring.calls m _ c0 l0 _ _ _ _ (C_drawn HD.out HR.out) hc0 HA.out).mono ?_; rintro e w1 ⟨rfl, hd⟩; have HD1 := Aside0.mk (drawn_trans HD.out hd); clear hd) | (go_at_call 35; refine (gjson_validcolon.calls m _ c0 l0 _ _ _ _ (C_drawn HD1.out HR.out) hc0 HB.out).mono ?_; rintro e w2 ⟨rfl, hd⟩; have HD2 := Aside0.mk (drawn_trans HD1.out hd); clear hd) | (go_at_call 21; refine (HIV.out _ HD2.out).mono ?_; rintro e w3 ⟨rfl, hd⟩; have HD3 := Aside0.mk (drawn_trans HD2.out hd); clear hd) | (go_at_call 36; refine (gjson_validcomma.calls m _ c0 l0 _ 125 _ _ _ (C_drawn HD3.out HR.out) hc0 HM.out).mono ?_; rintro e w4 ⟨rfl, hd⟩; have HD4 := Aside0.mk (drawn_trans HD3.out hd); clear hd))
                  refine HRET.out _ _ ?_; go_ret2
                  exact ⟨rfl, HD4.out⟩
                | true =>
                  rw [if_neg (by simp)] at hg
                  split at hg
                  case isFalse => cases hg
                  case isTrue hq =>
                  obtain ⟨hq0, hq1⟩ := hq
                  obtain ⟨q, rfl⟩ := Int.eq_ofNat_of_zero_le hq0
                  have HM := Aside0.mk hx
                  clear hx hq0
                  simp only [Int.toNat_natCast] at hg
                  have hql : q < l0.length := by omega
                  by_cases h125 : l0.getD q 0 = 125
                  · rw [if_pos h125] at hg
                    simp only [Option.some.injEq, Prod.mk.injEq] at hg
                    obtain ⟨rfl, rfl⟩ := hg
                    have H125 := Aside0.mk h125
                    clear h125
                    go_wp2_with (first | (go_at_call 29; refine (gjson_validstring.calls m _ c0 l0 _ _ _ _ (C_drawn HD.out HR.out) hc0 HA.out).mono ?_; rintro e w1 ⟨rfl, hd⟩; have HD1 := Aside0.mk (drawn_trans HD.out hd); clear hd) | (go_at_call 35; refine (gjson_validcolon.calls m _ c0 l0 _ _ _ _ (C_drawn HD1.out HR.out) hc0 HB.out).mono ?_; rintro e w2 ⟨rfl, hd⟩; have HD2 := Aside0.mk (drawn_trans HD1.out hd); clear hd) | (go_at_call 21; refine (HIV.out _ HD2.out).mono ?_; rintro e w3 ⟨rfl, hd⟩; have HD3 := Aside0.mk (drawn_trans HD2.out hd); clear hd) | (go_at_call 36; refine (gjson_validcomma.calls m _ c0 l0 _ 125 _ _ _ (C_drawn HD3.out HR.out) hc0 HM.out).mono ?_; rintro e w4 ⟨rfl, hd⟩; have HD4 := Aside0.mk (drawn_trans HD3.out hd); clear hd; have hcl := (cell_drawn HD4.out (ad.add q)).trans (HC.out q hql); rw [H125.out] at hcl))
                    refine HRET.out _ _ ?_; go_ret2
                    exact ⟨rfl, HD4.out⟩
                  rw [if_neg h125] at hg
                  have H125 := Aside0.mk h125
                  clear h125
                  have hge := bEnd_ge l0 l0.length (q + 1)
                  have hle := bEnd_le l0 l0.length (q + 1) (by omega)
                  have hbl := bEnd_blank l0 l0.length (q + 1)
                  have hst := bEnd_stop l0 l0.length (q + 1) (by omega)
                  generalize bEnd l0 l0.length (q + 1) = e2 at hg hge hle hbl hst
                  have HP := Lib.hid hbl
                  have HS := Lib.hid hst
                  have H := Aside0.mk hg
                  clear hbl hst hg
                  go_wp2_with (first | (go_at_call 29; refine (gjson_validstring.calls m _ c0 l0 _ _ _ _ (C_drawn HD.out HR.out) hc0 HA.out).mono ?_; rintro e w1 ⟨rfl, hd⟩; have HD1 := Aside0.mk (drawn_trans HD.out hd); clear hd) | (go_at_call 35; refine (gjson_validcolon.calls m _ c0 l0 _ _ _ _ (C_drawn HD1.out HR.out) hc0 HB.out).mono ?_; rintro e w2 ⟨rfl, hd⟩; have HD2 := Aside0.mk (drawn_trans HD1.out hd); clear hd) | (go_at_call 21; refine (HIV.out _ HD2.out).mono ?_; rintro e w3 ⟨rfl, hd⟩; have HD3 := Aside0.mk (drawn_trans HD2.out hd); clear hd) | (go_at_call 36; refine (gjson_validcomma.calls m _ c0 l0 _ 125 _ _ _ (C_drawn HD3.out HR.out) hc0 HM.out).mono ?_; rintro e w4 ⟨rfl, hd⟩; have HD4 := Aside0.mk (drawn_trans HD3.out hd); clear hd; have hcl := (cell_drawn HD4.out (ad.add q)).trans (HC.out q hql); have hn5 : (l0.getD q 0 == 125) = false := beq_eq_false_iff_ne.mpr H125.out; generalize l0.getD q 0 = x5 at hcl hn5))
                  clear hcl
                  have HC4 := Lib.hid (fun t (ht : t < l0.length) => (cell_drawn HD4.out (ad.add t)).trans (HC.out t ht))
                  go_loop [1] (fun v => ∃ t : Nat, q + 1 ≤ t ∧ t ≤ e2 ∧ v = .int .i64 t) (fun v => e2 - (intOf v).toNat)
                  case atStart => exact ⟨q + 1, Nat.le_refl _, hge, by go_num⟩
                  case round =>
                    obtain ⟨t, h1, h2, rfl⟩ := hrel
                    by_cases hlt : t < e2
                    · have hcell := HC4.out t (by omega)
                      have hpl := HP.out t h1 hlt
                      generalize l0.getD t 0 = x at hcell hpl
                      rcases hpl with rfl | rfl | rfl | rfl
                      all_goals (go_wp2; go_round)
                      all_goals first | exact ⟨t + 1, by omega, by omega, by go_num⟩ | (simp [intOf]; omega)
                    · obtain rfl : t = e2 := by omega
                      have h := H.out
                      by_cases hlt2 : t < l0.length
                      case neg =>
                        rw [if_neg hlt2] at h
                        simp only [Option.some.injEq, Prod.mk.injEq] at h
                        obtain ⟨rfl, rfl⟩ := h
                        clear hlt
                        go_wp2
                        refine HRET.out _ _ ?_; go_ret2
                        exact ⟨rfl, HD4.out⟩
                      rw [if_pos hlt2] at h
                      have hcell := HC4.out t hlt2
                      have hns := HS.out hlt2
                      by_cases h34 : l0.getD t 0 = 34
                      case neg =>
                        rw [if_neg h34] at h
                        simp only [Option.some.injEq, Prod.mk.injEq] at h
                        obtain ⟨rfl, rfl⟩ := h
                        generalize l0.getD t 0 = x at hcell hns h34
                        have p1 : (x == 32) = false := by rw [beq_eq_false_iff_ne]; intro e; exact hns (.inl e)
                        have p2 : (x == 9) = false := by rw [beq_eq_false_iff_ne]; intro e; exact hns (.inr (.inl e))
                        have p3 : (x == 10) = false := by rw [beq_eq_false_iff_ne]; intro e; exact hns (.inr (.inr (.inl e)))
                        have p4 : (x == 13) = false := by rw [beq_eq_false_iff_ne]; intro e; exact hns (.inr (.inr (.inr e)))
                        have p6 : (x == 34) = false := by rw [beq_eq_false_iff_ne]; exact h34
                        clear hlt hns h34
                        go_wp2
                        refine HRET.out _ _ ?_; go_ret2
                        exact ⟨rfl, HD4.out⟩
                      rw [if_pos h34] at h
                      split at h
                      case isFalse => cases h
                      case isTrue hjt =>
                      have HG := Aside0.mk h
                      have H34' := Aside0.mk h34
                      rw [h34] at hcell
                      clear h h34 hns hlt H
                      go_wp2
                      go_step3
                      refine HGOTO.out _ _ ?_ ?_
                      · exact ⟨t, m, _, _, _, _, _, _, _, _, _, _, _, _, _, _, _, _, _, _, _, _, _, _, _, _, _, _, _, _, _, _, _, _, _, _, _, _, _, _, _, _, _, _, _, _, _, _, _, _, _, _, _, _, _, _, _, _, _, _, _, _, _, _, _, _, _, _, _, _, _, _, _, _, _, _, _, _, _, _, _, _, _, _, _, _, _, _, _, _, _, _, _, _, HD4, rfl, hlt2, H34', HG, by omega⟩
                      · simp [intOf]
                        omega
end Go.Proofs.Ytphpjboljlkdkaa.PFnGjValidCut
