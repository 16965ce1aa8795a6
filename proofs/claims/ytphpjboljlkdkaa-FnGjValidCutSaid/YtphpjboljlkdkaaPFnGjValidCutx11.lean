/- Written by a program of this session (a turned copy of the print) out of the translation. -/
import Derived.Test.YtphpjboljlkdkaaPFnGjValidCutx0
import Derived.Test.YtphpjboljlkdkaaPFnGjValidCutx6
import Derived.Test.YtphpjboljlkdkaaPFnGjValidCutx9
import Derived.Test.YtphpjboljlkdkaaPFnGjValidCutx10
namespace Go.Proofs.Ytphpjboljlkdkaa.PFnGjValidCut
open Go.RowKit Go.Proofs.YtphpjboljlkdkaaW.PrintWords Go.Proofs.YtphpjboljlkdkaaW.PrintLast Go.Proofs.YtphpjboljlkdkaaW.PrintMore
attribute [local go_sem] max2_int min2_int max_two min_two max_three min_three max_four min_four   -- for this text's walks alone
set_option linter.unusedVariables false
set_option linter.unusedSimpArgs false
set_option maxHeartbeats 8000000 in
set_option maxRecDepth 100000 in
theorem gjson_validarray.step (k : Nat) (ih_21 : ∀ m, m < k + 1 → ∀ (A0 : Option Addr) (c0 : Nat) (l0 : List Int) (a1 : Int) (r1 : Int) (r2 : Bool) (w : World) (hr0 : Kd.C (Kd.int .u8) w A0 l0.length l0) (hc0 : l0.length ≤ c0) (h : gjson_validany.f m l0 a1 = some (r1, r2)),
    Calls Try.prog 21 #[.slice A0 l0.length c0, .int .i64 a1] w fun e w' => e = .returned (.tuple #[.int .i64 r1, .bool r2]) ∧ Drawn0 w w') (ih_27 : ∀ m, m < k + 1 → ∀ (A0 : Option Addr) (c0 : Nat) (l0 : List Int) (a1 : Int) (r1 : Int) (r2 : Bool) (w : World) (hr0 : Kd.C (Kd.int .u8) w A0 l0.length l0) (hc0 : l0.length ≤ c0) (h : gjson_validobject.f m l0 a1 = some (r1, r2)),
    Calls Try.prog 27 #[.slice A0 l0.length c0, .int .i64 a1] w fun e w' => e = .returned (.tuple #[.int .i64 r1, .bool r2]) ∧ Drawn0 w w') (ih_28 : ∀ m, m < k + 1 → ∀ (A0 : Option Addr) (c0 : Nat) (l0 : List Int) (a1 : Int) (r1 : Int) (r2 : Bool) (w : World) (hr0 : Kd.C (Kd.int .u8) w A0 l0.length l0) (hc0 : l0.length ≤ c0) (h : gjson_validarray.f m l0 a1 = some (r1, r2)),
    Calls Try.prog 28 #[.slice A0 l0.length c0, .int .i64 a1] w fun e w' => e = .returned (.tuple #[.int .i64 r1, .bool r2]) ∧ Drawn0 w w') : ∀ (A0 : Option Addr) (c0 : Nat) (l0 : List Int) (a1 : Int) (r1 : Int) (r2 : Bool) (w : World) (hr0 : Kd.C (Kd.int .u8) w A0 l0.length l0) (hc0 : l0.length ≤ c0) (h : gjson_validarray.f (k + 1) l0 a1 = some (r1, r2)),
    Calls Try.prog 28 #[.slice A0 l0.length c0, .int .i64 a1] w fun e w' => e = .returned (.tuple #[.int .i64 r1, .bool r2]) ∧ Drawn0 w w' := by
  intro A0 c0 l0 a1 r1 r2 w hr0 hc0 h
  simp only [gjson_validarray.f] at h
  have HR0 := Aside0.mk hr0
  have HC0 := Aside0.mk hc0
  clear hr0 hc0
  have H : (gjson_validarray.l0 k l0 a1) = some (r1, r2) := h
  clear h
  have H' := Aside0.mk H
  clear H
  go_enter Try.func28, Try.ntmps28
  go_wp2
  (try simp only [Act.put, List.setIfInBounds_toArray, List.set_cons_succ, List.set_cons_zero])
  go_loopg [1] k (fun kq v1 w' => ∃ (x1_1 : Int), v1 = .int .i64 x1_1 ∧ Aside0 (gjson_validarray.l0 kq l0 x1_1 = some (r1, r2)) ∧ Aside0 (kq ≤ k) ∧ Drawn0 w w')
  case atStart => exact ⟨(a1), (by first | rfl | (simp; done) | (simp [*]; done)), H', ⟨Nat.le_refl _⟩, by repeat (first | exact Drawn0.refl _ | apply Drawn0.step)⟩
  case round =>
    clear H'
    try clear c2
    try clear p2
    obtain ⟨x1_1, rfl, HA, HK1, ⟨m1, rfl⟩⟩ := hrel
    cases gk with
    | zero => exact absurd HA.out (by simp [gjson_validarray.l0])
    | succ k1 =>
      have H := HA.out
      clear HA
      simp only [gjson_validarray.l0] at H
      by_cases c3 : x1_1 < (l0.length : Int)
      · rw [if_pos c3] at H
        have c3b0 : decide (x1_1 < (l0.length : Int)) = true := decide_eq_true c3
        clear c3
        by_cases c4 : 0 ≤ x1_1
        · rw [if_pos c4] at H
          have c4b0 : decide (0 ≤ x1_1) = true := decide_eq_true c4
          clear c4
          have HC5 := Aside0.mk H
          clear H
          have p298 : 0 ≤ (x1_1 : Int) := of_decide_eq_true (by first | (with_reducible assumption) | assumption)
          have q298 : x1_1 < (l0.length : Int) := of_decide_eq_true (by first | (with_reducible assumption) | assumption)
          obtain ⟨ad298, e298, hx298_0⟩ := Kd.at_int HR0.out x1_1 p298 q298
          cases e298
          replace p298 := eq_true p298
          replace q298 := eq_true q298
          go_upto_if 47 with (fail)
          go_cut [47] (fun v47 wc => ∃ (kq : Nat) (x47_4 : Bool), v47 = .bool x47_4 ∧ Aside0 (gjson_validarray.j1 kq l0 x1_1 (rd l0 x1_1) x47_4 = some (r1, r2)) ∧ Aside0 (kq ≤ k1) ∧ Drawn0 w wc)
          case first =>
            have H := HC5.out
            clear HC5
            by_cases c6 : (rd l0 x1_1) = 32
            · rw [if_pos c6] at H
              have c6b0 : ((rd l0 x1_1) == 32) = true := beq_iff_eq.mpr c6
              have c6b1 : ((rd l0 x1_1) != 32) = false := bne_eq_false_iff_eq.mpr c6
              clear c6
              (first | rw [c6b0] | (simp only [i64_w, i32_w]; rw [c6b0]) | skip)
              have H' := Aside0.mk H
              clear H
              go_wp2
              go_meet
              case rel => exact ⟨_, (((rd l0 x1_1) == 32)), (by first | rfl | (simp; done) | (simp [*]; done)), H', ⟨by have := HK1.out; first | omega | exact Nat.le_refl _⟩, by repeat (first | exact Drawn0.refl _ | apply Drawn0.step)⟩
            · rw [if_neg c6] at H
              have c6b0 : ((rd l0 x1_1) == 32) = false := beq_eq_false_iff_ne.mpr c6
              have c6b1 : ((rd l0 x1_1) != 32) = true := bne_iff_ne.mpr c6
              (first | rw [c6b0] | (simp only [i64_w, i32_w]; rw [c6b0]) | skip)
              by_cases c7 : (rd l0 x1_1) = 9
              · rw [if_pos c7] at H
                have c7b0 : ((rd l0 x1_1) == 9) = true := beq_iff_eq.mpr c7
                have c7b1 : ((rd l0 x1_1) != 9) = false := bne_eq_false_iff_eq.mpr c7
                clear c7
                have H' := Aside0.mk H
                clear H
                go_wp2
                go_meet
                case rel => exact ⟨_, (((rd l0 x1_1) == 9)), (by first | rfl | (simp; done) | (simp [*]; done)), H', ⟨by have := HK1.out; first | omega | exact Nat.le_refl _⟩, by repeat (first | exact Drawn0.refl _ | apply Drawn0.step)⟩
              · rw [if_neg c7] at H
                have c7b0 : ((rd l0 x1_1) == 9) = false := beq_eq_false_iff_ne.mpr c7
                have c7b1 : ((rd l0 x1_1) != 9) = true := bne_iff_ne.mpr c7
                by_cases c8 : (rd l0 x1_1) = 10
                · rw [if_pos c8] at H
                  have c8b0 : ((rd l0 x1_1) == 10) = true := beq_iff_eq.mpr c8
                  have c8b1 : ((rd l0 x1_1) != 10) = false := bne_eq_false_iff_eq.mpr c8
                  clear c8
                  have H' := Aside0.mk H
                  clear H
                  go_wp2
                  go_meet
                  case rel => exact ⟨_, (((rd l0 x1_1) == 10)), (by first | rfl | (simp; done) | (simp [*]; done)), H', ⟨by have := HK1.out; first | omega | exact Nat.le_refl _⟩, by repeat (first | exact Drawn0.refl _ | apply Drawn0.step)⟩
                · rw [if_neg c8] at H
                  have c8b0 : ((rd l0 x1_1) == 10) = false := beq_eq_false_iff_ne.mpr c8
                  have c8b1 : ((rd l0 x1_1) != 10) = true := bne_iff_ne.mpr c8
                  have H' := Aside0.mk H
                  clear H
                  go_wp2
                  go_meet
                  case rel => exact ⟨_, (((rd l0 x1_1) == 13)), (by first | rfl | (simp; done) | (simp [*]; done)), H', ⟨by have := HK1.out; first | omega | exact Nat.le_refl _⟩, by repeat (first | exact Drawn0.refl _ | apply Drawn0.step)⟩
          case rest =>
            clear HC5
            try clear c2
            try clear p2
            try clear q2
            try clear hx2
            try clear c3
            try clear c3b0
            try clear c4
            try clear c4b0
            try clear c6
            try clear c6b0
            try clear c6b1
            try clear c7
            try clear c7b0
            try clear c7b1
            try clear c8
            try clear c8b0
            try clear c8b1
            try clear hx298_0
            try clear p2
            try clear p298
            try clear q298
            obtain ⟨kq, x47_4, rfl, HA, HJ4, ⟨mc4, rfl⟩⟩ := hcut
            cases kq with
            | zero => exact absurd HA.out (by simp [gjson_validarray.j1])
            | succ kj4 =>
              have H := HA.out
              clear HA
              simp only [gjson_validarray.j1] at H
              by_cases c9 : x47_4 = true
              · subst c9
                have H1 : (gjson_validarray.l0 kj4 l0 (wrap64 (x1_1 + 1))) = some (r1, r2) := by rw [if_pos rfl] at H; exact H
                clear H
                have H := H1
                clear H1
                have H' := Aside0.mk H
                clear H
                go_wp2
                go_roundg kj4
                case measure => have := HK1.out; have := HJ4.out; omega
                case rel => exact ⟨(wrap64 (x1_1 + 1)), (by first | rfl | (simp; done) | (simp [*]; done)), H', ⟨by have := HK1.out; have := HJ4.out; omega⟩, by repeat (first | exact Drawn0.refl _ | apply Drawn0.step)⟩
              · replace c9 := Bool.eq_false_iff.mpr c9
                subst c9
                have H1 : (if (rd l0 x1_1) = 93 then (some (wrap64 (x1_1 + 1), true)) else (gjson_validarray.l1 kj4 l0 x1_1)) = some (r1, r2) := by rw [if_neg (show ¬ (false = true) by decide)] at H; exact H
                clear H
                have H := H1
                clear H1
                by_cases c10 : (rd l0 x1_1) = 93
                · rw [if_pos c10] at H
                  have c10b0 : ((rd l0 x1_1) == 93) = true := beq_iff_eq.mpr c10
                  have c10b1 : ((rd l0 x1_1) != 93) = false := bne_eq_false_iff_eq.mpr c10
                  clear c10
                  simp only [Option.some.injEq, Prod.mk.injEq] at H
                  obtain ⟨rfl, rfl⟩ := H
                  go_wp2
                  go_ret2
                  exact ⟨by first | rfl | (simp; done) | (simp [*]; done), by repeat (first | exact Drawn0.refl _ | apply Drawn0.step)⟩
                · rw [if_neg c10] at H
                  have c10b0 : ((rd l0 x1_1) == 93) = false := beq_eq_false_iff_ne.mpr c10
                  have c10b1 : ((rd l0 x1_1) != 93) = true := bne_iff_ne.mpr c10
                  have H' := Aside0.mk H
                  clear H
                  go_wp2
                  (try simp only [Act.put, List.setIfInBounds_toArray, List.set_cons_succ, List.set_cons_zero])
                  go_loopg [1] kj4 (fun kq v1 w' => ∃ (x1_3 : Int), v1 = .int .i64 x1_3 ∧ Aside0 (gjson_validarray.l1 kq l0 x1_3 = some (r1, r2)) ∧ Aside0 (kq ≤ kj4) ∧ Drawn0 w w')
                  case atStart => exact ⟨(x1_1), (by first | rfl | (simp; done) | (simp [*]; done)), H', ⟨Nat.le_refl _⟩, by repeat (first | exact Drawn0.refl _ | apply Drawn0.step)⟩
                  case round =>
                    clear H'
                    try clear c1
                    try clear c2
                    try clear p2
                    try clear q2
                    try clear hx2
                    try clear c3
                    try clear c3b0
                    try clear c4
                    try clear c4b0
                    try clear c6
                    try clear c6b0
                    try clear c6b1
                    try clear p6
                    try clear c7
                    try clear c7b0
                    try clear c7b1
                    try clear c8
                    try clear c8b0
                    try clear c8b1
                    try clear c9
                    try clear c10
                    try clear c10b0
                    try clear c10b1
                    try clear hx298_0
                    try clear p2
                    try clear p298
                    try clear q2
                    try clear q298
                    obtain ⟨x1_3, rfl, HA, HK3, ⟨m3, rfl⟩⟩ := hrel
                    cases gk with
                    | zero => exact absurd HA.out (by simp [gjson_validarray.l1])
                    | succ k3 =>
                      have H := HA.out
                      clear HA
                      simp only [gjson_validarray.l1] at H
                      by_cases c11 : x1_3 < (l0.length : Int)
                      · rw [if_pos c11] at H
                        have c11b0 : decide (x1_3 < (l0.length : Int)) = true := decide_eq_true c11
                        clear c11
                        replace H := Option.bind_eq_some_iff.mp H
                        obtain ⟨⟨t299, t300⟩, A120, H⟩ := H
                        replace H : (if t300 = true then ((gjson_validcomma.f k3 l0 t299 93).bind fun bt301 => (if bt301.2 = true then (if 0 ≤ bt301.1 then (if bt301.1 < (l0.length : Int) then (if (rd l0 bt301.1) = 93 then (some (wrap64 (bt301.1 + 1), true)) else (gjson_validarray.l1 k3 l0 (wrap64 (bt301.1 + 1)))) else (none)) else (none)) else (some (bt301.1, false)))) else (some (t299, false))) = some (r1, r2) := H
                        have A12 := Aside0.mk A120
                        clear A120
                        by_cases c13 : t300 = true
                        · subst c13
                          have H1 : ((gjson_validcomma.f k3 l0 t299 93).bind fun bt301 => (if bt301.2 = true then (if 0 ≤ bt301.1 then (if bt301.1 < (l0.length : Int) then (if (rd l0 bt301.1) = 93 then (some (wrap64 (bt301.1 + 1), true)) else (gjson_validarray.l1 k3 l0 (wrap64 (bt301.1 + 1)))) else (none)) else (none)) else (some (bt301.1, false)))) = some (r1, r2) := by rw [if_pos rfl] at H; exact H
                          clear H
                          have H := H1
                          clear H1
                          replace H := Option.bind_eq_some_iff.mp H
                          obtain ⟨⟨t301, t302⟩, A140, H⟩ := H
                          replace H : (if t302 = true then (if 0 ≤ t301 then (if t301 < (l0.length : Int) then (if (rd l0 t301) = 93 then (some (wrap64 (t301 + 1), true)) else (gjson_validarray.l1 k3 l0 (wrap64 (t301 + 1)))) else (none)) else (none)) else (some (t301, false))) = some (r1, r2) := H
                          have A14 := Aside0.mk A140
                          clear A140
                          by_cases c15 : t302 = true
                          · subst c15
                            have H1 : (if 0 ≤ t301 then (if t301 < (l0.length : Int) then (if (rd l0 t301) = 93 then (some (wrap64 (t301 + 1), true)) else (gjson_validarray.l1 k3 l0 (wrap64 (t301 + 1)))) else (none)) else (none)) = some (r1, r2) := by rw [if_pos rfl] at H; exact H
                            clear H
                            have H := H1
                            clear H1
                            by_cases c16 : 0 ≤ t301
                            · rw [if_pos c16] at H
                              have c16b0 : decide (0 ≤ t301) = true := decide_eq_true c16
                              clear c16
                              by_cases c17 : t301 < (l0.length : Int)
                              · rw [if_pos c17] at H
                                have c17b0 : decide (t301 < (l0.length : Int)) = true := decide_eq_true c17
                                clear c17
                                by_cases c18 : (rd l0 t301) = 93
                                · rw [if_pos c18] at H
                                  have c18b0 : ((rd l0 t301) == 93) = true := beq_iff_eq.mpr c18
                                  have c18b1 : ((rd l0 t301) != 93) = false := bne_eq_false_iff_eq.mpr c18
                                  clear c18
                                  simp only [Option.some.injEq, Prod.mk.injEq] at H
                                  obtain ⟨rfl, rfl⟩ := H
                                  go_wp2_with (first | ((with_reducible refine gate_callee (f := 21) rfl ?_); refine goesL_ (some 25) rfl rfl Try.func21 (by kernel_rfl) rfl #[.slice (some ad298) l0.length c0, .int .i64 x1_3] rfl (by (try simp only [List.map_toArray, List.map_cons, List.map_nil]); first | done | rfl | (simp only [List.length_drop, List.length_take]; rfl)) ?_; (with_reducible refine (ih_21 k3 (by have := HK1.out; have := HJ4.out; have := HK3.out; omega) _ _ l0 x1_3 t299 true _ ?side1 ?side2 A12.out).mono ?_); (case side1 => repeat (first | exact HR0.out | (with_reducible refine Kd.C_alloc ?_ _) | (with_reducible refine Kd.C_drewN ?_ _) | (with_reducible refine Kd.C_drew ?_))); (case side2 => exact HC0.out); rintro e w' ⟨rfl, ⟨nd, rfl⟩⟩; refine ⟨_, rfl, ?_⟩) | ((with_reducible refine gate_callee (f := 36) rfl ?_); refine goesL_ (some 34) rfl rfl Try.func36 (by kernel_rfl) rfl #[.slice (some ad298) l0.length c0, .int .i64 t299, .int .u8 93] rfl (by (try simp only [List.map_toArray, List.map_cons, List.map_nil]); first | done | rfl | (simp only [List.length_drop, List.length_take]; rfl)) ?_; (with_reducible refine (gjson_validcomma.calls k3 _ _ l0 t299 93 t301 true _ ?side1 ?side2 A14.out).mono ?_); (case side1 => repeat (first | exact HR0.out | (with_reducible refine Kd.C_alloc ?_ _) | (with_reducible refine Kd.C_drewN ?_ _) | (with_reducible refine Kd.C_drew ?_))); (case side2 => exact HC0.out); rintro e w' ⟨rfl, ⟨nd, rfl⟩⟩; refine ⟨_, rfl, ?_⟩; have p303 : 0 ≤ (t301 : Int) := of_decide_eq_true (by first | (with_reducible assumption) | assumption); have q303 : t301 < (l0.length : Int) := of_decide_eq_true (by first | (with_reducible assumption) | assumption); obtain ⟨ad303, e303, hx303_0⟩ := Kd.at_int HR0.out t301 p303 q303; obtain rfl : ad298 = ad303 := (by injection e303); replace p303 := eq_true p303; replace q303 := eq_true q303))
                                  go_ret2
                                  exact ⟨by first | rfl | (simp; done) | (simp [*]; done), by repeat (first | exact Drawn0.refl _ | apply Drawn0.step)⟩
                                · rw [if_neg c18] at H
                                  have c18b0 : ((rd l0 t301) == 93) = false := beq_eq_false_iff_ne.mpr c18
                                  have c18b1 : ((rd l0 t301) != 93) = true := bne_iff_ne.mpr c18
                                  have H' := Aside0.mk H
                                  clear H
                                  go_wp2_with (first | ((with_reducible refine gate_callee (f := 21) rfl ?_); refine goesL_ (some 25) rfl rfl Try.func21 (by kernel_rfl) rfl #[.slice (some ad298) l0.length c0, .int .i64 x1_3] rfl (by (try simp only [List.map_toArray, List.map_cons, List.map_nil]); first | done | rfl | (simp only [List.length_drop, List.length_take]; rfl)) ?_; (with_reducible refine (ih_21 k3 (by have := HK1.out; have := HJ4.out; have := HK3.out; omega) _ _ l0 x1_3 t299 true _ ?side1 ?side2 A12.out).mono ?_); (case side1 => repeat (first | exact HR0.out | (with_reducible refine Kd.C_alloc ?_ _) | (with_reducible refine Kd.C_drewN ?_ _) | (with_reducible refine Kd.C_drew ?_))); (case side2 => exact HC0.out); rintro e w' ⟨rfl, ⟨nd, rfl⟩⟩; refine ⟨_, rfl, ?_⟩) | ((with_reducible refine gate_callee (f := 36) rfl ?_); refine goesL_ (some 34) rfl rfl Try.func36 (by kernel_rfl) rfl #[.slice (some ad298) l0.length c0, .int .i64 t299, .int .u8 93] rfl (by (try simp only [List.map_toArray, List.map_cons, List.map_nil]); first | done | rfl | (simp only [List.length_drop, List.length_take]; rfl)) ?_; (with_reducible refine (gjson_validcomma.calls k3 _ _ l0 t299 93 t301 true _ ?side1 ?side2 A14.out).mono ?_); (case side1 => repeat (first | exact HR0.out | (with_reducible refine Kd.C_alloc ?_ _) | (with_reducible refine Kd.C_drewN ?_ _) | (with_reducible refine Kd.C_drew ?_))); (case side2 => exact HC0.out); rintro e w' ⟨rfl, ⟨nd, rfl⟩⟩; refine ⟨_, rfl, ?_⟩; have p303 : 0 ≤ (t301 : Int) := of_decide_eq_true (by first | (with_reducible assumption) | assumption); have q303 : t301 < (l0.length : Int) := of_decide_eq_true (by first | (with_reducible assumption) | assumption); obtain ⟨ad303, e303, hx303_0⟩ := Kd.at_int HR0.out t301 p303 q303; obtain rfl : ad298 = ad303 := (by injection e303); replace p303 := eq_true p303; replace q303 := eq_true q303))
                                  go_roundg k3
                                  case measure => have := HK1.out; have := HJ4.out; have := HK3.out; omega
                                  case rel => exact ⟨(wrap64 (t301 + 1)), (by first | rfl | (simp; done) | (simp [*]; done)), H', ⟨by have := HK1.out; have := HJ4.out; have := HK3.out; omega⟩, by repeat (first | exact Drawn0.refl _ | apply Drawn0.step)⟩
                              · rw [if_neg c17] at H
                                exact absurd H (by simp)
                            · rw [if_neg c16] at H
                              exact absurd H (by simp)
                          · replace c15 := Bool.eq_false_iff.mpr c15
                            subst c15
                            have H1 : (some (t301, false)) = some (r1, r2) := by rw [if_neg (show ¬ (false = true) by decide)] at H; exact H
                            clear H
                            have H := H1
                            clear H1
                            simp only [Option.some.injEq, Prod.mk.injEq] at H
                            obtain ⟨rfl, rfl⟩ := H
                            go_wp2_with (first | ((with_reducible refine gate_callee (f := 21) rfl ?_); refine goesL_ (some 25) rfl rfl Try.func21 (by kernel_rfl) rfl #[.slice (some ad298) l0.length c0, .int .i64 x1_3] rfl (by (try simp only [List.map_toArray, List.map_cons, List.map_nil]); first | done | rfl | (simp only [List.length_drop, List.length_take]; rfl)) ?_; (with_reducible refine (ih_21 k3 (by have := HK1.out; have := HJ4.out; have := HK3.out; omega) _ _ l0 x1_3 t299 true _ ?side1 ?side2 A12.out).mono ?_); (case side1 => repeat (first | exact HR0.out | (with_reducible refine Kd.C_alloc ?_ _) | (with_reducible refine Kd.C_drewN ?_ _) | (with_reducible refine Kd.C_drew ?_))); (case side2 => exact HC0.out); rintro e w' ⟨rfl, ⟨nd, rfl⟩⟩; refine ⟨_, rfl, ?_⟩) | ((with_reducible refine gate_callee (f := 36) rfl ?_); refine goesL_ (some 34) rfl rfl Try.func36 (by kernel_rfl) rfl #[.slice (some ad298) l0.length c0, .int .i64 t299, .int .u8 93] rfl (by (try simp only [List.map_toArray, List.map_cons, List.map_nil]); first | done | rfl | (simp only [List.length_drop, List.length_take]; rfl)) ?_; (with_reducible refine (gjson_validcomma.calls k3 _ _ l0 t299 93 t301 false _ ?side1 ?side2 A14.out).mono ?_); (case side1 => repeat (first | exact HR0.out | (with_reducible refine Kd.C_alloc ?_ _) | (with_reducible refine Kd.C_drewN ?_ _) | (with_reducible refine Kd.C_drew ?_))); (case side2 => exact HC0.out); rintro e w' ⟨rfl, ⟨nd, rfl⟩⟩; refine ⟨_, rfl, ?_⟩))
                            go_ret2
                            exact ⟨by first | rfl | (simp; done) | (simp [*]; done), by repeat (first | exact Drawn0.refl _ | apply Drawn0.step)⟩
                        · replace c13 := Bool.eq_false_iff.mpr c13
                          subst c13
                          have H1 : (some (t299, false)) = some (r1, r2) := by rw [if_neg (show ¬ (false = true) by decide)] at H; exact H
                          clear H
                          have H := H1
                          clear H1
                          simp only [Option.some.injEq, Prod.mk.injEq] at H
                          obtain ⟨rfl, rfl⟩ := H
                          go_wp2_with (first | ((with_reducible refine gate_callee (f := 21) rfl ?_); refine goesL_ (some 25) rfl rfl Try.func21 (by kernel_rfl) rfl #[.slice (some ad298) l0.length c0, .int .i64 x1_3] rfl (by (try simp only [List.map_toArray, List.map_cons, List.map_nil]); first | done | rfl | (simp only [List.length_drop, List.length_take]; rfl)) ?_; (with_reducible refine (ih_21 k3 (by have := HK1.out; have := HJ4.out; have := HK3.out; omega) _ _ l0 x1_3 t299 false _ ?side1 ?side2 A12.out).mono ?_); (case side1 => repeat (first | exact HR0.out | (with_reducible refine Kd.C_alloc ?_ _) | (with_reducible refine Kd.C_drewN ?_ _) | (with_reducible refine Kd.C_drew ?_))); (case side2 => exact HC0.out); rintro e w' ⟨rfl, ⟨nd, rfl⟩⟩; refine ⟨_, rfl, ?_⟩))
                          go_ret2
                          exact ⟨by first | rfl | (simp; done) | (simp [*]; done), by repeat (first | exact Drawn0.refl _ | apply Drawn0.step)⟩
                      · rw [if_neg c11] at H
                        have c11b0 : decide (x1_3 < (l0.length : Int)) = false := decide_eq_false c11
                        clear c11
                        have H' := Aside0.mk H
                        clear H
                        go_wp2
                        go_roundg k3
                        case measure => have := HK1.out; have := HJ4.out; have := HK3.out; omega
                        case rel => exact ⟨(wrap64 (x1_3 + 1)), (by first | rfl | (simp; done) | (simp [*]; done)), H', ⟨by have := HK1.out; have := HJ4.out; have := HK3.out; omega⟩, by repeat (first | exact Drawn0.refl _ | apply Drawn0.step)⟩
        · rw [if_neg c4] at H
          exact absurd H (by simp)
      · rw [if_neg c3] at H
        have c3b0 : decide (x1_1 < (l0.length : Int)) = false := decide_eq_false c3
        clear c3
        simp only [Option.some.injEq, Prod.mk.injEq] at H
        obtain ⟨rfl, rfl⟩ := H
        go_wp2
        go_ret2
        exact ⟨by first | rfl | (simp; done) | (simp [*]; done), by repeat (first | exact Drawn0.refl _ | apply Drawn0.step)⟩
theorem gjson_validany.all_calls : ∀ (k : Nat), (∀ (A0 : Option Addr) (c0 : Nat) (l0 : List Int) (a1 : Int) (r1 : Int) (r2 : Bool) (w : World) (hr0 : Kd.C (Kd.int .u8) w A0 l0.length l0) (hc0 : l0.length ≤ c0) (h : gjson_validany.f k l0 a1 = some (r1, r2)),
    Calls Try.prog 21 #[.slice A0 l0.length c0, .int .i64 a1] w fun e w' => e = .returned (.tuple #[.int .i64 r1, .bool r2]) ∧ Drawn0 w w') ∧ (∀ (A0 : Option Addr) (c0 : Nat) (l0 : List Int) (a1 : Int) (r1 : Int) (r2 : Bool) (w : World) (hr0 : Kd.C (Kd.int .u8) w A0 l0.length l0) (hc0 : l0.length ≤ c0) (h : gjson_validobject.f k l0 a1 = some (r1, r2)),
    Calls Try.prog 27 #[.slice A0 l0.length c0, .int .i64 a1] w fun e w' => e = .returned (.tuple #[.int .i64 r1, .bool r2]) ∧ Drawn0 w w') ∧ (∀ (A0 : Option Addr) (c0 : Nat) (l0 : List Int) (a1 : Int) (r1 : Int) (r2 : Bool) (w : World) (hr0 : Kd.C (Kd.int .u8) w A0 l0.length l0) (hc0 : l0.length ≤ c0) (h : gjson_validarray.f k l0 a1 = some (r1, r2)),
    Calls Try.prog 28 #[.slice A0 l0.length c0, .int .i64 a1] w fun e w' => e = .returned (.tuple #[.int .i64 r1, .bool r2]) ∧ Drawn0 w w') := by
  intro k
  induction k using Nat.strongRecOn with
  | _ k ih =>
  cases k with
  | zero => exact ⟨fun A0 c0 l0 a1 r1 r2 w hr0 hc0 h => absurd h (by simp [gjson_validany.f]), fun A0 c0 l0 a1 r1 r2 w hr0 hc0 h => absurd h (by simp [gjson_validobject.f]), fun A0 c0 l0 a1 r1 r2 w hr0 hc0 h => absurd h (by simp [gjson_validarray.f])⟩
  | succ k => exact ⟨gjson_validany.step k (fun m hm => (ih m hm).1) (fun m hm => (ih m hm).2.1) (fun m hm => (ih m hm).2.2), gjson_validobject.step k (fun m hm => (ih m hm).1) (fun m hm => (ih m hm).2.1) (fun m hm => (ih m hm).2.2), gjson_validarray.step k (fun m hm => (ih m hm).1) (fun m hm => (ih m hm).2.1) (fun m hm => (ih m hm).2.2)⟩
theorem gjson_validany.calls (k : Nat) : ∀ (A0 : Option Addr) (c0 : Nat) (l0 : List Int) (a1 : Int) (r1 : Int) (r2 : Bool) (w : World) (hr0 : Kd.C (Kd.int .u8) w A0 l0.length l0) (hc0 : l0.length ≤ c0) (h : gjson_validany.f k l0 a1 = some (r1, r2)),
    Calls Try.prog 21 #[.slice A0 l0.length c0, .int .i64 a1] w fun e w' => e = .returned (.tuple #[.int .i64 r1, .bool r2]) ∧ Drawn0 w w' := (gjson_validany.all_calls k).1
theorem gjson_validobject.calls (k : Nat) : ∀ (A0 : Option Addr) (c0 : Nat) (l0 : List Int) (a1 : Int) (r1 : Int) (r2 : Bool) (w : World) (hr0 : Kd.C (Kd.int .u8) w A0 l0.length l0) (hc0 : l0.length ≤ c0) (h : gjson_validobject.f k l0 a1 = some (r1, r2)),
    Calls Try.prog 27 #[.slice A0 l0.length c0, .int .i64 a1] w fun e w' => e = .returned (.tuple #[.int .i64 r1, .bool r2]) ∧ Drawn0 w w' := (gjson_validany.all_calls k).2.1
theorem gjson_validarray.calls (k : Nat) : ∀ (A0 : Option Addr) (c0 : Nat) (l0 : List Int) (a1 : Int) (r1 : Int) (r2 : Bool) (w : World) (hr0 : Kd.C (Kd.int .u8) w A0 l0.length l0) (hc0 : l0.length ≤ c0) (h : gjson_validarray.f k l0 a1 = some (r1, r2)),
    Calls Try.prog 28 #[.slice A0 l0.length c0, .int .i64 a1] w fun e w' => e = .returned (.tuple #[.int .i64 r1, .bool r2]) ∧ Drawn0 w w' := (gjson_validany.all_calls k).2.2
/-! ### gjson_validpayload: function 22 -/
mutual
def gjson_validpayload.l0 : Nat → List Int → Int → Option (Int × Bool)
  | 0, _, _ => none
  | k + 1, x0, x1 => if x1 < (x0.length : Int) then (if 0 ≤ x1 then (if (rd x0 x1) = 32 then (gjson_validpayload.j1 k x0 x1 ((rd x0 x1) == 32)) else (if (rd x0 x1) = 9 then (gjson_validpayload.j1 k x0 x1 ((rd x0 x1) == 9)) else (if (rd x0 x1) = 10 then (gjson_validpayload.j1 k x0 x1 ((rd x0 x1) == 10)) else (gjson_validpayload.j1 k x0 x1 ((rd x0 x1) == 13))))) else (none)) else (some (x1, false))
def gjson_validpayload.j1 : Nat → List Int → Int → Bool → Option (Int × Bool)
  | 0, _, _, _ => none
  | k + 1, x0, x1, x42 => if x42 = true then (gjson_validpayload.l0 k x0 (wrap64 (x1 + 1))) else ((gjson_validany.f k x0 x1).bind fun bt305 => (if bt305.2 = true then (gjson_validpayload.l1 k x0 bt305.1) else (some (bt305.1, false))))
def gjson_validpayload.l1 : Nat → List Int → Int → Option (Int × Bool)
  | 0, _, _ => none
  | k + 1, x0, x1 => if x1 < (x0.length : Int) then (if 0 ≤ x1 then (if (rd x0 x1) = 32 then (gjson_validpayload.l1 k x0 (wrap64 (x1 + 1))) else (if (rd x0 x1) = 9 then (gjson_validpayload.l1 k x0 (wrap64 (x1 + 1))) else (if (rd x0 x1) = 10 then (gjson_validpayload.l1 k x0 (wrap64 (x1 + 1))) else (if (rd x0 x1) = 13 then (gjson_validpayload.l1 k x0 (wrap64 (x1 + 1))) else (some (x1, false)))))) else (none)) else (some (x1, true))
end
def gjson_validpayload.f (k : Nat) (l0 : List Int) (a1 : Int) : Option (Int × Bool) := gjson_validpayload.l0 k l0 a1
theorem gjson_validpayload.mono_l : ∀ k, (∀ y0 y1, LeO (gjson_validpayload.l0 k y0 y1) (gjson_validpayload.l0 (k + 1) y0 y1)) ∧ (∀ y0 y1 y2, LeO (gjson_validpayload.j1 k y0 y1 y2) (gjson_validpayload.j1 (k + 1) y0 y1 y2)) ∧ (∀ y0 y1, LeO (gjson_validpayload.l1 k y0 y1) (gjson_validpayload.l1 (k + 1) y0 y1))
  | 0 => ⟨fun _ _ r h => by simp [gjson_validpayload.l0] at h, fun _ _ _ r h => by simp [gjson_validpayload.j1] at h, fun _ _ r h => by simp [gjson_validpayload.l1] at h⟩
  | k + 1 => by
    obtain ⟨ih0, ih1, ih2⟩ := gjson_validpayload.mono_l k
    refine ⟨?_, ?_, ?_⟩
    · intro y0 y1
      unfold gjson_validpayload.l0
      repeat' first
      | (with_reducible exact ih0 _ _)
      | (with_reducible exact ih1 _ _ _)
      | (with_reducible exact ih2 _ _)
      | (with_reducible exact gjson_validany.mono _ _ _)
      | (with_reducible exact LeO.refl _)
      | (with_reducible exact LeO.none _)
      | (with_reducible refine LeO.ite ?_ ?_)
      | (with_reducible refine LeO.bind ?_ (fun _ => ?_))
      | exact ih0 _ _
      | exact ih1 _ _ _
      | exact ih2 _ _
      | exact gjson_validany.mono _ _ _
      | exact LeO.none _
      | refine LeO.ite ?_ ?_
      | refine LeO.bind ?_ (fun _ => ?_)
    · intro y0 y1 y2
      unfold gjson_validpayload.j1
      repeat' first
      | (with_reducible exact ih0 _ _)
      | (with_reducible exact ih1 _ _ _)
      | (with_reducible exact ih2 _ _)
      | (with_reducible exact gjson_validany.mono _ _ _)
      | (with_reducible exact LeO.refl _)
      | (with_reducible exact LeO.none _)
      | (with_reducible refine LeO.ite ?_ ?_)
      | (with_reducible refine LeO.bind ?_ (fun _ => ?_))
      | exact ih0 _ _
      | exact ih1 _ _ _
      | exact ih2 _ _
      | exact gjson_validany.mono _ _ _
      | exact LeO.none _
      | refine LeO.ite ?_ ?_
      | refine LeO.bind ?_ (fun _ => ?_)
    · intro y0 y1
      unfold gjson_validpayload.l1
      repeat' first
      | (with_reducible exact ih0 _ _)
      | (with_reducible exact ih1 _ _ _)
      | (with_reducible exact ih2 _ _)
      | (with_reducible exact gjson_validany.mono _ _ _)
      | (with_reducible exact LeO.refl _)
      | (with_reducible exact LeO.none _)
      | (with_reducible refine LeO.ite ?_ ?_)
      | (with_reducible refine LeO.bind ?_ (fun _ => ?_))
      | exact ih0 _ _
      | exact ih1 _ _ _
      | exact ih2 _ _
      | exact gjson_validany.mono _ _ _
      | exact LeO.none _
      | refine LeO.ite ?_ ?_
      | refine LeO.bind ?_ (fun _ => ?_)
theorem gjson_validpayload.mono : ∀ a0 a1 k, LeO (gjson_validpayload.f k a0 a1) (gjson_validpayload.f (k + 1) a0 a1) := by
  intro a0 a1 k
  obtain ⟨ih0, ih1, ih2⟩ := gjson_validpayload.mono_l k
  unfold gjson_validpayload.f
  repeat' first
      | (with_reducible exact ih0 _ _)
      | (with_reducible exact ih1 _ _ _)
      | (with_reducible exact ih2 _ _)
      | (with_reducible exact gjson_validany.mono _ _ _)
      | (with_reducible exact LeO.refl _)
      | (with_reducible exact LeO.none _)
      | (with_reducible refine LeO.ite ?_ ?_)
      | (with_reducible refine LeO.bind ?_ (fun _ => ?_))
      | exact ih0 _ _
      | exact ih1 _ _ _
      | exact ih2 _ _
      | exact gjson_validany.mono _ _ _
      | exact LeO.none _
      | refine LeO.ite ?_ ?_
      | refine LeO.bind ?_ (fun _ => ?_)
set_option maxHeartbeats 8000000 in
set_option maxRecDepth 100000 in
theorem gjson_validpayload.calls (k : Nat) (A0 : Option Addr) (c0 : Nat) (l0 : List Int) (a1 : Int) (r1 : Int) (r2 : Bool) (w : World) (hr0 : Kd.C (Kd.int .u8) w A0 l0.length l0) (hc0 : l0.length ≤ c0) (h : gjson_validpayload.f k l0 a1 = some (r1, r2)) :
    Calls Try.prog 22 #[.slice A0 l0.length c0, .int .i64 a1] w fun e w' => e = .returned (.tuple #[.int .i64 r1, .bool r2]) ∧ Drawn0 w w' := by
  have HR0 := Aside0.mk hr0
  have HC0 := Aside0.mk hc0
  clear hr0 hc0
  have H : (gjson_validpayload.l0 k l0 a1) = some (r1, r2) := h
  clear h
  have H' := Aside0.mk H
  clear H
  go_enter Try.func22, Try.ntmps22
  go_wp2
  (try simp only [Act.put, List.setIfInBounds_toArray, List.set_cons_succ, List.set_cons_zero])
  go_loopg [1] k (fun kq v1 w' => ∃ (x1_1 : Int), v1 = .int .i64 x1_1 ∧ Aside0 (gjson_validpayload.l0 kq l0 x1_1 = some (r1, r2)) ∧ Aside0 (kq ≤ k) ∧ Drawn0 w w')
  case atStart => exact ⟨(a1), (by first | rfl | (simp; done) | (simp [*]; done)), H', ⟨Nat.le_refl _⟩, by repeat (first | exact Drawn0.refl _ | apply Drawn0.step)⟩
  case round =>
    clear H'
    try clear c2
    try clear p2
    obtain ⟨x1_1, rfl, HA, HK1, ⟨m1, rfl⟩⟩ := hrel
    cases gk with
    | zero => exact absurd HA.out (by simp [gjson_validpayload.l0])
    | succ k1 =>
      have H := HA.out
      clear HA
      simp only [gjson_validpayload.l0] at H
      by_cases c3 : x1_1 < (l0.length : Int)
      · rw [if_pos c3] at H
        have c3b0 : decide (x1_1 < (l0.length : Int)) = true := decide_eq_true c3
        clear c3
        by_cases c4 : 0 ≤ x1_1
        · rw [if_pos c4] at H
          have c4b0 : decide (0 ≤ x1_1) = true := decide_eq_true c4
          clear c4
          have HC5 := Aside0.mk H
          clear H
          have p304 : 0 ≤ (x1_1 : Int) := of_decide_eq_true (by first | (with_reducible assumption) | assumption)
          have q304 : x1_1 < (l0.length : Int) := of_decide_eq_true (by first | (with_reducible assumption) | assumption)
          obtain ⟨ad304, e304, hx304_0⟩ := Kd.at_int HR0.out x1_1 p304 q304
          cases e304
          replace p304 := eq_true p304
          replace q304 := eq_true q304
          go_upto_if 42 with (fail)
          go_cut [42] (fun v42 wc => ∃ (kq : Nat) (x42_4 : Bool), v42 = .bool x42_4 ∧ Aside0 (gjson_validpayload.j1 kq l0 x1_1 x42_4 = some (r1, r2)) ∧ Aside0 (kq ≤ k1) ∧ Drawn0 w wc)
          case first =>
            have H := HC5.out
            clear HC5
            by_cases c6 : (rd l0 x1_1) = 32
            · rw [if_pos c6] at H
              have c6b0 : ((rd l0 x1_1) == 32) = true := beq_iff_eq.mpr c6
              have c6b1 : ((rd l0 x1_1) != 32) = false := bne_eq_false_iff_eq.mpr c6
              clear c6
              (first | rw [c6b0] | (simp only [i64_w, i32_w]; rw [c6b0]) | skip)
              have H' := Aside0.mk H
              clear H
              go_wp2
              go_meet
              case rel => exact ⟨_, (((rd l0 x1_1) == 32)), (by first | rfl | (simp; done) | (simp [*]; done)), H', ⟨by have := HK1.out; first | omega | exact Nat.le_refl _⟩, by repeat (first | exact Drawn0.refl _ | apply Drawn0.step)⟩
            · rw [if_neg c6] at H
              have c6b0 : ((rd l0 x1_1) == 32) = false := beq_eq_false_iff_ne.mpr c6
              have c6b1 : ((rd l0 x1_1) != 32) = true := bne_iff_ne.mpr c6
              (first | rw [c6b0] | (simp only [i64_w, i32_w]; rw [c6b0]) | skip)
              by_cases c7 : (rd l0 x1_1) = 9
              · rw [if_pos c7] at H
                have c7b0 : ((rd l0 x1_1) == 9) = true := beq_iff_eq.mpr c7
                have c7b1 : ((rd l0 x1_1) != 9) = false := bne_eq_false_iff_eq.mpr c7
                clear c7
                have H' := Aside0.mk H
                clear H
                go_wp2
                go_meet
                case rel => exact ⟨_, (((rd l0 x1_1) == 9)), (by first | rfl | (simp; done) | (simp [*]; done)), H', ⟨by have := HK1.out; first | omega | exact Nat.le_refl _⟩, by repeat (first | exact Drawn0.refl _ | apply Drawn0.step)⟩
              · rw [if_neg c7] at H
                have c7b0 : ((rd l0 x1_1) == 9) = false := beq_eq_false_iff_ne.mpr c7
                have c7b1 : ((rd l0 x1_1) != 9) = true := bne_iff_ne.mpr c7
                by_cases c8 : (rd l0 x1_1) = 10
                · rw [if_pos c8] at H
                  have c8b0 : ((rd l0 x1_1) == 10) = true := beq_iff_eq.mpr c8
                  have c8b1 : ((rd l0 x1_1) != 10) = false := bne_eq_false_iff_eq.mpr c8
                  clear c8
                  have H' := Aside0.mk H
                  clear H
                  go_wp2
                  go_meet
                  case rel => exact ⟨_, (((rd l0 x1_1) == 10)), (by first | rfl | (simp; done) | (simp [*]; done)), H', ⟨by have := HK1.out; first | omega | exact Nat.le_refl _⟩, by repeat (first | exact Drawn0.refl _ | apply Drawn0.step)⟩
                · rw [if_neg c8] at H
                  have c8b0 : ((rd l0 x1_1) == 10) = false := beq_eq_false_iff_ne.mpr c8
                  have c8b1 : ((rd l0 x1_1) != 10) = true := bne_iff_ne.mpr c8
                  have H' := Aside0.mk H
                  clear H
                  go_wp2
                  go_meet
                  case rel => exact ⟨_, (((rd l0 x1_1) == 13)), (by first | rfl | (simp; done) | (simp [*]; done)), H', ⟨by have := HK1.out; first | omega | exact Nat.le_refl _⟩, by repeat (first | exact Drawn0.refl _ | apply Drawn0.step)⟩
          case rest =>
            clear HC5
            try clear c2
            try clear p2
            try clear c3
            try clear c3b0
            try clear p3
            try clear q3
            try clear hx3
            try clear c4
            try clear c4b0
            try clear c6
            try clear c6b0
            try clear c6b1
            try clear c7
            try clear c7b0
            try clear c7b1
            try clear c8
            try clear c8b0
            try clear c8b1
            try clear hx304_0
            try clear p2
            try clear p304
            try clear q304
            obtain ⟨kq, x42_4, rfl, HA, HJ4, ⟨mc4, rfl⟩⟩ := hcut
            cases kq with
            | zero => exact absurd HA.out (by simp [gjson_validpayload.j1])
            | succ kj4 =>
              have H := HA.out
              clear HA
              simp only [gjson_validpayload.j1] at H
              by_cases c9 : x42_4 = true
              · subst c9
                have H1 : (gjson_validpayload.l0 kj4 l0 (wrap64 (x1_1 + 1))) = some (r1, r2) := by rw [if_pos rfl] at H; exact H
                clear H
                have H := H1
                clear H1
                have H' := Aside0.mk H
                clear H
                go_wp2
                go_roundg kj4
                case measure => have := HK1.out; have := HJ4.out; omega
                case rel => exact ⟨(wrap64 (x1_1 + 1)), (by first | rfl | (simp; done) | (simp [*]; done)), H', ⟨by have := HK1.out; have := HJ4.out; omega⟩, by repeat (first | exact Drawn0.refl _ | apply Drawn0.step)⟩
              · replace c9 := Bool.eq_false_iff.mpr c9
                subst c9
                have H1 : ((gjson_validany.f kj4 l0 x1_1).bind fun bt305 => (if bt305.2 = true then (gjson_validpayload.l1 kj4 l0 bt305.1) else (some (bt305.1, false)))) = some (r1, r2) := by rw [if_neg (show ¬ (false = true) by decide)] at H; exact H
                clear H
                have H := H1
                clear H1
                replace H := Option.bind_eq_some_iff.mp H
                obtain ⟨⟨t305, t306⟩, A100, H⟩ := H
                replace H : (if t306 = true then (gjson_validpayload.l1 kj4 l0 t305) else (some (t305, false))) = some (r1, r2) := H
                have A10 := Aside0.mk A100
                clear A100
                by_cases c11 : t306 = true
                · subst c11
                  have H1 : (gjson_validpayload.l1 kj4 l0 t305) = some (r1, r2) := by rw [if_pos rfl] at H; exact H
                  clear H
                  have H := H1
                  clear H1
                  have H' := Aside0.mk H
                  clear H
                  go_wp2_with (first | ((with_reducible refine gate_callee (f := 21) rfl ?_); refine goesL_ (some 19) rfl rfl Try.func21 (by kernel_rfl) rfl #[.slice (some ad304) l0.length c0, .int .i64 x1_1] rfl (by (try simp only [List.map_toArray, List.map_cons, List.map_nil]); first | done | rfl | (simp only [List.length_drop, List.length_take]; rfl)) ?_; (with_reducible refine (gjson_validany.calls kj4 _ _ l0 x1_1 t305 true _ ?side1 ?side2 A10.out).mono ?_); (case side1 => repeat (first | exact HR0.out | (with_reducible refine Kd.C_alloc ?_ _) | (with_reducible refine Kd.C_drewN ?_ _) | (with_reducible refine Kd.C_drew ?_))); (case side2 => exact HC0.out); rintro e w' ⟨rfl, ⟨nd, rfl⟩⟩; refine ⟨_, rfl, ?_⟩))
                  (try simp only [Act.put, List.setIfInBounds_toArray, List.set_cons_succ, List.set_cons_zero])
                  go_loopg [1] kj4 (fun kq v1 w' => ∃ (x1_3 : Int), v1 = .int .i64 x1_3 ∧ Aside0 (gjson_validpayload.l1 kq l0 x1_3 = some (r1, r2)) ∧ Aside0 (kq ≤ kj4) ∧ Drawn0 w w')
                  case atStart => exact ⟨(t305), (by first | rfl | (simp; done) | (simp [*]; done)), H', ⟨Nat.le_refl _⟩, by repeat (first | exact Drawn0.refl _ | apply Drawn0.step)⟩
                  case round =>
                    clear H'
                    try clear c1
                    try clear c2
                    try clear p2
                    try clear c3
                    try clear c3b0
                    try clear p3
                    try clear q3
                    try clear hx3
                    try clear c4
                    try clear c4b0
                    try clear c6
                    try clear c6b0
                    try clear c6b1
                    try clear p6
                    try clear c7
                    try clear c7b0
                    try clear c7b1
                    try clear c8
                    try clear c8b0
                    try clear c8b1
                    try clear c9
                    try clear c11
                    try clear hx304_0
                    try clear p2
                    try clear p3
                    try clear p304
                    try clear q3
                    try clear q304
                    obtain ⟨x1_3, rfl, HA, HK3, ⟨m3, rfl⟩⟩ := hrel
                    cases gk with
                    | zero => exact absurd HA.out (by simp [gjson_validpayload.l1])
                    | succ k3 =>
                      have H := HA.out
                      clear HA
                      simp only [gjson_validpayload.l1] at H
                      by_cases c12 : x1_3 < (l0.length : Int)
                      · rw [if_pos c12] at H
                        have c12b0 : decide (x1_3 < (l0.length : Int)) = true := decide_eq_true c12
                        clear c12
                        by_cases c13 : 0 ≤ x1_3
                        · rw [if_pos c13] at H
                          have c13b0 : decide (0 ≤ x1_3) = true := decide_eq_true c13
                          clear c13
                          by_cases c14 : (rd l0 x1_3) = 32
                          · rw [if_pos c14] at H
                            have c14b0 : ((rd l0 x1_3) == 32) = true := beq_iff_eq.mpr c14
                            have c14b1 : ((rd l0 x1_3) != 32) = false := bne_eq_false_iff_eq.mpr c14
                            clear c14
                            have H' := Aside0.mk H
                            clear H
                            have p307 : 0 ≤ (x1_3 : Int) := of_decide_eq_true (by first | (with_reducible assumption) | assumption)
                            have q307 : x1_3 < (l0.length : Int) := of_decide_eq_true (by first | (with_reducible assumption) | assumption)
                            obtain ⟨ad307, e307, hx307_0⟩ := Kd.at_int HR0.out x1_3 p307 q307
                            obtain rfl : ad304 = ad307 := (by injection e307)
                            replace p307 := eq_true p307
                            replace q307 := eq_true q307
                            go_wp2
                            go_roundg k3
                            case measure => have := HK1.out; have := HJ4.out; have := HK3.out; omega
                            case rel => exact ⟨(wrap64 (x1_3 + 1)), (by first | rfl | (simp; done) | (simp [*]; done)), H', ⟨by have := HK1.out; have := HJ4.out; have := HK3.out; omega⟩, by repeat (first | exact Drawn0.refl _ | apply Drawn0.step)⟩
                          · rw [if_neg c14] at H
                            have c14b0 : ((rd l0 x1_3) == 32) = false := beq_eq_false_iff_ne.mpr c14
                            have c14b1 : ((rd l0 x1_3) != 32) = true := bne_iff_ne.mpr c14
                            by_cases c15 : (rd l0 x1_3) = 9
                            · rw [if_pos c15] at H
                              have c15b0 : ((rd l0 x1_3) == 9) = true := beq_iff_eq.mpr c15
                              have c15b1 : ((rd l0 x1_3) != 9) = false := bne_eq_false_iff_eq.mpr c15
                              clear c15
                              have H' := Aside0.mk H
                              clear H
                              have p307 : 0 ≤ (x1_3 : Int) := of_decide_eq_true (by first | (with_reducible assumption) | assumption)
                              have q307 : x1_3 < (l0.length : Int) := of_decide_eq_true (by first | (with_reducible assumption) | assumption)
                              obtain ⟨ad307, e307, hx307_0⟩ := Kd.at_int HR0.out x1_3 p307 q307
                              obtain rfl : ad304 = ad307 := (by injection e307)
                              replace p307 := eq_true p307
                              replace q307 := eq_true q307
                              go_wp2
                              go_roundg k3
                              case measure => have := HK1.out; have := HJ4.out; have := HK3.out; omega
                              case rel => exact ⟨(wrap64 (x1_3 + 1)), (by first | rfl | (simp; done) | (simp [*]; done)), H', ⟨by have := HK1.out; have := HJ4.out; have := HK3.out; omega⟩, by repeat (first | exact Drawn0.refl _ | apply Drawn0.step)⟩
                            · rw [if_neg c15] at H
                              have c15b0 : ((rd l0 x1_3) == 9) = false := beq_eq_false_iff_ne.mpr c15
                              have c15b1 : ((rd l0 x1_3) != 9) = true := bne_iff_ne.mpr c15
                              by_cases c16 : (rd l0 x1_3) = 10
                              · rw [if_pos c16] at H
                                have c16b0 : ((rd l0 x1_3) == 10) = true := beq_iff_eq.mpr c16
                                have c16b1 : ((rd l0 x1_3) != 10) = false := bne_eq_false_iff_eq.mpr c16
                                clear c16
                                have H' := Aside0.mk H
                                clear H
                                have p307 : 0 ≤ (x1_3 : Int) := of_decide_eq_true (by first | (with_reducible assumption) | assumption)
                                have q307 : x1_3 < (l0.length : Int) := of_decide_eq_true (by first | (with_reducible assumption) | assumption)
                                obtain ⟨ad307, e307, hx307_0⟩ := Kd.at_int HR0.out x1_3 p307 q307
                                obtain rfl : ad304 = ad307 := (by injection e307)
                                replace p307 := eq_true p307
                                replace q307 := eq_true q307
                                go_wp2
                                go_roundg k3
                                case measure => have := HK1.out; have := HJ4.out; have := HK3.out; omega
                                case rel => exact ⟨(wrap64 (x1_3 + 1)), (by first | rfl | (simp; done) | (simp [*]; done)), H', ⟨by have := HK1.out; have := HJ4.out; have := HK3.out; omega⟩, by repeat (first | exact Drawn0.refl _ | apply Drawn0.step)⟩
                              · rw [if_neg c16] at H
                                have c16b0 : ((rd l0 x1_3) == 10) = false := beq_eq_false_iff_ne.mpr c16
                                have c16b1 : ((rd l0 x1_3) != 10) = true := bne_iff_ne.mpr c16
                                by_cases c17 : (rd l0 x1_3) = 13
                                · rw [if_pos c17] at H
                                  have c17b0 : ((rd l0 x1_3) == 13) = true := beq_iff_eq.mpr c17
                                  have c17b1 : ((rd l0 x1_3) != 13) = false := bne_eq_false_iff_eq.mpr c17
                                  clear c17
                                  have H' := Aside0.mk H
                                  clear H
                                  have p307 : 0 ≤ (x1_3 : Int) := of_decide_eq_true (by first | (with_reducible assumption) | assumption)
                                  have q307 : x1_3 < (l0.length : Int) := of_decide_eq_true (by first | (with_reducible assumption) | assumption)
                                  obtain ⟨ad307, e307, hx307_0⟩ := Kd.at_int HR0.out x1_3 p307 q307
                                  obtain rfl : ad304 = ad307 := (by injection e307)
                                  replace p307 := eq_true p307
                                  replace q307 := eq_true q307
                                  go_wp2
                                  go_roundg k3
                                  case measure => have := HK1.out; have := HJ4.out; have := HK3.out; omega
                                  case rel => exact ⟨(wrap64 (x1_3 + 1)), (by first | rfl | (simp; done) | (simp [*]; done)), H', ⟨by have := HK1.out; have := HJ4.out; have := HK3.out; omega⟩, by repeat (first | exact Drawn0.refl _ | apply Drawn0.step)⟩
                                · rw [if_neg c17] at H
                                  have c17b0 : ((rd l0 x1_3) == 13) = false := beq_eq_false_iff_ne.mpr c17
                                  have c17b1 : ((rd l0 x1_3) != 13) = true := bne_iff_ne.mpr c17
                                  simp only [Option.some.injEq, Prod.mk.injEq] at H
                                  obtain ⟨rfl, rfl⟩ := H
                                  have p307 : 0 ≤ (x1_3 : Int) := of_decide_eq_true (by first | (with_reducible assumption) | assumption)
                                  have q307 : x1_3 < (l0.length : Int) := of_decide_eq_true (by first | (with_reducible assumption) | assumption)
                                  obtain ⟨ad307, e307, hx307_0⟩ := Kd.at_int HR0.out x1_3 p307 q307
                                  obtain rfl : ad304 = ad307 := (by injection e307)
                                  replace p307 := eq_true p307
                                  replace q307 := eq_true q307
                                  go_wp2
                                  go_ret2
                                  exact ⟨by first | rfl | (simp; done) | (simp [*]; done), by repeat (first | exact Drawn0.refl _ | apply Drawn0.step)⟩
                        · rw [if_neg c13] at H
                          exact absurd H (by simp)
                      · rw [if_neg c12] at H
                        have c12b0 : decide (x1_3 < (l0.length : Int)) = false := decide_eq_false c12
                        clear c12
                        simp only [Option.some.injEq, Prod.mk.injEq] at H
                        obtain ⟨rfl, rfl⟩ := H
                        go_wp2
                        go_ret2
                        exact ⟨by first | rfl | (simp; done) | (simp [*]; done), by repeat (first | exact Drawn0.refl _ | apply Drawn0.step)⟩
                · replace c11 := Bool.eq_false_iff.mpr c11
                  subst c11
                  have H1 : (some (t305, false)) = some (r1, r2) := by rw [if_neg (show ¬ (false = true) by decide)] at H; exact H
                  clear H
                  have H := H1
                  clear H1
                  simp only [Option.some.injEq, Prod.mk.injEq] at H
                  obtain ⟨rfl, rfl⟩ := H
                  go_wp2_with (first | ((with_reducible refine gate_callee (f := 21) rfl ?_); refine goesL_ (some 19) rfl rfl Try.func21 (by kernel_rfl) rfl #[.slice (some ad304) l0.length c0, .int .i64 x1_1] rfl (by (try simp only [List.map_toArray, List.map_cons, List.map_nil]); first | done | rfl | (simp only [List.length_drop, List.length_take]; rfl)) ?_; (with_reducible refine (gjson_validany.calls kj4 _ _ l0 x1_1 t305 false _ ?side1 ?side2 A10.out).mono ?_); (case side1 => repeat (first | exact HR0.out | (with_reducible refine Kd.C_alloc ?_ _) | (with_reducible refine Kd.C_drewN ?_ _) | (with_reducible refine Kd.C_drew ?_))); (case side2 => exact HC0.out); rintro e w' ⟨rfl, ⟨nd, rfl⟩⟩; refine ⟨_, rfl, ?_⟩))
                  go_ret2
                  exact ⟨by first | rfl | (simp; done) | (simp [*]; done), by repeat (first | exact Drawn0.refl _ | apply Drawn0.step)⟩
        · rw [if_neg c4] at H
          exact absurd H (by simp)
      · rw [if_neg c3] at H
        have c3b0 : decide (x1_1 < (l0.length : Int)) = false := decide_eq_false c3
        clear c3
        simp only [Option.some.injEq, Prod.mk.injEq] at H
        obtain ⟨rfl, rfl⟩ := H
        go_wp2
        go_ret2
        exact ⟨by first | rfl | (simp; done) | (simp [*]; done), by repeat (first | exact Drawn0.refl _ | apply Drawn0.step)⟩
/-! gjson.Valid, walked by hand: the bytes of the text are a new row, which is read. -/
def gjson_Valid.f (k : Nat) (a0 : ByteArray) : Option Bool := if a0.size ≤ 140737488351232 then (gjson_validpayload.f k (Kit.nums a0) 0).bind fun b => some b.2 else none
theorem gjson_Valid.mono : ∀ a0 k, LeO (gjson_Valid.f k a0) (gjson_Valid.f (k + 1) a0) := by
  intro a0 k
  unfold gjson_Valid.f
  exact LeO.ite (LeO.bind (gjson_validpayload.mono _ _ _) (fun _ => LeO.refl _)) (LeO.none _)
theorem gjson_Valid.calls (k : Nat) (a0 : ByteArray) (r : Bool) (w : World) (h : gjson_Valid.f k a0 = some r) :
    Calls Try.prog 13 #[.string a0] w fun e w' => e = .returned (.bool r) ∧ Below w.heap.size w w' := by
  unfold gjson_Valid.f at h
  split at h
  · rename_i hs
    replace h := Option.bind_eq_some_iff.mp h
    obtain ⟨⟨r1, r2⟩, h, hr⟩ := h
    injection hr with hr
    subst hr
    have H := Aside0.mk h
    clear h
    have hcv := Lib.run_convert_string_bytes (P := Try.prog) w 9 35 5 a0 Try.underlying9 Try.underlying35 Try.underlying5
    have hB := Kit.BB.conv w 5 a0
    have hb := Kit.below_conv w 5 a0
    have hle := hB.le
    generalize hC : (Lib.bytesCells w 5 a0).size = cap at hB hle
    have hcap : grownCap w a0.size 0 5 = cap := by
      have hge := grownCap_ge w a0.size 0 5
      rw [← hC]
      simp only [Lib.bytesCells, Array.size_append, Array.size_map, Array.size_replicate]
      show _ = a0.size + _
      omega
    rw [hcap] at hcv
    generalize Lib.bytesWorld w 5 a0 = w1 at hcv hB hb
    have hlen := Kit.nums_len a0
    have hK : Kd.C (Kd.int .u8) w1 (some ⟨w.heap.size, 0, none⟩) (Kit.nums a0).length (Kit.nums a0) :=
      Kd.C_of_reads (d := (0 : Int)) (h1 := fun _ => rfl) ⟨rfl, by omega, fun _ => ⟨_, rfl, fun j hj => by
        have e : (⟨w.heap.size, 0, none⟩ : Addr).add j = ⟨w.heap.size, j, none⟩ := by
          simp only [Addr.add]
          split <;> simp_all
        rw [e]
        exact hB.cell j hj⟩⟩
    rw [← hlen] at hcv
    have HK := Aside0.mk hK
    have HLE := Aside0.mk hle
    have HB := Aside0.mk hb
    clear hK hle hB hb hC hcap hlen
    go_enter Try.func13, Try.ntmps13
    go_wp2_with (first | (go_at_call 22; refine (gjson_validpayload.calls k _ _ (Kit.nums a0) 0 r1 r2 _ HK.out HLE.out H.out).mono ?_; rintro e w2 ⟨rfl, ⟨m, rfl⟩⟩) | (go_at_call 23; go_in))
    go_ret
    exact ⟨rfl, pw_below_drewN HB.out m⟩
  · cases h
/-! ### impl_GjValid: function 9 -/
def impl_GjValid.f (k : Nat) (a0 : ByteArray) : Option (Bool) := (gjson_Valid.f k a0).bind fun t308 => (some t308)
theorem impl_GjValid.mono : ∀ a0 k, LeO (impl_GjValid.f k a0) (impl_GjValid.f (k + 1) a0) := by
  intro a0 k
  unfold impl_GjValid.f
  repeat' first
      | (with_reducible exact gjson_Valid.mono _ _)
      | (with_reducible exact LeO.refl _)
      | (with_reducible exact LeO.none _)
      | (with_reducible refine LeO.ite ?_ ?_)
      | (with_reducible refine LeO.bind ?_ (fun _ => ?_))
      | exact gjson_Valid.mono _ _
      | exact LeO.none _
      | refine LeO.ite ?_ ?_
      | refine LeO.bind ?_ (fun _ => ?_)
set_option maxHeartbeats 8000000 in
set_option maxRecDepth 100000 in
theorem impl_GjValid.calls (k : Nat) (a0 : ByteArray) (r : Bool) (w : World) (h : impl_GjValid.f k a0 = some r) :
    Calls Try.prog 9 #[.string a0] w fun e w' => e = .returned (.bool r) ∧ Below w.heap.size w w' := by
  have HB := Aside0.mk (Below.refl w.heap.size w)
  have H : ((gjson_Valid.f k a0).bind fun t308 => (some t308)) = some r := h
  clear h
  replace H := Option.bind_eq_some_iff.mp H
  obtain ⟨t308, A20, H⟩ := H
  replace H : (some t308) = some r := H
  have A2 := Aside0.mk A20
  clear A20
  obtain rfl := Option.some.inj H
  go_enter Try.func9, Try.ntmps9
  go_wp2_with (first | ((with_reducible refine gate_callee (f := 13) rfl ?_); refine goesL_ (some 4) rfl rfl Try.func13 (by kernel_rfl) rfl #[.string a0] rfl (by (try simp only [List.map_toArray, List.map_cons, List.map_nil]); first | done | rfl | (simp only [List.length_drop, List.length_take]; rfl)) ?_; (with_reducible refine (gjson_Valid.calls k a0 t308 _ A2.out).mono ?_); rintro e w3 ⟨rfl, hb⟩; refine ⟨_, rfl, ?_⟩; have n0_ := Aside0.mk (below_step (by repeat (first | (with_reducible first | exact HB.out | apply below_alloc | apply pw_below_drewN | apply below_drew1) | exact HB.out)) hb); clear HB; have HB := n0_; clear n0_; (try clear hb); (try clear hb2); (try clear hk); (try clear hi)))
  go_ret
  exact ⟨by first | rfl | (simp [errW_none, errW_some] <;> rfl) | (simp [*, errW_none, errW_some] <;> rfl), by repeat (first | (with_reducible first | exact HB.out | apply below_alloc | apply pw_below_drewN | apply below_drew1) | exact HB.out)⟩
end Go.Proofs.Ytphpjboljlkdkaa.PFnGjValidCut
