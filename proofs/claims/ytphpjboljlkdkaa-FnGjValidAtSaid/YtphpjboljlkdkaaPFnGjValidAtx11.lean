/- Written by a program of this session (a turned copy of the print) out of the translation. -/
import Derived.Test.YtphpjboljlkdkaaPFnGjValidAtx0
import Derived.Test.YtphpjboljlkdkaaPFnGjValidAtx4
import Derived.Test.YtphpjboljlkdkaaPFnGjValidAtx6
import Derived.Test.YtphpjboljlkdkaaPFnGjValidAtx9
import Derived.Test.YtphpjboljlkdkaaPFnGjValidAtx10
namespace Go.Proofs.Ytphpjboljlkdkaa.PFnGjValidAt
open Go.RowKit Go.Proofs.YtphpjboljlkdkaaW.PrintWords Go.Proofs.YtphpjboljlkdkaaW.PrintLast Go.Proofs.YtphpjboljlkdkaaW.PrintMore
attribute [local go_sem] max2_int min2_int max_two min_two max_three min_three max_four min_four   -- for this text's walks alone
set_option linter.unusedVariables false
set_option linter.unusedSimpArgs false

set_option maxHeartbeats 8000000 in
set_option maxRecDepth 100000 in
theorem gjson_validarray.step (k : Nat) (ih_21 : ∀ m, m < k + 1 → ∀ (A0 : Option Addr) (c0 : Nat) (l0 : List Int) (a1 : Int) (r1 : Int) (r2 : Bool) (w : World) (hr0 : Kd.C (Kd.int .u8) w A0 l0.length l0) (hc0 : l0.length ≤ c0) (h : gjson_validany.f m l0 a1 = some (r1, r2)),
    Calls Try.prog 21 #[.slice A0 l0.length c0, .int .i64 a1] w fun e w' => e = .returned (.tuple #[.int .i64 r1, .bool r2]) ∧ Drawn0 w w') (ih_27 : ∀ m, m < k + 1 → ∀ (A0 : Option Addr) (c0 : Nat) (l0 : List Int) (a1 : Int) (r1 : Int) (r2 : Bool) (w : World) (hr0 : Kd.C (Kd.int .u8) w A0 l0.length l0) (hc0 : l0.length ≤ c0) (h : gjson_validobject.f m l0 a1 = some (r1, r2)),
    Calls Try.prog 27 #[.slice A0 l0.length c0, .int .i64 a1] w fun e w' => e = .returned (.tuple #[.int .i64 r1, .bool r2]) ∧ Drawn0 w w') (ih_28 : ∀ m, m < k + 1 → ∀ (A0 : Option Addr) (c0 : Nat) (l0 : List Int) (a1 : Int) (r1 : Int) (r2 : Bool) (w : World) (hr0 : Kd.C (Kd.int .u8) w A0 l0.length l0) (hc0 : l0.length ≤ c0) (h : gjson_validarray.f m l0 a1 = some (r1, r2)),
    Calls Try.prog 28 #[.slice A0 l0.length c0, .int .i64 a1] w fun e w' => e = .returned (.tuple #[.int .i64 r1, .bool r2]) ∧ Drawn0 w w') : ∀ (A0 : Option Addr) (c0 : Nat) (l0 : List Int) (a1 : Int) (r1 : Int) (r2 : Bool) (w : World) (hr0 : Kd.C (Kd.int .u8) w A0 l0.length l0) (hc0 : l0.length ≤ c0) (h : gjson_validarray.f (k + 1) l0 a1 = some (r1, r2)),
    Calls Try.prog 28 #[.slice A0 l0.length c0, .int .i64 a1] w fun e w' => e = .returned (.tuple #[.int .i64 r1, .bool r2]) ∧ Drawn0 w w' := by
  intro A0 c0 l0 a1 r1 r2 w hr0 hc0 h
  simp only [gjson_validarray.f] at h
  have HR0 := Aside0.mk hr0
  have HC0 := Aside0.mk hc0
  clear hr0 hc0
  have H : (gjson_validarray.l0 k l0 a1) = some (r1, r2) := h
  clear h
  have H' := Aside0.mk H
  clear H
  go_enter Try.func28, Try.ntmps28
  go_wp2
  (try simp only [Act.put, List.setIfInBounds_toArray, List.set_cons_succ, List.set_cons_zero])
  go_loopg [1] k (fun kq v1 w' => ∃ (x1_1 : Int), v1 = .int .i64 x1_1 ∧ Aside0 (gjson_validarray.l0 kq l0 x1_1 = some (r1, r2)) ∧ Aside0 (kq ≤ k) ∧ Drawn0 w w')
  case atStart => exact ⟨(a1), (by first | rfl | (simp; done) | (simp [*]; done)), H', ⟨Nat.le_refl _⟩, by repeat (first | exact Drawn0.refl _ | apply Drawn0.step)⟩
  case round =>
    clear H'
    try clear c2
    try clear p2
    obtain ⟨x1_1, rfl, HA, HK1, ⟨m1, rfl⟩⟩ := hrel
    cases gk with
    | zero => exact absurd HA.out (by simp [gjson_validarray.l0])
    | succ k1 =>
      have H := HA.out
      clear HA
      simp only [gjson_validarray.l0] at H
      by_cases c3 : x1_1 < (l0.length : Int)
      · rw [if_pos c3] at H
        have c3b0 : decide (x1_1 < (l0.length : Int)) = true := decide_eq_true c3
        clear c3
        by_cases c4 : 0 ≤ x1_1
        · rw [if_pos c4] at H
          have c4b0 : decide (0 ≤ x1_1) = true := decide_eq_true c4
          clear c4
          have HC5 := Aside0.mk H
          clear H
          have p298 : 0 ≤ (x1_1 : Int) := of_decide_eq_true (by first | (with_reducible assumption) | assumption)
          have q298 : x1_1 < (l0.length : Int) := of_decide_eq_true (by first | (with_reducible assumption) | assumption)
          obtain ⟨ad298, e298, hx298_0⟩ := Kd.at_int HR0.out x1_1 p298 q298
          cases e298
          replace p298 := eq_true p298
          replace q298 := eq_true q298
          go_upto_if 47 with (fail)
          go_cut [47] (fun v47 wc => ∃ (kq : Nat) (x47_4 : Bool), v47 = .bool x47_4 ∧ Aside0 (gjson_validarray.j1 kq l0 x1_1 (rd l0 x1_1) x47_4 = some (r1, r2)) ∧ Aside0 (kq ≤ k1) ∧ Drawn0 w wc)
          case first =>
            have H := HC5.out
            clear HC5
            by_cases c6 : (rd l0 x1_1) = 32
            · rw [if_pos c6] at H
              have c6b0 : ((rd l0 x1_1) == 32) = true := beq_iff_eq.mpr c6
              have c6b1 : ((rd l0 x1_1) != 32) = false := bne_eq_false_iff_eq.mpr c6
              clear c6
              (first | rw [c6b0] | (simp only [i64_w, i32_w]; rw [c6b0]) | skip)
              have H' := Aside0.mk H
              clear H
              go_wp2
              go_meet
              case rel => exact ⟨_, (((rd l0 x1_1) == 32)), (by first | rfl | (simp; done) | (simp [*]; done)), H', ⟨by have := HK1.out; first | omega | exact Nat.le_refl _⟩, by repeat (first | exact Drawn0.refl _ | apply Drawn0.step)⟩
            · rw [if_neg c6] at H
              have c6b0 : ((rd l0 x1_1) == 32) = false := beq_eq_false_iff_ne.mpr c6
              have c6b1 : ((rd l0 x1_1) != 32) = true := bne_iff_ne.mpr c6
              (first | rw [c6b0] | (simp only [i64_w, i32_w]; rw [c6b0]) | skip)
              by_cases c7 : (rd l0 x1_1) = 9
              · rw [if_pos c7] at H
                have c7b0 : ((rd l0 x1_1) == 9) = true := beq_iff_eq.mpr c7
                have c7b1 : ((rd l0 x1_1) != 9) = false := bne_eq_false_iff_eq.mpr c7
                clear c7
                have H' := Aside0.mk H
                clear H
                go_wp2
                go_meet
                case rel => exact ⟨_, (((rd l0 x1_1) == 9)), (by first | rfl | (simp; done) | (simp [*]; done)), H', ⟨by have := HK1.out; first | omega | exact Nat.le_refl _⟩, by repeat (first | exact Drawn0.refl _ | apply Drawn0.step)⟩
              · rw [if_neg c7] at H
                have c7b0 : ((rd l0 x1_1) == 9) = false := beq_eq_false_iff_ne.mpr c7
                have c7b1 : ((rd l0 x1_1) != 9) = true := bne_iff_ne.mpr c7
                by_cases c8 : (rd l0 x1_1) = 10
                · rw [if_pos c8] at H
                  have c8b0 : ((rd l0 x1_1) == 10) = true := beq_iff_eq.mpr c8
                  have c8b1 : ((rd l0 x1_1) != 10) = false := bne_eq_false_iff_eq.mpr c8
                  clear c8
                  have H' := Aside0.mk H
                  clear H
                  go_wp2
                  go_meet
                  case rel => exact ⟨_, (((rd l0 x1_1) == 10)), (by first | rfl | (simp; done) | (simp [*]; done)), H', ⟨by have := HK1.out; first | omega | exact Nat.le_refl _⟩, by repeat (first | exact Drawn0.refl _ | apply Drawn0.step)⟩
                · rw [if_neg c8] at H
                  have c8b0 : ((rd l0 x1_1) == 10) = false := beq_eq_false_iff_ne.mpr c8
                  have c8b1 : ((rd l0 x1_1) != 10) = true := bne_iff_ne.mpr c8
                  have H' := Aside0.mk H
                  clear H
                  go_wp2
                  go_meet
                  case rel => exact ⟨_, (((rd l0 x1_1) == 13)), (by first | rfl | (simp; done) | (simp [*]; done)), H', ⟨by have := HK1.out; first | omega | exact Nat.le_refl _⟩, by repeat (first | exact Drawn0.refl _ | apply Drawn0.step)⟩
          case rest =>
            clear HC5
            try clear c2
            try clear p2
            try clear q2
            try clear hx2
            try clear c3
            try clear c3b0
            try clear c4
            try clear c4b0
            try clear c6
            try clear c6b0
            try clear c6b1
            try clear c7
            try clear c7b0
            try clear c7b1
            try clear c8
            try clear c8b0
            try clear c8b1
            try clear hx298_0
            try clear p2
            try clear p298
            try clear q298
            obtain ⟨kq, x47_4, rfl, HA, HJ4, ⟨mc4, rfl⟩⟩ := hcut
            cases kq with
            | zero => exact absurd HA.out (by simp [gjson_validarray.j1])
            | succ kj4 =>
              have H := HA.out
              clear HA
              simp only [gjson_validarray.j1] at H
              by_cases c9 : x47_4 = true
              · subst c9
                have H1 : (gjson_validarray.l0 kj4 l0 (wrap64 (x1_1 + 1))) = some (r1, r2) := by rw [if_pos rfl] at H; exact H
                clear H
                have H := H1
                clear H1
                have H' := Aside0.mk H
                clear H
                go_wp2
                go_roundg kj4
                case measure => have := HK1.out; have := HJ4.out; omega
                case rel => exact ⟨(wrap64 (x1_1 + 1)), (by first | rfl | (simp; done) | (simp [*]; done)), H', ⟨by have := HK1.out; have := HJ4.out; omega⟩, by repeat (first | exact Drawn0.refl _ | apply Drawn0.step)⟩
              · replace c9 := Bool.eq_false_iff.mpr c9
                subst c9
                have H1 : (if (rd l0 x1_1) = 93 then (some (wrap64 (x1_1 + 1), true)) else (gjson_validarray.l1 kj4 l0 x1_1)) = some (r1, r2) := by rw [if_neg (show ¬ (false = true) by decide)] at H; exact H
                clear H
                have H := H1
                clear H1
                by_cases c10 : (rd l0 x1_1) = 93
                · rw [if_pos c10] at H
                  have c10b0 : ((rd l0 x1_1) == 93) = true := beq_iff_eq.mpr c10
                  have c10b1 : ((rd l0 x1_1) != 93) = false := bne_eq_false_iff_eq.mpr c10
                  clear c10
                  simp only [Option.some.injEq, Prod.mk.injEq] at H
                  obtain ⟨rfl, rfl⟩ := H
                  go_wp2
                  go_ret2
                  exact ⟨by first | rfl | (simp; done) | (simp [*]; done), by repeat (first | exact Drawn0.refl _ | apply Drawn0.step)⟩
                · rw [if_neg c10] at H
                  have c10b0 : ((rd l0 x1_1) == 93) = false := beq_eq_false_iff_ne.mpr c10
                  have c10b1 : ((rd l0 x1_1) != 93) = true := bne_iff_ne.mpr c10
                  have H' := Aside0.mk H
                  clear H
                  go_wp2
                  (try simp only [Act.put, List.setIfInBounds_toArray, List.set_cons_succ, List.set_cons_zero])
                  go_loopg [1] kj4 (fun kq v1 w' => ∃ (x1_3 : Int), v1 = .int .i64 x1_3 ∧ Aside0 (gjson_validarray.l1 kq l0 x1_3 = some (r1, r2)) ∧ Aside0 (kq ≤ kj4) ∧ Drawn0 w w')
                  case atStart => exact ⟨(x1_1), (by first | rfl | (simp; done) | (simp [*]; done)), H', ⟨Nat.le_refl _⟩, by repeat (first | exact Drawn0.refl _ | apply Drawn0.step)⟩
                  case round =>
                    clear H'
                    try clear c1
                    try clear c2
                    try clear p2
                    try clear q2
                    try clear hx2
                    try clear c3
                    try clear c3b0
                    try clear c4
                    try clear c4b0
                    try clear c6
                    try clear c6b0
                    try clear c6b1
                    try clear p6
                    try clear c7
                    try clear c7b0
                    try clear c7b1
                    try clear c8
                    try clear c8b0
                    try clear c8b1
                    try clear c9
                    try clear c10
                    try clear c10b0
                    try clear c10b1
                    try clear hx298_0
                    try clear p2
                    try clear p298
                    try clear q2
                    try clear q298
                    obtain ⟨x1_3, rfl, HA, HK3, ⟨m3, rfl⟩⟩ := hrel
                    cases gk with
                    | zero => exact absurd HA.out (by simp [gjson_validarray.l1])
                    | succ k3 =>
                      have H := HA.out
                      clear HA
                      simp only [gjson_validarray.l1] at H
                      by_cases c11 : x1_3 < (l0.length : Int)
                      · rw [if_pos c11] at H
                        have c11b0 : decide (x1_3 < (l0.length : Int)) = true := decide_eq_true c11
                        clear c11
                        replace H := Option.bind_eq_some_iff.mp H
                        obtain ⟨⟨t299, t300⟩, A120, H⟩ := H
                        replace H : (if t300 = true then ((gjson_validcomma.f k3 l0 t299 93).bind fun bt301 => (if bt301.2 = true then (if 0 ≤ bt301.1 then (if bt301.1 < (l0.length : Int) then (if (rd l0 bt301.1) = 93 then (some (wrap64 (bt301.1 + 1), true)) else (gjson_validarray.l1 k3 l0 (wrap64 (bt301.1 + 1)))) else (none)) else (none)) else (some (bt301.1, false)))) else (some (t299, false))) = some (r1, r2) := H
                        have A12 := Aside0.mk A120
                        clear A120
                        by_cases c13 : t300 = true
                        · subst c13
                          have H1 : ((gjson_validcomma.f k3 l0 t299 93).bind fun bt301 => (if bt301.2 = true then (if 0 ≤ bt301.1 then (if bt301.1 < (l0.length : Int) then (if (rd l0 bt301.1) = 93 then (some (wrap64 (bt301.1 + 1), true)) else (gjson_validarray.l1 k3 l0 (wrap64 (bt301.1 + 1)))) else (none)) else (none)) else (some (bt301.1, false)))) = some (r1, r2) := by rw [if_pos rfl] at H; exact H
                          clear H
                          have H := H1
                          clear H1
                          replace H := Option.bind_eq_some_iff.mp H
                          obtain ⟨⟨t301, t302⟩, A140, H⟩ := H
                          replace H : (if t302 = true then (if 0 ≤ t301 then (if t301 < (l0.length : Int) then (if (rd l0 t301) = 93 then (some (wrap64 (t301 + 1), true)) else (gjson_validarray.l1 k3 l0 (wrap64 (t301 + 1)))) else (none)) else (none)) else (some (t301, false))) = some (r1, r2) := H
                          have A14 := Aside0.mk A140
                          clear A140
                          by_cases c15 : t302 = true
                          · subst c15
                            have H1 : (if 0 ≤ t301 then (if t301 < (l0.length : Int) then (if (rd l0 t301) = 93 then (some (wrap64 (t301 + 1), true)) else (gjson_validarray.l1 k3 l0 (wrap64 (t301 + 1)))) else (none)) else (none)) = some (r1, r2) := by rw [if_pos rfl] at H; exact H
                            clear H
                            have H := H1
                            clear H1
                            by_cases c16 : 0 ≤ t301
                            · rw [if_pos c16] at H
                              have c16b0 : decide (0 ≤ t301) = true := decide_eq_true c16
                              clear c16
                              by_cases c17 : t301 < (l0.length : Int)
                              · rw [if_pos c17] at H
                                have c17b0 : decide (t301 < (l0.length : Int)) = true := decide_eq_true c17
                                clear c17
                                by_cases c18 : (rd l0 t301) = 93
                                · rw [if_pos c18] at H
                                  have c18b0 : ((rd l0 t301) == 93) = true := beq_iff_eq.mpr c18
                                  have c18b1 : ((rd l0 t301) != 93) = false := bne_eq_false_iff_eq.mpr c18
                                  clear c18
                                  simp only [Option.some.injEq, Prod.mk.injEq] at H
                                  obtain ⟨rfl, rfl⟩ := H
                                  go_wp2_with (first | ((with_reducible refine gate_callee (f := 21) rfl ?_); refine goesL_ (some 25) rfl rfl Try.func21 (by kernel_rfl) rfl #[.slice (some ad298) l0.length c0, .int .i64 x1_3] rfl (by (try simp only [List.map_toArray, List.map_cons, List.map_nil]); first | done | rfl | (simp only [List.length_drop, List.length_take]; rfl)) ?_; (with_reducible refine (ih_21 k3 (by have := HK1.out; have := HJ4.out; have := HK3.out; omega) _ _ l0 x1_3 t299 true _ ?side1 ?side2 A12.out).mono ?_); (case side1 => repeat (first | exact HR0.out | (with_reducible refine Kd.C_alloc ?_ _) | (with_reducible refine Kd.C_drewN ?_ _) | (with_reducible refine Kd.C_drew ?_))); (case side2 => exact HC0.out); rintro e w' ⟨rfl, ⟨nd, rfl⟩⟩; refine ⟨_, rfl, ?_⟩) | ((with_reducible refine gate_callee (f := 36) rfl ?_); refine goesL_ (some 34) rfl rfl Try.func36 (by kernel_rfl) rfl #[.slice (some ad298) l0.length c0, .int .i64 t299, .int .u8 93] rfl (by (try simp only [List.map_toArray, List.map_cons, List.map_nil]); first | done | rfl | (simp only [List.length_drop, List.length_take]; rfl)) ?_; (with_reducible refine (gjson_validcomma.calls k3 _ _ l0 t299 93 t301 true _ ?side1 ?side2 A14.out).mono ?_); (case side1 => repeat (first | exact HR0.out | (with_reducible refine Kd.C_alloc ?_ _) | (with_reducible refine Kd.C_drewN ?_ _) | (with_reducible refine Kd.C_drew ?_))); (case side2 => exact HC0.out); rintro e w' ⟨rfl, ⟨nd, rfl⟩⟩; refine ⟨_, rfl, ?_⟩; have p303 : 0 ≤ (t301 : Int) := of_decide_eq_true (by first | (with_reducible assumption) | assumption); have q303 : t301 < (l0.length : Int) := of_decide_eq_true (by first | (with_reducible assumption) | assumption); obtain ⟨ad303, e303, hx303_0⟩ := Kd.at_int HR0.out t301 p303 q303; obtain rfl : ad298 = ad303 := (by injection e303); replace p303 := eq_true p303; replace q303 := eq_true q303))
                                  go_ret2
                                  exact ⟨by first | rfl | (simp; done) | (simp [*]; done), by repeat (first | exact Drawn0.refl _ | apply Drawn0.step)⟩
                                · rw [if_neg c18] at H
                                  have c18b0 : ((rd l0 t301) == 93) = false := beq_eq_false_iff_ne.mpr c18
                                  have c18b1 : ((rd l0 t301) != 93) = true := bne_iff_ne.mpr c18
                                  have H' := Aside0.mk H
                                  clear H
                                  go_wp2_with (first | ((with_reducible refine gate_callee (f := 21) rfl ?_); refine goesL_ (some 25) rfl rfl Try.func21 (by kernel_rfl) rfl #[.slice (some ad298) l0.length c0, .int .i64 x1_3] rfl (by (try simp only [List.map_toArray, List.map_cons, List.map_nil]); first | done | rfl | (simp only [List.length_drop, List.length_take]; rfl)) ?_; (with_reducible refine (ih_21 k3 (by have := HK1.out; have := HJ4.out; have := HK3.out; omega) _ _ l0 x1_3 t299 true _ ?side1 ?side2 A12.out).mono ?_); (case side1 => repeat (first | exact HR0.out | (with_reducible refine Kd.C_alloc ?_ _) | (with_reducible refine Kd.C_drewN ?_ _) | (with_reducible refine Kd.C_drew ?_))); (case side2 => exact HC0.out); rintro e w' ⟨rfl, ⟨nd, rfl⟩⟩; refine ⟨_, rfl, ?_⟩) | ((with_reducible refine gate_callee (f := 36) rfl ?_); refine goesL_ (some 34) rfl rfl Try.func36 (by kernel_rfl) rfl #[.slice (some ad298) l0.length c0, .int .i64 t299, .int .u8 93] rfl (by (try simp only [List.map_toArray, List.map_cons, List.map_nil]); first | done | rfl | (simp only [List.length_drop, List.length_take]; rfl)) ?_; (with_reducible refine (gjson_validcomma.calls k3 _ _ l0 t299 93 t301 true _ ?side1 ?side2 A14.out).mono ?_); (case side1 => repeat (first | exact HR0.out | (with_reducible refine Kd.C_alloc ?_ _) | (with_reducible refine Kd.C_drewN ?_ _) | (with_reducible refine Kd.C_drew ?_))); (case side2 => exact HC0.out); rintro e w' ⟨rfl, ⟨nd, rfl⟩⟩; refine ⟨_, rfl, ?_⟩; have p303 : 0 ≤ (t301 : Int) := of_decide_eq_true (by first | (with_reducible assumption) | assumption); have q303 : t301 < (l0.length : Int) := of_decide_eq_true (by first | (with_reducible assumption) | assumption); obtain ⟨ad303, e303, hx303_0⟩ := Kd.at_int HR0.out t301 p303 q303; obtain rfl : ad298 = ad303 := (by injection e303); replace p303 := eq_true p303; replace q303 := eq_true q303))
                                  go_roundg k3
                                  case measure => have := HK1.out; have := HJ4.out; have := HK3.out; omega
                                  case rel => exact ⟨(wrap64 (t301 + 1)), (by first | rfl | (simp; done) | (simp [*]; done)), H', ⟨by have := HK1.out; have := HJ4.out; have := HK3.out; omega⟩, by repeat (first | exact Drawn0.refl _ | apply Drawn0.step)⟩
                              · rw [if_neg c17] at H
                                exact absurd H (by simp)
                            · rw [if_neg c16] at H
                              exact absurd H (by simp)
                          · replace c15 := Bool.eq_false_iff.mpr c15
                            subst c15
                            have H1 : (some (t301, false)) = some (r1, r2) := by rw [if_neg (show ¬ (false = true) by decide)] at H; exact H
                            clear H
                            have H := H1
                            clear H1
                            simp only [Option.some.injEq, Prod.mk.injEq] at H
                            obtain ⟨rfl, rfl⟩ := H
                            go_wp2_with (first | ((with_reducible refine gate_callee (f := 21) rfl ?_); refine goesL_ (some 25) rfl rfl Try.func21 (by kernel_rfl) rfl #[.slice (some ad298) l0.length c0, .int .i64 x1_3] rfl (by (try simp only [List.map_toArray, List.map_cons, List.map_nil]); first | done | rfl | (simp only [List.length_drop, List.length_take]; rfl)) ?_; (with_reducible refine (ih_21 k3 (by have := HK1.out; have := HJ4.out; have := HK3.out; omega) _ _ l0 x1_3 t299 true _ ?side1 ?side2 A12.out).mono ?_); (case side1 => repeat (first | exact HR0.out | (with_reducible refine Kd.C_alloc ?_ _) | (with_reducible refine Kd.C_drewN ?_ _) | (with_reducible refine Kd.C_drew ?_))); (case side2 => exact HC0.out); rintro e w' ⟨rfl, ⟨nd, rfl⟩⟩; refine ⟨_, rfl, ?_⟩) | ((with_reducible refine gate_callee (f := 36) rfl ?_); refine goesL_ (some 34) rfl rfl Try.func36 (by kernel_rfl) rfl #[.slice (some ad298) l0.length c0, .int .i64 t299, .int .u8 93] rfl (by (try simp only [List.map_toArray, List.map_cons, List.map_nil]); first | done | rfl | (simp only [List.length_drop, List.length_take]; rfl)) ?_; (with_reducible refine (gjson_validcomma.calls k3 _ _ l0 t299 93 t301 false _ ?side1 ?side2 A14.out).mono ?_); (case side1 => repeat (first | exact HR0.out | (with_reducible refine Kd.C_alloc ?_ _) | (with_reducible refine Kd.C_drewN ?_ _) | (with_reducible refine Kd.C_drew ?_))); (case side2 => exact HC0.out); rintro e w' ⟨rfl, ⟨nd, rfl⟩⟩; refine ⟨_, rfl, ?_⟩))
                            go_ret2
                            exact ⟨by first | rfl | (simp; done) | (simp [*]; done), by repeat (first | exact Drawn0.refl _ | apply Drawn0.step)⟩
                        · replace c13 := Bool.eq_false_iff.mpr c13
                          subst c13
                          have H1 : (some (t299, false)) = some (r1, r2) := by rw [if_neg (show ¬ (false = true) by decide)] at H; exact H
                          clear H
                          have H := H1
                          clear H1
                          simp only [Option.some.injEq, Prod.mk.injEq] at H
                          obtain ⟨rfl, rfl⟩ := H
                          go_wp2_with (first | ((with_reducible refine gate_callee (f := 21) rfl ?_); refine goesL_ (some 25) rfl rfl Try.func21 (by kernel_rfl) rfl #[.slice (some ad298) l0.length c0, .int .i64 x1_3] rfl (by (try simp only [List.map_toArray, List.map_cons, List.map_nil]); first | done | rfl | (simp only [List.length_drop, List.length_take]; rfl)) ?_; (with_reducible refine (ih_21 k3 (by have := HK1.out; have := HJ4.out; have := HK3.out; omega) _ _ l0 x1_3 t299 false _ ?side1 ?side2 A12.out).mono ?_); (case side1 => repeat (first | exact HR0.out | (with_reducible refine Kd.C_alloc ?_ _) | (with_reducible refine Kd.C_drewN ?_ _) | (with_reducible refine Kd.C_drew ?_))); (case side2 => exact HC0.out); rintro e w' ⟨rfl, ⟨nd, rfl⟩⟩; refine ⟨_, rfl, ?_⟩))
                          go_ret2
                          exact ⟨by first | rfl | (simp; done) | (simp [*]; done), by repeat (first | exact Drawn0.refl _ | apply Drawn0.step)⟩
                      · rw [if_neg c11] at H
                        have c11b0 : decide (x1_3 < (l0.length : Int)) = false := decide_eq_false c11
                        clear c11
                        have H' := Aside0.mk H
                        clear H
                        go_wp2
                        go_roundg k3
                        case measure => have := HK1.out; have := HJ4.out; have := HK3.out; omega
                        case rel => exact ⟨(wrap64 (x1_3 + 1)), (by first | rfl | (simp; done) | (simp [*]; done)), H', ⟨by have := HK1.out; have := HJ4.out; have := HK3.out; omega⟩, by repeat (first | exact Drawn0.refl _ | apply Drawn0.step)⟩
        · rw [if_neg c4] at H
          exact absurd H (by simp)
      · rw [if_neg c3] at H
        have c3b0 : decide (x1_1 < (l0.length : Int)) = false := decide_eq_false c3
        clear c3
        simp only [Option.some.injEq, Prod.mk.injEq] at H
        obtain ⟨rfl, rfl⟩ := H
        go_wp2
        go_ret2
        exact ⟨by first | rfl | (simp; done) | (simp [*]; done), by repeat (first | exact Drawn0.refl _ | apply Drawn0.step)⟩

theorem gjson_validany.all_calls : ∀ (k : Nat), (∀ (A0 : Option Addr) (c0 : Nat) (l0 : List Int) (a1 : Int) (r1 : Int) (r2 : Bool) (w : World) (hr0 : Kd.C (Kd.int .u8) w A0 l0.length l0) (hc0 : l0.length ≤ c0) (h : gjson_validany.f k l0 a1 = some (r1, r2)),
    Calls Try.prog 21 #[.slice A0 l0.length c0, .int .i64 a1] w fun e w' => e = .returned (.tuple #[.int .i64 r1, .bool r2]) ∧ Drawn0 w w') ∧ (∀ (A0 : Option Addr) (c0 : Nat) (l0 : List Int) (a1 : Int) (r1 : Int) (r2 : Bool) (w : World) (hr0 : Kd.C (Kd.int .u8) w A0 l0.length l0) (hc0 : l0.length ≤ c0) (h : gjson_validobject.f k l0 a1 = some (r1, r2)),
    Calls Try.prog 27 #[.slice A0 l0.length c0, .int .i64 a1] w fun e w' => e = .returned (.tuple #[.int .i64 r1, .bool r2]) ∧ Drawn0 w w') ∧ (∀ (A0 : Option Addr) (c0 : Nat) (l0 : List Int) (a1 : Int) (r1 : Int) (r2 : Bool) (w : World) (hr0 : Kd.C (Kd.int .u8) w A0 l0.length l0) (hc0 : l0.length ≤ c0) (h : gjson_validarray.f k l0 a1 = some (r1, r2)),
    Calls Try.prog 28 #[.slice A0 l0.length c0, .int .i64 a1] w fun e w' => e = .returned (.tuple #[.int .i64 r1, .bool r2]) ∧ Drawn0 w w') := by
  intro k
  induction k using Nat.strongRecOn with
  | _ k ih =>
  cases k with
  | zero => exact ⟨fun A0 c0 l0 a1 r1 r2 w hr0 hc0 h => absurd h (by simp [gjson_validany.f]), fun A0 c0 l0 a1 r1 r2 w hr0 hc0 h => absurd h (by simp [gjson_validobject.f]), fun A0 c0 l0 a1 r1 r2 w hr0 hc0 h => absurd h (by simp [gjson_validarray.f])⟩
  | succ k => exact ⟨gjson_validany.step k (fun m hm => (ih m hm).1) (fun m hm => (ih m hm).2.1) (fun m hm => (ih m hm).2.2), gjson_validobject.step k (fun m hm => (ih m hm).1) (fun m hm => (ih m hm).2.1) (fun m hm => (ih m hm).2.2), gjson_validarray.step k (fun m hm => (ih m hm).1) (fun m hm => (ih m hm).2.1) (fun m hm => (ih m hm).2.2)⟩
theorem gjson_validany.calls (k : Nat) : ∀ (A0 : Option Addr) (c0 : Nat) (l0 : List Int) (a1 : Int) (r1 : Int) (r2 : Bool) (w : World) (hr0 : Kd.C (Kd.int .u8) w A0 l0.length l0) (hc0 : l0.length ≤ c0) (h : gjson_validany.f k l0 a1 = some (r1, r2)),
    Calls Try.prog 21 #[.slice A0 l0.length c0, .int .i64 a1] w fun e w' => e = .returned (.tuple #[.int .i64 r1, .bool r2]) ∧ Drawn0 w w' := (gjson_validany.all_calls k).1
theorem gjson_validobject.calls (k : Nat) : ∀ (A0 : Option Addr) (c0 : Nat) (l0 : List Int) (a1 : Int) (r1 : Int) (r2 : Bool) (w : World) (hr0 : Kd.C (Kd.int .u8) w A0 l0.length l0) (hc0 : l0.length ≤ c0) (h : gjson_validobject.f k l0 a1 = some (r1, r2)),
    Calls Try.prog 27 #[.slice A0 l0.length c0, .int .i64 a1] w fun e w' => e = .returned (.tuple #[.int .i64 r1, .bool r2]) ∧ Drawn0 w w' := (gjson_validany.all_calls k).2.1
theorem gjson_validarray.calls (k : Nat) : ∀ (A0 : Option Addr) (c0 : Nat) (l0 : List Int) (a1 : Int) (r1 : Int) (r2 : Bool) (w : World) (hr0 : Kd.C (Kd.int .u8) w A0 l0.length l0) (hc0 : l0.length ≤ c0) (h : gjson_validarray.f k l0 a1 = some (r1, r2)),
    Calls Try.prog 28 #[.slice A0 l0.length c0, .int .i64 a1] w fun e w' => e = .returned (.tuple #[.int .i64 r1, .bool r2]) ∧ Drawn0 w w' := (gjson_validany.all_calls k).2.2

/-! gjson.DoorValid, walked by hand: the bytes of the text are a new row, which is read. -/
def gjson_DoorValid.f (k : Nat) (a0 : ByteArray) (a1 : Int) : Option (Int × Bool) := if a0.size ≤ 140737488351232 then gjson_validany.f k (Kit.nums a0) a1 else none
theorem gjson_DoorValid.mono : ∀ a0 a1 k, LeO (gjson_DoorValid.f k a0 a1) (gjson_DoorValid.f (k + 1) a0 a1) := by
  intro a0 a1 k
  unfold gjson_DoorValid.f
  exact LeO.ite (gjson_validany.mono _ _ _) (LeO.none _)
theorem gjson_DoorValid.calls (k : Nat) (a0 : ByteArray) (a1 : Int) (r1 : Int) (r2 : Bool) (w : World) (h : gjson_DoorValid.f k a0 a1 = some (r1, r2)) :
    Calls Try.prog 12 #[.string a0, .int .i64 a1] w fun e w' => e = .returned (.tuple #[.int .i64 r1, .bool r2]) ∧ Below w.heap.size w w' := by
  unfold gjson_DoorValid.f at h
  split at h
  · rename_i hs
    have H := Aside0.mk h
    clear h
    have hcv := Lib.run_convert_string_bytes (P := Try.prog) w 9 35 5 a0 Try.underlying9 Try.underlying35 Try.underlying5
    have hB := Kit.BB.conv w 5 a0
    have hb := Kit.below_conv w 5 a0
    have hle := hB.le
    generalize hC : (Lib.bytesCells w 5 a0).size = cap at hB hle
    have hcap : grownCap w a0.size 0 5 = cap := by
      have hge := grownCap_ge w a0.size 0 5
      rw [← hC]
      simp only [Lib.bytesCells, Array.size_append, Array.size_map, Array.size_replicate]
      show _ = a0.size + _
      omega
    rw [hcap] at hcv
    generalize Lib.bytesWorld w 5 a0 = w1 at hcv hB hb
    have hlen := Kit.nums_len a0
    have hK : Kd.C (Kd.int .u8) w1 (some ⟨w.heap.size, 0, none⟩) (Kit.nums a0).length (Kit.nums a0) :=
      Kd.C_of_reads (d := (0 : Int)) (h1 := fun _ => rfl) ⟨rfl, by omega, fun _ => ⟨_, rfl, fun j hj => by
        have e : (⟨w.heap.size, 0, none⟩ : Addr).add j = ⟨w.heap.size, j, none⟩ := by
          simp only [Addr.add]
          split <;> simp_all
        rw [e]
        exact hB.cell j hj⟩⟩
    rw [← hlen] at hcv
    have HK := Aside0.mk hK
    have HLE := Aside0.mk hle
    have HB := Aside0.mk hb
    clear hK hle hB hb hC hcap hlen
    go_enter Try.func12, Try.ntmps12
    go_wp2_with (go_at_call 21; refine (gjson_validany.calls k _ _ (Kit.nums a0) a1 r1 r2 _ HK.out HLE.out H.out).mono ?_; rintro e w2 ⟨rfl, ⟨m, rfl⟩⟩)
    go_ret2
    exact ⟨rfl, pw_below_drewN HB.out m⟩
  · cases h

/-! ### impl_GjValidAt: function 7 -/
def impl_GjValidAt.f (k : Nat) (a0 : ByteArray) (a1 : Int) : Option (Int × Bool) := (gjson_DoorValid.f k a0 a1).bind fun bt304 => (some (bt304.1, bt304.2))
theorem impl_GjValidAt.mono : ∀ a0 a1 k, LeO (impl_GjValidAt.f k a0 a1) (impl_GjValidAt.f (k + 1) a0 a1) := by
  intro a0 a1 k
  unfold impl_GjValidAt.f
  repeat' first
      | (with_reducible exact gjson_DoorValid.mono _ _ _)
      | (with_reducible exact LeO.refl _)
      | (with_reducible exact LeO.none _)
      | (with_reducible refine LeO.ite ?_ ?_)
      | (with_reducible refine LeO.bind ?_ (fun _ => ?_))
      | exact gjson_DoorValid.mono _ _ _
      | exact LeO.none _
      | refine LeO.ite ?_ ?_
      | refine LeO.bind ?_ (fun _ => ?_)
set_option maxHeartbeats 8000000 in
set_option maxRecDepth 100000 in
theorem impl_GjValidAt.calls (k : Nat) (a0 : ByteArray) (a1 : Int) (r1 : Int) (r2 : Bool) (w : World) (h : impl_GjValidAt.f k a0 a1 = some (r1, r2)) :
    Calls Try.prog 7 #[.string a0, .int .i64 a1] w fun e w' => e = .returned (.tuple #[.int .i64 r1, .bool r2]) ∧ Below w.heap.size w w' := by
  have HB := Aside0.mk (Below.refl w.heap.size w)
  have H : ((gjson_DoorValid.f k a0 a1).bind fun bt304 => (some (bt304.1, bt304.2))) = some (r1, r2) := h
  clear h
  replace H := Option.bind_eq_some_iff.mp H
  obtain ⟨⟨t304, t305⟩, A30, H⟩ := H
  replace H : (some (t304, t305)) = some (r1, r2) := H
  have A3 := Aside0.mk A30
  clear A30
  simp only [Option.some.injEq, Prod.mk.injEq] at H
  obtain ⟨rfl, rfl⟩ := H
  go_enter Try.func7, Try.ntmps7
  go_wp2_with (first | ((with_reducible refine gate_callee (f := 12) rfl ?_); refine goesL_ (some 8) rfl rfl Try.func12 (by kernel_rfl) rfl #[.string a0, .int .i64 a1] rfl (by (try simp only [List.map_toArray, List.map_cons, List.map_nil]); first | done | rfl | (simp only [List.length_drop, List.length_take]; rfl)) ?_; (with_reducible refine (gjson_DoorValid.calls k a0 a1 t304 t305 _ A3.out).mono ?_); rintro e w4 ⟨rfl, hb⟩; refine ⟨_, rfl, ?_⟩; have n0_ := Aside0.mk (below_step (by repeat (first | (with_reducible first | exact HB.out | apply below_alloc | apply pw_below_drewN | apply below_drew1) | exact HB.out)) hb); clear HB; have HB := n0_; clear n0_; (try clear hb); (try clear hb2); (try clear hk); (try clear hi)))
  go_ret2
  exact ⟨by first | rfl | (simp [errW_none, errW_some] <;> rfl) | (simp [*, errW_none, errW_some] <;> rfl), by repeat (first | (with_reducible first | exact HB.out | apply below_alloc | apply pw_below_drewN | apply below_drew1) | exact HB.out)⟩

/-! ### laws_FnGjValidAt: function 3 -/
def laws_FnGjValidAt.j0 : Nat → ByteArray → Int → Bool → Option (Bool)
  | 0, _, _, _ => none
  | k + 1, x0, x1, x24 => if x24 = true then (some true) else ((spec_ValueAt.f k x0 x1).bind fun bt306 => ((impl_GjValidAt.f k x0 x1).bind fun bt317 => (if (bt317.2 == bt306.2.2.2.2.2) = true then (if bt306.2.2.2.2.2 = true then (some (bt317.1 == bt306.2.2.1)) else (some true)) else (some false))))
def laws_FnGjValidAt.f (k : Nat) (a0 : ByteArray) (a1 : Int) : Option (Bool) := if (a0.size : Int) > 2147483647 then (some true) else (if (a0.size : Int) > 65536 then (laws_FnGjValidAt.j0 k a0 a1 true) else (if a1 < 0 then (laws_FnGjValidAt.j0 k a0 a1 true) else (laws_FnGjValidAt.j0 k a0 a1 (decide (a1 > (a0.size : Int))))))
theorem laws_FnGjValidAt.mono_l : ∀ k, (∀ y0 y1 y2, LeO (laws_FnGjValidAt.j0 k y0 y1 y2) (laws_FnGjValidAt.j0 (k + 1) y0 y1 y2))
  | 0 => fun _ _ _ r h => by simp [laws_FnGjValidAt.j0] at h
  | k + 1 => by
    have ih0 := laws_FnGjValidAt.mono_l k
    · intro y0 y1 y2
      unfold laws_FnGjValidAt.j0
      repeat' first
      | (with_reducible exact ih0 _ _ _)
      | (with_reducible exact impl_GjValidAt.mono _ _ _)
      | (with_reducible exact spec_ValueAt.mono _ _ _)
      | (with_reducible exact LeO.refl _)
      | (with_reducible exact LeO.none _)
      | (with_reducible refine LeO.ite ?_ ?_)
      | (with_reducible refine LeO.bind ?_ (fun _ => ?_))
      | exact ih0 _ _ _
      | exact impl_GjValidAt.mono _ _ _
      | exact spec_ValueAt.mono _ _ _
      | exact LeO.none _
      | refine LeO.ite ?_ ?_
      | refine LeO.bind ?_ (fun _ => ?_)
theorem laws_FnGjValidAt.mono : ∀ a0 a1 k, LeO (laws_FnGjValidAt.f k a0 a1) (laws_FnGjValidAt.f (k + 1) a0 a1) := by
  intro a0 a1 k
  have ih0 := laws_FnGjValidAt.mono_l k
  unfold laws_FnGjValidAt.f
  repeat' first
      | (with_reducible exact ih0 _ _ _)
      | (with_reducible exact impl_GjValidAt.mono _ _ _)
      | (with_reducible exact spec_ValueAt.mono _ _ _)
      | (with_reducible exact LeO.refl _)
      | (with_reducible exact LeO.none _)
      | (with_reducible refine LeO.ite ?_ ?_)
      | (with_reducible refine LeO.bind ?_ (fun _ => ?_))
      | exact ih0 _ _ _
      | exact impl_GjValidAt.mono _ _ _
      | exact spec_ValueAt.mono _ _ _
      | exact LeO.none _
      | refine LeO.ite ?_ ?_
      | refine LeO.bind ?_ (fun _ => ?_)
set_option maxHeartbeats 8000000 in
set_option maxRecDepth 100000 in
theorem laws_FnGjValidAt.calls (k : Nat) (a0 : ByteArray) (a1 : Int) (r : Bool) (w : World) (h : laws_FnGjValidAt.f k a0 a1 = some r) :
    Calls Try.prog 3 #[.string a0, .int .i64 a1] w fun e w' => e = .returned (.bool r) ∧ Below w.heap.size w w' := by
  have hu25 := Try.underlying25
  have HB := Aside0.mk (Below.refl w.heap.size w)
  have H : (if (a0.size : Int) > 2147483647 then (some true) else (if (a0.size : Int) > 65536 then (laws_FnGjValidAt.j0 k a0 a1 true) else (if a1 < 0 then (laws_FnGjValidAt.j0 k a0 a1 true) else (laws_FnGjValidAt.j0 k a0 a1 (decide (a1 > (a0.size : Int))))))) = some r := h
  clear h
  by_cases c3 : (a0.size : Int) > 2147483647
  · rw [if_pos c3] at H
    have c3b0 : decide (2147483647 < (a0.size : Int)) = true := decide_eq_true c3
    have c3b1 : decide (2147483647 < a0.size) = true := decide_eq_true (by omega)
    clear c3
    obtain rfl := Option.some.inj H
    go_enter Try.func3, Try.ntmps3
    go_wp2
    go_ret
    exact ⟨by first | rfl | (simp [errW_none, errW_some] <;> rfl) | (simp [*, errW_none, errW_some] <;> rfl), by repeat (first | (with_reducible first | exact HB.out | apply below_alloc | apply pw_below_drewN | apply below_drew1) | exact HB.out)⟩
  · rw [if_neg c3] at H
    have c3b0 : decide (2147483647 < (a0.size : Int)) = false := decide_eq_false c3
    have c3b1 : decide (2147483647 < a0.size) = false := decide_eq_false (by omega)
    clear c3
    have HC4 := Aside0.mk H
    clear H
    go_enter Try.func3, Try.ntmps3
    go_upto_region 3 with (fail)
    go_cut [24] (fun v24 wc => ∃ (kq : Nat) (x24_3 : Bool), v24 = .bool x24_3 ∧ Aside0 (laws_FnGjValidAt.j0 kq a0 a1 x24_3 = some r) ∧ Aside0 (kq ≤ k) ∧ Aside0 (Below w.heap.size w wc))
    case first =>
      have H := HC4.out
      clear HC4
      by_cases c5 : (a0.size : Int) > 65536
      · rw [if_pos c5] at H
        have c5b0 : decide (65536 < (a0.size : Int)) = true := decide_eq_true c5
        have c5b1 : decide (65536 < a0.size) = true := decide_eq_true (by omega)
        clear c5
        (first | rw [c5b0] | (simp only [i64_w, i32_w]; rw [c5b0]) | skip)
        have H' := Aside0.mk H
        clear H
        go_wp2
        go_meet
        case rel => exact ⟨_, (true), (by first | rfl | (simp; done) | (simp [*]; done)), H', ⟨by first | omega | exact Nat.le_refl _⟩, ⟨by repeat (first | (with_reducible first | exact HB.out | apply below_alloc | apply pw_below_drewN | apply below_drew1) | exact HB.out)⟩⟩
      · rw [if_neg c5] at H
        have c5b0 : decide (65536 < (a0.size : Int)) = false := decide_eq_false c5
        have c5b1 : decide (65536 < a0.size) = false := decide_eq_false (by omega)
        clear c5
        (first | rw [c5b0] | (simp only [i64_w, i32_w]; rw [c5b0]) | skip)
        by_cases c6 : a1 < 0
        · rw [if_pos c6] at H
          have c6b0 : decide (a1 < 0) = true := decide_eq_true c6
          clear c6
          have H' := Aside0.mk H
          clear H
          go_wp2
          go_meet
          case rel => exact ⟨_, (true), (by first | rfl | (simp; done) | (simp [*]; done)), H', ⟨by first | omega | exact Nat.le_refl _⟩, ⟨by repeat (first | (with_reducible first | exact HB.out | apply below_alloc | apply pw_below_drewN | apply below_drew1) | exact HB.out)⟩⟩
        · rw [if_neg c6] at H
          have c6b0 : decide (a1 < 0) = false := decide_eq_false c6
          clear c6
          have H' := Aside0.mk H
          clear H
          go_wp2
          go_meet
          case rel => exact ⟨_, (decide (a1 > (a0.size : Int))), (by first | rfl | (simp; done) | (simp [*]; done)), H', ⟨by first | omega | exact Nat.le_refl _⟩, ⟨by repeat (first | (with_reducible first | exact HB.out | apply below_alloc | apply pw_below_drewN | apply below_drew1) | exact HB.out)⟩⟩
    case rest =>
      clear HC4
      try clear p2
      try clear c3
      try clear c3b0
      try clear c3b1
      try clear c5
      try clear c5b0
      try clear c5b1
      try clear c6
      try clear c6b0
      obtain ⟨kq, x24_3, rfl, HA, HJ3, HB⟩ := hcut
      cases kq with
      | zero => exact absurd HA.out (by simp [laws_FnGjValidAt.j0])
      | succ kj3 =>
        have H := HA.out
        clear HA
        simp only [laws_FnGjValidAt.j0] at H
        by_cases c7 : x24_3 = true
        · subst c7
          have H1 : (some true) = some r := by rw [if_pos rfl] at H; exact H
          clear H
          have H := H1
          clear H1
          obtain rfl := Option.some.inj H
          go_wp2
          go_ret
          exact ⟨by first | rfl | (simp [errW_none, errW_some] <;> rfl) | (simp [*, errW_none, errW_some] <;> rfl), by repeat (first | (with_reducible first | exact HB.out | apply below_alloc | apply pw_below_drewN | apply below_drew1) | exact HB.out)⟩
        · replace c7 := Bool.eq_false_iff.mpr c7
          subst c7
          have H1 : ((spec_ValueAt.f kj3 a0 a1).bind fun bt306 => ((impl_GjValidAt.f kj3 a0 a1).bind fun bt317 => (if (bt317.2 == bt306.2.2.2.2.2) = true then (if bt306.2.2.2.2.2 = true then (some (bt317.1 == bt306.2.2.1)) else (some true)) else (some false)))) = some r := by rw [if_neg (show ¬ (false = true) by decide)] at H; exact H
          clear H
          have H := H1
          clear H1
          replace H := Option.bind_eq_some_iff.mp H
          obtain ⟨⟨t306, t307, t308, t309, t312, t315⟩, A80, H⟩ := H
          replace H : ((impl_GjValidAt.f kj3 a0 a1).bind fun bt317 => (if (bt317.2 == t315) = true then (if t315 = true then (some (bt317.1 == t308)) else (some true)) else (some false))) = some r := H
          have A8 := Aside0.mk A80
          clear A80
          replace H := Option.bind_eq_some_iff.mp H
          obtain ⟨⟨t317, t318⟩, A90, H⟩ := H
          replace H : (if (t318 == t315) = true then (if t315 = true then (some (t317 == t308)) else (some true)) else (some false)) = some r := H
          have A9 := Aside0.mk A90
          clear A90
          by_cases c10 : (t318 == t315) = true
          · rw [if_pos c10] at H
            have c10b0 : (t318 == t315) = true := c10
            (try (have c10b1 : decide (t318 = t315) = true := by simpa using c10))
            (try (have c10b2 : (t318 == t315) = true := by simpa using c10))
            clear c10
            by_cases c11 : t315 = true
            · subst c11
              have H1 : (some (t317 == t308)) = some r := by rw [if_pos rfl] at H; exact H
              clear H
              have H := H1
              clear H1
              obtain rfl := Option.some.inj H
              go_wp2_with (first | ((with_reducible refine gate_callee (f := 6) rfl ?_); refine goesL_ (some 28) rfl rfl Try.func6 (by kernel_rfl) rfl #[.string a0, .int .i64 a1] rfl (by (try simp only [List.map_toArray, List.map_cons, List.map_nil]); first | done | rfl | (simp only [List.length_drop, List.length_take]; rfl)) ?_; (with_reducible refine (spec_ValueAt.calls kj3 a0 a1 t306 t307 t308 t309 t312 true _ A8.out).mono ?_); rintro e w12 ⟨v310, v313, rfl, ho0, ho1, hb⟩; refine ⟨_, rfl, ?_⟩; have n0_ := Aside0.mk (Kd.R_lower ho0 (below_size (by repeat (first | (with_reducible first | exact HB.out | apply below_alloc | apply pw_below_drewN | apply below_drew1) | exact HB.out)))); have n1_ := Aside0.mk (Kd.R_lower ho1 (below_size (by repeat (first | (with_reducible first | exact HB.out | apply below_alloc | apply pw_below_drewN | apply below_drew1) | exact HB.out)))); have n2_ := Aside0.mk (below_step (by repeat (first | (with_reducible first | exact HB.out | apply below_alloc | apply pw_below_drewN | apply below_drew1) | exact HB.out)) hb); clear HB; have HO311 := n0_; have HO314 := n1_; have HB := n2_; clear n0_ n1_ n2_; (try clear hb); (try clear hb2); (try clear hk); (try clear hi); (try clear ho0); (try clear ho1)) | ((with_reducible refine gate_dst (N := 5) rfl ?_); (try (refine gate_guard (by rfl) ?_; dsimp only)); refine box_event ?hg (N := 5) ?hd (cs := #[.int .i64 0, .int .i64 0, .int .i64 0, .slice none 0 0, .slice none 0 0]) (t := 25) ?hr ?_; (case hd => rfl); (case hg => rfl); (case hr => first | (go_simp; done) | (go_simp; rfl)); intro gb316 hg w13 hbox hb; have n0_ := Aside0.mk (Kd.R_below (by (with_reducible repeat (first | apply Kd.R_alloc | apply Kd.R_drewN | apply Kd.R_drew)); exact HO311.out) hb); have n1_ := Aside0.mk (Kd.R_below (Kd.R_elderB (by (with_reducible repeat (first | apply Kd.R_alloc | apply Kd.R_drewN | apply Kd.R_drew)); exact HO314.out) gb316 (Nat.le_of_eq hg.symm)) hb); have n2_ := Aside0.mk (below_step (by repeat (first | (with_reducible first | exact HB.out | apply below_alloc | apply pw_below_drewN | apply below_drew1) | exact HB.out)) hb); have n3_ := Aside0.mk (hbox); have n4_ := Aside0.mk ((by rw [hg]; exact (below_size (by repeat (first | (with_reducible first | exact HB.out | apply below_alloc | apply pw_below_drewN | apply below_drew1) | exact HB.out))) : w.heap.size ≤ gb316)); have n5_ := Aside0.mk ((by rw [hg]; exact (below_size (by repeat (first | (with_reducible first | exact HB.out | apply below_alloc | apply pw_below_drewN | apply below_drew1) | exact HB.out))) : w.heap.size ≤ gb316)); clear HO311; clear HO314; clear HB; have HO311 := n0_; have HO314 := n1_; have HB := n2_; have BK316 := n3_; have GW316 := n4_; have GE316 := n5_; clear n0_ n1_ n2_ n3_ n4_ n5_; clear hb hbox hg; have hcz14_0 : w13.cell? ⟨gb316, 0, none⟩ = some (.int .i64 0) := (blk_cell BK316.out 0).trans rfl; have hcz14_1 : w13.cell? ⟨gb316, 1, none⟩ = some (.int .i64 0) := (blk_cell BK316.out 1).trans rfl; have hcz14_2 : w13.cell? ⟨gb316, 2, none⟩ = some (.int .i64 0) := (blk_cell BK316.out 2).trans rfl; have hcz14_3 : w13.cell? ⟨gb316, 3, none⟩ = some (.slice none 0 0) := (blk_cell BK316.out 3).trans rfl; have hcz14_4 : w13.cell? ⟨gb316, 4, none⟩ = some (.slice none 0 0) := (blk_cell BK316.out 4).trans rfl; have hfz14_0 := blk_frozen BK316.out 0; have hfz14_1 := blk_frozen BK316.out 1; have hfz14_2 := blk_frozen BK316.out 2; have hfz14_3 := blk_frozen BK316.out 3; have hfz14_4 := blk_frozen BK316.out 4; obtain ⟨Ao15, co15, eo15⟩ := Kd.R_slice HO311.out; subst eo15; obtain ⟨Ao16, co16, eo16⟩ := Kd.R_slice HO314.out; subst eo16) | ((with_reducible refine gate_callee (f := 7) rfl ?_); refine goesL_ (some 34) rfl rfl Try.func7 (by kernel_rfl) rfl #[.string a0, .int .i64 a1] rfl (by (try simp only [List.map_toArray, List.map_cons, List.map_nil]); first | done | rfl | (simp only [List.length_drop, List.length_take]; rfl)) ?_; (with_reducible refine (impl_GjValidAt.calls kj3 a0 a1 t317 t318 _ A9.out).mono ?_); rintro e w17 ⟨rfl, hb⟩; refine ⟨_, rfl, ?_⟩; have n0_ := Aside0.mk (Kd.R_below (by (with_reducible repeat (first | apply Kd.R_alloc | apply Kd.R_drewN | apply Kd.R_drew)); exact (Kd.R_mono (Kd.R_far (p := ⟨gb316, 4, none⟩) (Kd.R_far (p := ⟨gb316, 3, none⟩) (Kd.R_far (p := ⟨gb316, 2, none⟩) (Kd.R_far (p := ⟨gb316, 1, none⟩) (Kd.R_far (p := ⟨gb316, 0, none⟩) (Kd.R_types HO311.out BK316.out (by decide)) (fun _ hk => hk.2) (.int .i64 t306)) (fun _ hk => hk.2) (.int .i64 t307)) (fun _ hk => hk.2) (.int .i64 t308)) (fun _ hk => hk.2) (.slice Ao15 t309.length co15)) (fun _ hk => hk.2) (.slice Ao16 t312.length co16)) (fun _ h_ => h_.1))) hb); have n1_ := Aside0.mk (Kd.R_below (by (with_reducible repeat (first | apply Kd.R_alloc | apply Kd.R_drewN | apply Kd.R_drew)); exact (Kd.R_mono (Kd.R_far (p := ⟨gb316, 4, none⟩) (Kd.R_far (p := ⟨gb316, 3, none⟩) (Kd.R_far (p := ⟨gb316, 2, none⟩) (Kd.R_far (p := ⟨gb316, 1, none⟩) (Kd.R_far (p := ⟨gb316, 0, none⟩) (Kd.R_mono HO314.out (fun k_ hk => (⟨hk, hk.2⟩ : _ ∧ k_ ≠ gb316))) (fun _ hk => hk.2) (.int .i64 t306)) (fun _ hk => hk.2) (.int .i64 t307)) (fun _ hk => hk.2) (.int .i64 t308)) (fun _ hk => hk.2) (.slice Ao15 t309.length co15)) (fun _ hk => hk.2) (.slice Ao16 t312.length co16)) (fun _ h_ => h_.1))) hb); have n2_ := Aside0.mk (blk_below (g := gb316) (o := .cells #[.int .i64 t306, .int .i64 t307, .int .i64 t308, .slice Ao15 t309.length co15, .slice Ao16 t312.length co16] 25 (0, 0)) (by (with_reducible repeat (first | refine blk_drewN ?_ _ | refine blk_drew ?_ | refine blk_alloc ?_ _)); refine blk_put (cs := #[.int .i64 t306, .int .i64 t307, .int .i64 t308, .slice Ao15 t309.length co15, .slice none 0 0]) ?_ 4 _ rfl; (with_reducible repeat (first | refine blk_drewN ?_ _ | refine blk_drew ?_ | refine blk_alloc ?_ _)); refine blk_put (cs := #[.int .i64 t306, .int .i64 t307, .int .i64 t308, .slice none 0 0, .slice none 0 0]) ?_ 3 _ rfl; (with_reducible repeat (first | refine blk_drewN ?_ _ | refine blk_drew ?_ | refine blk_alloc ?_ _)); refine blk_put (cs := #[.int .i64 t306, .int .i64 t307, .int .i64 0, .slice none 0 0, .slice none 0 0]) ?_ 2 _ rfl; (with_reducible repeat (first | refine blk_drewN ?_ _ | refine blk_drew ?_ | refine blk_alloc ?_ _)); refine blk_put (cs := #[.int .i64 t306, .int .i64 0, .int .i64 0, .slice none 0 0, .slice none 0 0]) ?_ 1 _ rfl; (with_reducible repeat (first | refine blk_drewN ?_ _ | refine blk_drew ?_ | refine blk_alloc ?_ _)); refine blk_put (cs := #[.int .i64 0, .int .i64 0, .int .i64 0, .slice none 0 0, .slice none 0 0]) ?_ 0 _ rfl; (with_reducible repeat (first | refine blk_drewN ?_ _ | refine blk_drew ?_ | refine blk_alloc ?_ _)); exact BK316.out) hb); have n3_ := Aside0.mk (below_step (by repeat (first | (with_reducible first | exact HB.out | apply below_alloc | apply pw_below_drewN | apply below_drew1 | refine below_set ?_ GE316.out) | exact HB.out)) hb); clear HO311; clear HO314; clear BK316; clear HB; have HO311 := n0_; have HO314 := n1_; have BK316 := n2_; have HB := n3_; clear n0_ n1_ n2_ n3_; (try clear hb); (try clear hb2); (try clear hk); (try clear hi); have hcz18_0 : w17.cell? ⟨gb316, 0, none⟩ = some (.int .i64 t306) := (blk_cell BK316.out 0).trans rfl; have hcz18_1 : w17.cell? ⟨gb316, 1, none⟩ = some (.int .i64 t307) := (blk_cell BK316.out 1).trans rfl; have hcz18_2 : w17.cell? ⟨gb316, 2, none⟩ = some (.int .i64 t308) := (blk_cell BK316.out 2).trans rfl; have hcz18_3 : w17.cell? ⟨gb316, 3, none⟩ = some (.slice Ao15 t309.length co15) := (blk_cell BK316.out 3).trans rfl; have hcz18_4 : w17.cell? ⟨gb316, 4, none⟩ = some (.slice Ao16 t312.length co16) := (blk_cell BK316.out 4).trans rfl; have hfz18_0 := blk_frozen BK316.out 0; have hfz18_1 := blk_frozen BK316.out 1; have hfz18_2 := blk_frozen BK316.out 2; have hfz18_3 := blk_frozen BK316.out 3; have hfz18_4 := blk_frozen BK316.out 4))
              go_ret
              exact ⟨by first | rfl | (simp [errW_none, errW_some] <;> rfl) | (simp [*, errW_none, errW_some] <;> rfl), by repeat (first | (with_reducible first | exact HB.out | apply below_alloc | apply pw_below_drewN | apply below_drew1 | refine below_set ?_ GE316.out) | exact HB.out)⟩
            · replace c11 := Bool.eq_false_iff.mpr c11
              subst c11
              have H1 : (some true) = some r := by rw [if_neg (show ¬ (false = true) by decide)] at H; exact H
              clear H
              have H := H1
              clear H1
              obtain rfl := Option.some.inj H
              go_wp2_with (first | ((with_reducible refine gate_callee (f := 6) rfl ?_); refine goesL_ (some 28) rfl rfl Try.func6 (by kernel_rfl) rfl #[.string a0, .int .i64 a1] rfl (by (try simp only [List.map_toArray, List.map_cons, List.map_nil]); first | done | rfl | (simp only [List.length_drop, List.length_take]; rfl)) ?_; (with_reducible refine (spec_ValueAt.calls kj3 a0 a1 t306 t307 t308 t309 t312 false _ A8.out).mono ?_); rintro e w19 ⟨v310, v313, rfl, ho0, ho1, hb⟩; refine ⟨_, rfl, ?_⟩; have n0_ := Aside0.mk (Kd.R_lower ho0 (below_size (by repeat (first | (with_reducible first | exact HB.out | apply below_alloc | apply pw_below_drewN | apply below_drew1) | exact HB.out)))); have n1_ := Aside0.mk (Kd.R_lower ho1 (below_size (by repeat (first | (with_reducible first | exact HB.out | apply below_alloc | apply pw_below_drewN | apply below_drew1) | exact HB.out)))); have n2_ := Aside0.mk (below_step (by repeat (first | (with_reducible first | exact HB.out | apply below_alloc | apply pw_below_drewN | apply below_drew1) | exact HB.out)) hb); clear HB; have HO311 := n0_; have HO314 := n1_; have HB := n2_; clear n0_ n1_ n2_; (try clear hb); (try clear hb2); (try clear hk); (try clear hi); (try clear ho0); (try clear ho1)) | ((with_reducible refine gate_dst (N := 5) rfl ?_); (try (refine gate_guard (by rfl) ?_; dsimp only)); refine box_event ?hg (N := 5) ?hd (cs := #[.int .i64 0, .int .i64 0, .int .i64 0, .slice none 0 0, .slice none 0 0]) (t := 25) ?hr ?_; (case hd => rfl); (case hg => rfl); (case hr => first | (go_simp; done) | (go_simp; rfl)); intro gb316 hg w20 hbox hb; have n0_ := Aside0.mk (Kd.R_below (by (with_reducible repeat (first | apply Kd.R_alloc | apply Kd.R_drewN | apply Kd.R_drew)); exact HO311.out) hb); have n1_ := Aside0.mk (Kd.R_below (Kd.R_elderB (by (with_reducible repeat (first | apply Kd.R_alloc | apply Kd.R_drewN | apply Kd.R_drew)); exact HO314.out) gb316 (Nat.le_of_eq hg.symm)) hb); have n2_ := Aside0.mk (below_step (by repeat (first | (with_reducible first | exact HB.out | apply below_alloc | apply pw_below_drewN | apply below_drew1) | exact HB.out)) hb); have n3_ := Aside0.mk (hbox); have n4_ := Aside0.mk ((by rw [hg]; exact (below_size (by repeat (first | (with_reducible first | exact HB.out | apply below_alloc | apply pw_below_drewN | apply below_drew1) | exact HB.out))) : w.heap.size ≤ gb316)); have n5_ := Aside0.mk ((by rw [hg]; exact (below_size (by repeat (first | (with_reducible first | exact HB.out | apply below_alloc | apply pw_below_drewN | apply below_drew1) | exact HB.out))) : w.heap.size ≤ gb316)); clear HO311; clear HO314; clear HB; have HO311 := n0_; have HO314 := n1_; have HB := n2_; have BK316 := n3_; have GW316 := n4_; have GE316 := n5_; clear n0_ n1_ n2_ n3_ n4_ n5_; clear hb hbox hg; have hcz21_0 : w20.cell? ⟨gb316, 0, none⟩ = some (.int .i64 0) := (blk_cell BK316.out 0).trans rfl; have hcz21_1 : w20.cell? ⟨gb316, 1, none⟩ = some (.int .i64 0) := (blk_cell BK316.out 1).trans rfl; have hcz21_2 : w20.cell? ⟨gb316, 2, none⟩ = some (.int .i64 0) := (blk_cell BK316.out 2).trans rfl; have hcz21_3 : w20.cell? ⟨gb316, 3, none⟩ = some (.slice none 0 0) := (blk_cell BK316.out 3).trans rfl; have hcz21_4 : w20.cell? ⟨gb316, 4, none⟩ = some (.slice none 0 0) := (blk_cell BK316.out 4).trans rfl; have hfz21_0 := blk_frozen BK316.out 0; have hfz21_1 := blk_frozen BK316.out 1; have hfz21_2 := blk_frozen BK316.out 2; have hfz21_3 := blk_frozen BK316.out 3; have hfz21_4 := blk_frozen BK316.out 4; obtain ⟨Ao22, co22, eo22⟩ := Kd.R_slice HO311.out; subst eo22; obtain ⟨Ao23, co23, eo23⟩ := Kd.R_slice HO314.out; subst eo23) | ((with_reducible refine gate_callee (f := 7) rfl ?_); refine goesL_ (some 34) rfl rfl Try.func7 (by kernel_rfl) rfl #[.string a0, .int .i64 a1] rfl (by (try simp only [List.map_toArray, List.map_cons, List.map_nil]); first | done | rfl | (simp only [List.length_drop, List.length_take]; rfl)) ?_; (with_reducible refine (impl_GjValidAt.calls kj3 a0 a1 t317 t318 _ A9.out).mono ?_); rintro e w24 ⟨rfl, hb⟩; refine ⟨_, rfl, ?_⟩; have n0_ := Aside0.mk (Kd.R_below (by (with_reducible repeat (first | apply Kd.R_alloc | apply Kd.R_drewN | apply Kd.R_drew)); exact (Kd.R_mono (Kd.R_far (p := ⟨gb316, 4, none⟩) (Kd.R_far (p := ⟨gb316, 3, none⟩) (Kd.R_far (p := ⟨gb316, 2, none⟩) (Kd.R_far (p := ⟨gb316, 1, none⟩) (Kd.R_far (p := ⟨gb316, 0, none⟩) (Kd.R_types HO311.out BK316.out (by decide)) (fun _ hk => hk.2) (.int .i64 t306)) (fun _ hk => hk.2) (.int .i64 t307)) (fun _ hk => hk.2) (.int .i64 t308)) (fun _ hk => hk.2) (.slice Ao22 t309.length co22)) (fun _ hk => hk.2) (.slice Ao23 t312.length co23)) (fun _ h_ => h_.1))) hb); have n1_ := Aside0.mk (Kd.R_below (by (with_reducible repeat (first | apply Kd.R_alloc | apply Kd.R_drewN | apply Kd.R_drew)); exact (Kd.R_mono (Kd.R_far (p := ⟨gb316, 4, none⟩) (Kd.R_far (p := ⟨gb316, 3, none⟩) (Kd.R_far (p := ⟨gb316, 2, none⟩) (Kd.R_far (p := ⟨gb316, 1, none⟩) (Kd.R_far (p := ⟨gb316, 0, none⟩) (Kd.R_mono HO314.out (fun k_ hk => (⟨hk, hk.2⟩ : _ ∧ k_ ≠ gb316))) (fun _ hk => hk.2) (.int .i64 t306)) (fun _ hk => hk.2) (.int .i64 t307)) (fun _ hk => hk.2) (.int .i64 t308)) (fun _ hk => hk.2) (.slice Ao22 t309.length co22)) (fun _ hk => hk.2) (.slice Ao23 t312.length co23)) (fun _ h_ => h_.1))) hb); have n2_ := Aside0.mk (blk_below (g := gb316) (o := .cells #[.int .i64 t306, .int .i64 t307, .int .i64 t308, .slice Ao22 t309.length co22, .slice Ao23 t312.length co23] 25 (0, 0)) (by (with_reducible repeat (first | refine blk_drewN ?_ _ | refine blk_drew ?_ | refine blk_alloc ?_ _)); refine blk_put (cs := #[.int .i64 t306, .int .i64 t307, .int .i64 t308, .slice Ao22 t309.length co22, .slice none 0 0]) ?_ 4 _ rfl; (with_reducible repeat (first | refine blk_drewN ?_ _ | refine blk_drew ?_ | refine blk_alloc ?_ _)); refine blk_put (cs := #[.int .i64 t306, .int .i64 t307, .int .i64 t308, .slice none 0 0, .slice none 0 0]) ?_ 3 _ rfl; (with_reducible repeat (first | refine blk_drewN ?_ _ | refine blk_drew ?_ | refine blk_alloc ?_ _)); refine blk_put (cs := #[.int .i64 t306, .int .i64 t307, .int .i64 0, .slice none 0 0, .slice none 0 0]) ?_ 2 _ rfl; (with_reducible repeat (first | refine blk_drewN ?_ _ | refine blk_drew ?_ | refine blk_alloc ?_ _)); refine blk_put (cs := #[.int .i64 t306, .int .i64 0, .int .i64 0, .slice none 0 0, .slice none 0 0]) ?_ 1 _ rfl; (with_reducible repeat (first | refine blk_drewN ?_ _ | refine blk_drew ?_ | refine blk_alloc ?_ _)); refine blk_put (cs := #[.int .i64 0, .int .i64 0, .int .i64 0, .slice none 0 0, .slice none 0 0]) ?_ 0 _ rfl; (with_reducible repeat (first | refine blk_drewN ?_ _ | refine blk_drew ?_ | refine blk_alloc ?_ _)); exact BK316.out) hb); have n3_ := Aside0.mk (below_step (by repeat (first | (with_reducible first | exact HB.out | apply below_alloc | apply pw_below_drewN | apply below_drew1 | refine below_set ?_ GE316.out) | exact HB.out)) hb); clear HO311; clear HO314; clear BK316; clear HB; have HO311 := n0_; have HO314 := n1_; have BK316 := n2_; have HB := n3_; clear n0_ n1_ n2_ n3_; (try clear hb); (try clear hb2); (try clear hk); (try clear hi)))
              go_ret
              exact ⟨by first | rfl | (simp [errW_none, errW_some] <;> rfl) | (simp [*, errW_none, errW_some] <;> rfl), by repeat (first | (with_reducible first | exact HB.out | apply below_alloc | apply pw_below_drewN | apply below_drew1 | refine below_set ?_ GE316.out) | exact HB.out)⟩
          · rw [if_neg c10] at H
            have c10b0 : (t318 == t315) = false := by simpa using c10
            (try (have c10b1 : decide (t318 = t315) = false := by simpa using c10))
            (try (have c10b2 : (t318 == t315) = false := by simpa using c10))
            (try (have c10b3 : ¬ (t318 = t315) := by simpa using c10))
            clear c10
            obtain rfl := Option.some.inj H
            go_wp2_with (first | ((with_reducible refine gate_callee (f := 6) rfl ?_); refine goesL_ (some 28) rfl rfl Try.func6 (by kernel_rfl) rfl #[.string a0, .int .i64 a1] rfl (by (try simp only [List.map_toArray, List.map_cons, List.map_nil]); first | done | rfl | (simp only [List.length_drop, List.length_take]; rfl)) ?_; (with_reducible refine (spec_ValueAt.calls kj3 a0 a1 t306 t307 t308 t309 t312 t315 _ A8.out).mono ?_); rintro e w25 ⟨v310, v313, rfl, ho0, ho1, hb⟩; refine ⟨_, rfl, ?_⟩; have n0_ := Aside0.mk (Kd.R_lower ho0 (below_size (by repeat (first | (with_reducible first | exact HB.out | apply below_alloc | apply pw_below_drewN | apply below_drew1) | exact HB.out)))); have n1_ := Aside0.mk (Kd.R_lower ho1 (below_size (by repeat (first | (with_reducible first | exact HB.out | apply below_alloc | apply pw_below_drewN | apply below_drew1) | exact HB.out)))); have n2_ := Aside0.mk (below_step (by repeat (first | (with_reducible first | exact HB.out | apply below_alloc | apply pw_below_drewN | apply below_drew1) | exact HB.out)) hb); clear HB; have HO311 := n0_; have HO314 := n1_; have HB := n2_; clear n0_ n1_ n2_; (try clear hb); (try clear hb2); (try clear hk); (try clear hi); (try clear ho0); (try clear ho1)) | ((with_reducible refine gate_dst (N := 5) rfl ?_); (try (refine gate_guard (by rfl) ?_; dsimp only)); refine box_event ?hg (N := 5) ?hd (cs := #[.int .i64 0, .int .i64 0, .int .i64 0, .slice none 0 0, .slice none 0 0]) (t := 25) ?hr ?_; (case hd => rfl); (case hg => rfl); (case hr => first | (go_simp; done) | (go_simp; rfl)); intro gb316 hg w26 hbox hb; have n0_ := Aside0.mk (Kd.R_below (by (with_reducible repeat (first | apply Kd.R_alloc | apply Kd.R_drewN | apply Kd.R_drew)); exact HO311.out) hb); have n1_ := Aside0.mk (Kd.R_below (Kd.R_elderB (by (with_reducible repeat (first | apply Kd.R_alloc | apply Kd.R_drewN | apply Kd.R_drew)); exact HO314.out) gb316 (Nat.le_of_eq hg.symm)) hb); have n2_ := Aside0.mk (below_step (by repeat (first | (with_reducible first | exact HB.out | apply below_alloc | apply pw_below_drewN | apply below_drew1) | exact HB.out)) hb); have n3_ := Aside0.mk (hbox); have n4_ := Aside0.mk ((by rw [hg]; exact (below_size (by repeat (first | (with_reducible first | exact HB.out | apply below_alloc | apply pw_below_drewN | apply below_drew1) | exact HB.out))) : w.heap.size ≤ gb316)); have n5_ := Aside0.mk ((by rw [hg]; exact (below_size (by repeat (first | (with_reducible first | exact HB.out | apply below_alloc | apply pw_below_drewN | apply below_drew1) | exact HB.out))) : w.heap.size ≤ gb316)); clear HO311; clear HO314; clear HB; have HO311 := n0_; have HO314 := n1_; have HB := n2_; have BK316 := n3_; have GW316 := n4_; have GE316 := n5_; clear n0_ n1_ n2_ n3_ n4_ n5_; clear hb hbox hg; have hcz27_0 : w26.cell? ⟨gb316, 0, none⟩ = some (.int .i64 0) := (blk_cell BK316.out 0).trans rfl; have hcz27_1 : w26.cell? ⟨gb316, 1, none⟩ = some (.int .i64 0) := (blk_cell BK316.out 1).trans rfl; have hcz27_2 : w26.cell? ⟨gb316, 2, none⟩ = some (.int .i64 0) := (blk_cell BK316.out 2).trans rfl; have hcz27_3 : w26.cell? ⟨gb316, 3, none⟩ = some (.slice none 0 0) := (blk_cell BK316.out 3).trans rfl; have hcz27_4 : w26.cell? ⟨gb316, 4, none⟩ = some (.slice none 0 0) := (blk_cell BK316.out 4).trans rfl; have hfz27_0 := blk_frozen BK316.out 0; have hfz27_1 := blk_frozen BK316.out 1; have hfz27_2 := blk_frozen BK316.out 2; have hfz27_3 := blk_frozen BK316.out 3; have hfz27_4 := blk_frozen BK316.out 4; obtain ⟨Ao28, co28, eo28⟩ := Kd.R_slice HO311.out; subst eo28; obtain ⟨Ao29, co29, eo29⟩ := Kd.R_slice HO314.out; subst eo29) | ((with_reducible refine gate_callee (f := 7) rfl ?_); refine goesL_ (some 34) rfl rfl Try.func7 (by kernel_rfl) rfl #[.string a0, .int .i64 a1] rfl (by (try simp only [List.map_toArray, List.map_cons, List.map_nil]); first | done | rfl | (simp only [List.length_drop, List.length_take]; rfl)) ?_; (with_reducible refine (impl_GjValidAt.calls kj3 a0 a1 t317 t318 _ A9.out).mono ?_); rintro e w30 ⟨rfl, hb⟩; refine ⟨_, rfl, ?_⟩; have n0_ := Aside0.mk (Kd.R_below (by (with_reducible repeat (first | apply Kd.R_alloc | apply Kd.R_drewN | apply Kd.R_drew)); exact (Kd.R_mono (Kd.R_far (p := ⟨gb316, 4, none⟩) (Kd.R_far (p := ⟨gb316, 3, none⟩) (Kd.R_far (p := ⟨gb316, 2, none⟩) (Kd.R_far (p := ⟨gb316, 1, none⟩) (Kd.R_far (p := ⟨gb316, 0, none⟩) (Kd.R_types HO311.out BK316.out (by decide)) (fun _ hk => hk.2) (.int .i64 t306)) (fun _ hk => hk.2) (.int .i64 t307)) (fun _ hk => hk.2) (.int .i64 t308)) (fun _ hk => hk.2) (.slice Ao28 t309.length co28)) (fun _ hk => hk.2) (.slice Ao29 t312.length co29)) (fun _ h_ => h_.1))) hb); have n1_ := Aside0.mk (Kd.R_below (by (with_reducible repeat (first | apply Kd.R_alloc | apply Kd.R_drewN | apply Kd.R_drew)); exact (Kd.R_mono (Kd.R_far (p := ⟨gb316, 4, none⟩) (Kd.R_far (p := ⟨gb316, 3, none⟩) (Kd.R_far (p := ⟨gb316, 2, none⟩) (Kd.R_far (p := ⟨gb316, 1, none⟩) (Kd.R_far (p := ⟨gb316, 0, none⟩) (Kd.R_mono HO314.out (fun k_ hk => (⟨hk, hk.2⟩ : _ ∧ k_ ≠ gb316))) (fun _ hk => hk.2) (.int .i64 t306)) (fun _ hk => hk.2) (.int .i64 t307)) (fun _ hk => hk.2) (.int .i64 t308)) (fun _ hk => hk.2) (.slice Ao28 t309.length co28)) (fun _ hk => hk.2) (.slice Ao29 t312.length co29)) (fun _ h_ => h_.1))) hb); have n2_ := Aside0.mk (blk_below (g := gb316) (o := .cells #[.int .i64 t306, .int .i64 t307, .int .i64 t308, .slice Ao28 t309.length co28, .slice Ao29 t312.length co29] 25 (0, 0)) (by (with_reducible repeat (first | refine blk_drewN ?_ _ | refine blk_drew ?_ | refine blk_alloc ?_ _)); refine blk_put (cs := #[.int .i64 t306, .int .i64 t307, .int .i64 t308, .slice Ao28 t309.length co28, .slice none 0 0]) ?_ 4 _ rfl; (with_reducible repeat (first | refine blk_drewN ?_ _ | refine blk_drew ?_ | refine blk_alloc ?_ _)); refine blk_put (cs := #[.int .i64 t306, .int .i64 t307, .int .i64 t308, .slice none 0 0, .slice none 0 0]) ?_ 3 _ rfl; (with_reducible repeat (first | refine blk_drewN ?_ _ | refine blk_drew ?_ | refine blk_alloc ?_ _)); refine blk_put (cs := #[.int .i64 t306, .int .i64 t307, .int .i64 0, .slice none 0 0, .slice none 0 0]) ?_ 2 _ rfl; (with_reducible repeat (first | refine blk_drewN ?_ _ | refine blk_drew ?_ | refine blk_alloc ?_ _)); refine blk_put (cs := #[.int .i64 t306, .int .i64 0, .int .i64 0, .slice none 0 0, .slice none 0 0]) ?_ 1 _ rfl; (with_reducible repeat (first | refine blk_drewN ?_ _ | refine blk_drew ?_ | refine blk_alloc ?_ _)); refine blk_put (cs := #[.int .i64 0, .int .i64 0, .int .i64 0, .slice none 0 0, .slice none 0 0]) ?_ 0 _ rfl; (with_reducible repeat (first | refine blk_drewN ?_ _ | refine blk_drew ?_ | refine blk_alloc ?_ _)); exact BK316.out) hb); have n3_ := Aside0.mk (below_step (by repeat (first | (with_reducible first | exact HB.out | apply below_alloc | apply pw_below_drewN | apply below_drew1 | refine below_set ?_ GE316.out) | exact HB.out)) hb); clear HO311; clear HO314; clear BK316; clear HB; have HO311 := n0_; have HO314 := n1_; have BK316 := n2_; have HB := n3_; clear n0_ n1_ n2_ n3_; (try clear hb); (try clear hb2); (try clear hk); (try clear hi)))
            go_ret
            exact ⟨by first | rfl | (simp [errW_none, errW_some] <;> rfl) | (simp [*, errW_none, errW_some] <;> rfl), by repeat (first | (with_reducible first | exact HB.out | apply below_alloc | apply pw_below_drewN | apply below_drew1 | refine below_set ?_ GE316.out) | exact HB.out)⟩

/-- THE ONE PURE STATEMENT of laws_FnGjValidAt: yours. -/
def laws_FnGjValidAt.Pure : Prop := ∀ (a0 : ByteArray) (a1 : Int), a0.size ≤ 140737488351232 → (Lit.int .i64 a1).wf = true → ∃ k, laws_FnGjValidAt.f k a0 a1 = some true
theorem laws_FnGjValidAt.walk (P : laws_FnGjValidAt.Pure) (a0 : ByteArray) (a1 : Int) (w : World) (w0 : a0.size ≤ 140737488351232) (w1 : (Lit.int .i64 a1).wf = true) :
    Calls Try.prog 3 #[.string a0, .int .i64 a1] w fun e w' => e = .returned (.bool true) ∧ Below w.heap.size w w' := by
  obtain ⟨k, h⟩ := P a0 a1 w0 w1
  refine (laws_FnGjValidAt.calls k a0 a1 true w h).mono ?_
  rintro e w' ⟨rfl, hd⟩
  exact ⟨rfl, hd⟩

end Go.Proofs.Ytphpjboljlkdkaa.PFnGjValidAt
