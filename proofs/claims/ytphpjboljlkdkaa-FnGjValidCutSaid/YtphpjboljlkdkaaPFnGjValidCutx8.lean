/- Written by a program of this session (a turned copy of the print) out of the translation. -/
import Derived.Test.YtphpjboljlkdkaaPFnGjValidCutx0
namespace Go.Proofs.Ytphpjboljlkdkaa.PFnGjValidCut
open Go.RowKit Go.Proofs.YtphpjboljlkdkaaW.PrintWords Go.Proofs.YtphpjboljlkdkaaW.PrintLast Go.Proofs.YtphpjboljlkdkaaW.PrintMore
attribute [local go_sem] max2_int min2_int max_two min_two max_three min_three max_four min_four   -- for this text's walks alone
set_option linter.unusedVariables false
set_option linter.unusedSimpArgs false
/-! ### gjson_validtrue: function 31 -/
def gjson_validtrue.f (l0 : List Int) (a1 : Int) : Option (Int × Bool) := if (wrap64 (a1 + 3)) ≤ (l0.length : Int) then (if 0 ≤ a1 then (if a1 < (l0.length : Int) then (if (rd l0 a1) = 114 then (if 0 ≤ (wrap64 (a1 + 1)) then (if (wrap64 (a1 + 1)) < (l0.length : Int) then (if (rd l0 (wrap64 (a1 + 1))) = 117 then (if 0 ≤ (wrap64 (a1 + 2)) then (if (wrap64 (a1 + 2)) < (l0.length : Int) then (if (rd l0 (wrap64 (a1 + 2))) = 101 then (some (wrap64 (a1 + 3), true)) else (some (a1, false))) else (none)) else (none)) else (some (a1, false))) else (none)) else (none)) else (some (a1, false))) else (none)) else (none)) else (some (a1, false))
set_option maxHeartbeats 8000000 in
set_option maxRecDepth 100000 in
theorem gjson_validtrue.calls (A0 : Option Addr) (c0 : Nat) (l0 : List Int) (a1 : Int) (r1 : Int) (r2 : Bool) (w : World) (hr0 : Kd.C (Kd.int .u8) w A0 l0.length l0) (hc0 : l0.length ≤ c0) (h : gjson_validtrue.f l0 a1 = some (r1, r2)) :
    Calls Try.prog 31 #[.slice A0 l0.length c0, .int .i64 a1] w fun e w' => e = .returned (.tuple #[.int .i64 r1, .bool r2]) ∧ Drawn0 w w' := by
  have HR0 := Aside0.mk hr0
  have HC0 := Aside0.mk hc0
  clear hr0 hc0
  have H : (if (wrap64 (a1 + 3)) ≤ (l0.length : Int) then (if 0 ≤ a1 then (if a1 < (l0.length : Int) then (if (rd l0 a1) = 114 then (if 0 ≤ (wrap64 (a1 + 1)) then (if (wrap64 (a1 + 1)) < (l0.length : Int) then (if (rd l0 (wrap64 (a1 + 1))) = 117 then (if 0 ≤ (wrap64 (a1 + 2)) then (if (wrap64 (a1 + 2)) < (l0.length : Int) then (if (rd l0 (wrap64 (a1 + 2))) = 101 then (some (wrap64 (a1 + 3), true)) else (some (a1, false))) else (none)) else (none)) else (some (a1, false))) else (none)) else (none)) else (some (a1, false))) else (none)) else (none)) else (some (a1, false))) = some (r1, r2) := h
  clear h
  by_cases c3 : (wrap64 (a1 + 3)) ≤ (l0.length : Int)
  · rw [if_pos c3] at H
    have c3b0 : decide ((wrap64 (a1 + 3)) ≤ (l0.length : Int)) = true := decide_eq_true c3
    clear c3
    by_cases c4 : 0 ≤ a1
    · rw [if_pos c4] at H
      have c4b0 : decide (0 ≤ a1) = true := decide_eq_true c4
      clear c4
      by_cases c5 : a1 < (l0.length : Int)
      · rw [if_pos c5] at H
        have c5b0 : decide (a1 < (l0.length : Int)) = true := decide_eq_true c5
        clear c5
        by_cases c6 : (rd l0 a1) = 114
        · rw [if_pos c6] at H
          have c6b0 : ((rd l0 a1) == 114) = true := beq_iff_eq.mpr c6
          have c6b1 : ((rd l0 a1) != 114) = false := bne_eq_false_iff_eq.mpr c6
          clear c6
          obtain ⟨ji7, hji7⟩ : ∃ j_ : Int, (wrap64 (a1 + 1)) = j_ := ⟨_, rfl⟩
          replace H : (if 0 ≤ (ji7) then (if (ji7) < (l0.length : Int) then (if (rd l0 (ji7)) = 117 then (if 0 ≤ (wrap64 (a1 + 2)) then (if (wrap64 (a1 + 2)) < (l0.length : Int) then (if (rd l0 (wrap64 (a1 + 2))) = 101 then (some (wrap64 (a1 + 3), true)) else (some (a1, false))) else (none)) else (none)) else (some (a1, false))) else (none)) else (none)) = some (r1, r2) := by first | (rw [hji7] at H; exact H) | (simp only [hji7] at H ⊢; exact H)
          have hji7w : (IntKind.i64.wrap (a1 + 1)) = ji7 := (i64_w _).trans hji7
          by_cases c8 : 0 ≤ (ji7)
          · rw [if_pos c8] at H
            have c8b0 : decide (0 ≤ (ji7)) = true := decide_eq_true c8
            clear c8
            by_cases c9 : (ji7) < (l0.length : Int)
            · rw [if_pos c9] at H
              have c9b0 : decide ((ji7) < (l0.length : Int)) = true := decide_eq_true c9
              clear c9
              by_cases c10 : (rd l0 (ji7)) = 117
              · rw [if_pos c10] at H
                have c10b0 : ((rd l0 (ji7)) == 117) = true := beq_iff_eq.mpr c10
                have c10b1 : ((rd l0 (ji7)) != 117) = false := bne_eq_false_iff_eq.mpr c10
                clear c10
                obtain ⟨ji11, hji11⟩ : ∃ j_ : Int, (wrap64 (a1 + 2)) = j_ := ⟨_, rfl⟩
                replace H : (if 0 ≤ (ji11) then (if (ji11) < (l0.length : Int) then (if (rd l0 (ji11)) = 101 then (some (wrap64 (a1 + 3), true)) else (some (a1, false))) else (none)) else (none)) = some (r1, r2) := by first | (rw [hji11] at H; exact H) | (simp only [hji11] at H ⊢; exact H)
                have hji11w : (IntKind.i64.wrap (a1 + 2)) = ji11 := (i64_w _).trans hji11
                by_cases c12 : 0 ≤ (ji11)
                · rw [if_pos c12] at H
                  have c12b0 : decide (0 ≤ (ji11)) = true := decide_eq_true c12
                  clear c12
                  by_cases c13 : (ji11) < (l0.length : Int)
                  · rw [if_pos c13] at H
                    have c13b0 : decide ((ji11) < (l0.length : Int)) = true := decide_eq_true c13
                    clear c13
                    by_cases c14 : (rd l0 (ji11)) = 101
                    · rw [if_pos c14] at H
                      have c14b0 : ((rd l0 (ji11)) == 101) = true := beq_iff_eq.mpr c14
                      have c14b1 : ((rd l0 (ji11)) != 101) = false := bne_eq_false_iff_eq.mpr c14
                      clear c14
                      simp only [Option.some.injEq, Prod.mk.injEq] at H
                      obtain ⟨rfl, rfl⟩ := H
                      have p273 : 0 ≤ (a1 : Int) := of_decide_eq_true (by first | (with_reducible assumption) | assumption)
                      have q273 : a1 < (l0.length : Int) := of_decide_eq_true (by first | (with_reducible assumption) | assumption)
                      obtain ⟨ad273, e273, hx273_0⟩ := Kd.at_int HR0.out a1 p273 q273
                      cases e273
                      replace p273 := eq_true p273
                      replace q273 := eq_true q273
                      have p274 : 0 ≤ ((ji7) : Int) := of_decide_eq_true (by first | (with_reducible assumption) | assumption)
                      have q274 : (ji7) < (l0.length : Int) := of_decide_eq_true (by first | (with_reducible assumption) | assumption)
                      obtain ⟨ad274, e274, hx274_0⟩ := Kd.at_int HR0.out (ji7) p274 q274
                      obtain rfl : ad273 = ad274 := (by injection e274)
                      replace p274 := eq_true p274
                      replace q274 := eq_true q274
                      have p275 : 0 ≤ ((ji11) : Int) := of_decide_eq_true (by first | (with_reducible assumption) | assumption)
                      have q275 : (ji11) < (l0.length : Int) := of_decide_eq_true (by first | (with_reducible assumption) | assumption)
                      obtain ⟨ad275, e275, hx275_0⟩ := Kd.at_int HR0.out (ji11) p275 q275
                      obtain rfl : ad273 = ad275 := (by injection e275)
                      replace p275 := eq_true p275
                      replace q275 := eq_true q275
                      go_enter Try.func31, Try.ntmps31
                      go_wp2
                      go_ret2
                      exact ⟨by first | rfl | (simp; done) | (simp only [← hji7, ← hji11] <;> (first | rfl | (simp; done))) | (simp [*]; done), by repeat (first | exact Drawn0.refl _ | apply Drawn0.step)⟩
                    · rw [if_neg c14] at H
                      have c14b0 : ((rd l0 (ji11)) == 101) = false := beq_eq_false_iff_ne.mpr c14
                      have c14b1 : ((rd l0 (ji11)) != 101) = true := bne_iff_ne.mpr c14
                      simp only [Option.some.injEq, Prod.mk.injEq] at H
                      obtain ⟨rfl, rfl⟩ := H
                      have p273 : 0 ≤ (a1 : Int) := of_decide_eq_true (by first | (with_reducible assumption) | assumption)
                      have q273 : a1 < (l0.length : Int) := of_decide_eq_true (by first | (with_reducible assumption) | assumption)
                      obtain ⟨ad273, e273, hx273_0⟩ := Kd.at_int HR0.out a1 p273 q273
                      cases e273
                      replace p273 := eq_true p273
                      replace q273 := eq_true q273
                      have p274 : 0 ≤ ((ji7) : Int) := of_decide_eq_true (by first | (with_reducible assumption) | assumption)
                      have q274 : (ji7) < (l0.length : Int) := of_decide_eq_true (by first | (with_reducible assumption) | assumption)
                      obtain ⟨ad274, e274, hx274_0⟩ := Kd.at_int HR0.out (ji7) p274 q274
                      obtain rfl : ad273 = ad274 := (by injection e274)
                      replace p274 := eq_true p274
                      replace q274 := eq_true q274
                      have p275 : 0 ≤ ((ji11) : Int) := of_decide_eq_true (by first | (with_reducible assumption) | assumption)
                      have q275 : (ji11) < (l0.length : Int) := of_decide_eq_true (by first | (with_reducible assumption) | assumption)
                      obtain ⟨ad275, e275, hx275_0⟩ := Kd.at_int HR0.out (ji11) p275 q275
                      obtain rfl : ad273 = ad275 := (by injection e275)
                      replace p275 := eq_true p275
                      replace q275 := eq_true q275
                      go_enter Try.func31, Try.ntmps31
                      go_wp2
                      go_ret2
                      exact ⟨by first | rfl | (simp; done) | (simp only [← hji7, ← hji11] <;> (first | rfl | (simp; done))) | (simp [*]; done), by repeat (first | exact Drawn0.refl _ | apply Drawn0.step)⟩
                  · rw [if_neg c13] at H
                    exact absurd H (by simp)
                · rw [if_neg c12] at H
                  exact absurd H (by simp)
              · rw [if_neg c10] at H
                have c10b0 : ((rd l0 (ji7)) == 117) = false := beq_eq_false_iff_ne.mpr c10
                have c10b1 : ((rd l0 (ji7)) != 117) = true := bne_iff_ne.mpr c10
                simp only [Option.some.injEq, Prod.mk.injEq] at H
                obtain ⟨rfl, rfl⟩ := H
                have p273 : 0 ≤ (a1 : Int) := of_decide_eq_true (by first | (with_reducible assumption) | assumption)
                have q273 : a1 < (l0.length : Int) := of_decide_eq_true (by first | (with_reducible assumption) | assumption)
                obtain ⟨ad273, e273, hx273_0⟩ := Kd.at_int HR0.out a1 p273 q273
                cases e273
                replace p273 := eq_true p273
                replace q273 := eq_true q273
                have p274 : 0 ≤ ((ji7) : Int) := of_decide_eq_true (by first | (with_reducible assumption) | assumption)
                have q274 : (ji7) < (l0.length : Int) := of_decide_eq_true (by first | (with_reducible assumption) | assumption)
                obtain ⟨ad274, e274, hx274_0⟩ := Kd.at_int HR0.out (ji7) p274 q274
                obtain rfl : ad273 = ad274 := (by injection e274)
                replace p274 := eq_true p274
                replace q274 := eq_true q274
                go_enter Try.func31, Try.ntmps31
                go_wp2
                go_ret2
                exact ⟨by first | rfl | (simp; done) | (simp only [← hji7] <;> (first | rfl | (simp; done))) | (simp [*]; done), by repeat (first | exact Drawn0.refl _ | apply Drawn0.step)⟩
            · rw [if_neg c9] at H
              exact absurd H (by simp)
          · rw [if_neg c8] at H
            exact absurd H (by simp)
        · rw [if_neg c6] at H
          have c6b0 : ((rd l0 a1) == 114) = false := beq_eq_false_iff_ne.mpr c6
          have c6b1 : ((rd l0 a1) != 114) = true := bne_iff_ne.mpr c6
          simp only [Option.some.injEq, Prod.mk.injEq] at H
          obtain ⟨rfl, rfl⟩ := H
          have p273 : 0 ≤ (a1 : Int) := of_decide_eq_true (by first | (with_reducible assumption) | assumption)
          have q273 : a1 < (l0.length : Int) := of_decide_eq_true (by first | (with_reducible assumption) | assumption)
          obtain ⟨ad273, e273, hx273_0⟩ := Kd.at_int HR0.out a1 p273 q273
          cases e273
          replace p273 := eq_true p273
          replace q273 := eq_true q273
          go_enter Try.func31, Try.ntmps31
          go_wp2
          go_ret2
          exact ⟨by first | rfl | (simp; done) | (simp [*]; done), by repeat (first | exact Drawn0.refl _ | apply Drawn0.step)⟩
      · rw [if_neg c5] at H
        exact absurd H (by simp)
    · rw [if_neg c4] at H
      exact absurd H (by simp)
  · rw [if_neg c3] at H
    have c3b0 : decide ((wrap64 (a1 + 3)) ≤ (l0.length : Int)) = false := decide_eq_false c3
    clear c3
    simp only [Option.some.injEq, Prod.mk.injEq] at H
    obtain ⟨rfl, rfl⟩ := H
    go_enter Try.func31, Try.ntmps31
    go_wp2
    go_ret2
    exact ⟨by first | rfl | (simp; done) | (simp [*]; done), by repeat (first | exact Drawn0.refl _ | apply Drawn0.step)⟩
/-! ### gjson_validfalse: function 32 -/
def gjson_validfalse.f (l0 : List Int) (a1 : Int) : Option (Int × Bool) := if (wrap64 (a1 + 4)) ≤ (l0.length : Int) then (if 0 ≤ a1 then (if a1 < (l0.length : Int) then (if (rd l0 a1) = 97 then (if 0 ≤ (wrap64 (a1 + 1)) then (if (wrap64 (a1 + 1)) < (l0.length : Int) then (if (rd l0 (wrap64 (a1 + 1))) = 108 then (if 0 ≤ (wrap64 (a1 + 2)) then (if (wrap64 (a1 + 2)) < (l0.length : Int) then (if (rd l0 (wrap64 (a1 + 2))) = 115 then (if 0 ≤ (wrap64 (a1 + 3)) then (if (wrap64 (a1 + 3)) < (l0.length : Int) then (if (rd l0 (wrap64 (a1 + 3))) = 101 then (some (wrap64 (a1 + 4), true)) else (some (a1, false))) else (none)) else (none)) else (some (a1, false))) else (none)) else (none)) else (some (a1, false))) else (none)) else (none)) else (some (a1, false))) else (none)) else (none)) else (some (a1, false))
set_option maxHeartbeats 8000000 in
set_option maxRecDepth 100000 in
theorem gjson_validfalse.calls (A0 : Option Addr) (c0 : Nat) (l0 : List Int) (a1 : Int) (r1 : Int) (r2 : Bool) (w : World) (hr0 : Kd.C (Kd.int .u8) w A0 l0.length l0) (hc0 : l0.length ≤ c0) (h : gjson_validfalse.f l0 a1 = some (r1, r2)) :
    Calls Try.prog 32 #[.slice A0 l0.length c0, .int .i64 a1] w fun e w' => e = .returned (.tuple #[.int .i64 r1, .bool r2]) ∧ Drawn0 w w' := by
  have HR0 := Aside0.mk hr0
  have HC0 := Aside0.mk hc0
  clear hr0 hc0
  have H : (if (wrap64 (a1 + 4)) ≤ (l0.length : Int) then (if 0 ≤ a1 then (if a1 < (l0.length : Int) then (if (rd l0 a1) = 97 then (if 0 ≤ (wrap64 (a1 + 1)) then (if (wrap64 (a1 + 1)) < (l0.length : Int) then (if (rd l0 (wrap64 (a1 + 1))) = 108 then (if 0 ≤ (wrap64 (a1 + 2)) then (if (wrap64 (a1 + 2)) < (l0.length : Int) then (if (rd l0 (wrap64 (a1 + 2))) = 115 then (if 0 ≤ (wrap64 (a1 + 3)) then (if (wrap64 (a1 + 3)) < (l0.length : Int) then (if (rd l0 (wrap64 (a1 + 3))) = 101 then (some (wrap64 (a1 + 4), true)) else (some (a1, false))) else (none)) else (none)) else (some (a1, false))) else (none)) else (none)) else (some (a1, false))) else (none)) else (none)) else (some (a1, false))) else (none)) else (none)) else (some (a1, false))) = some (r1, r2) := h
  clear h
  by_cases c3 : (wrap64 (a1 + 4)) ≤ (l0.length : Int)
  · rw [if_pos c3] at H
    have c3b0 : decide ((wrap64 (a1 + 4)) ≤ (l0.length : Int)) = true := decide_eq_true c3
    clear c3
    by_cases c4 : 0 ≤ a1
    · rw [if_pos c4] at H
      have c4b0 : decide (0 ≤ a1) = true := decide_eq_true c4
      clear c4
      by_cases c5 : a1 < (l0.length : Int)
      · rw [if_pos c5] at H
        have c5b0 : decide (a1 < (l0.length : Int)) = true := decide_eq_true c5
        clear c5
        by_cases c6 : (rd l0 a1) = 97
        · rw [if_pos c6] at H
          have c6b0 : ((rd l0 a1) == 97) = true := beq_iff_eq.mpr c6
          have c6b1 : ((rd l0 a1) != 97) = false := bne_eq_false_iff_eq.mpr c6
          clear c6
          obtain ⟨ji7, hji7⟩ : ∃ j_ : Int, (wrap64 (a1 + 1)) = j_ := ⟨_, rfl⟩
          replace H : (if 0 ≤ (ji7) then (if (ji7) < (l0.length : Int) then (if (rd l0 (ji7)) = 108 then (if 0 ≤ (wrap64 (a1 + 2)) then (if (wrap64 (a1 + 2)) < (l0.length : Int) then (if (rd l0 (wrap64 (a1 + 2))) = 115 then (if 0 ≤ (wrap64 (a1 + 3)) then (if (wrap64 (a1 + 3)) < (l0.length : Int) then (if (rd l0 (wrap64 (a1 + 3))) = 101 then (some (wrap64 (a1 + 4), true)) else (some (a1, false))) else (none)) else (none)) else (some (a1, false))) else (none)) else (none)) else (some (a1, false))) else (none)) else (none)) = some (r1, r2) := by first | (rw [hji7] at H; exact H) | (simp only [hji7] at H ⊢; exact H)
          have hji7w : (IntKind.i64.wrap (a1 + 1)) = ji7 := (i64_w _).trans hji7
          by_cases c8 : 0 ≤ (ji7)
          · rw [if_pos c8] at H
            have c8b0 : decide (0 ≤ (ji7)) = true := decide_eq_true c8
            clear c8
            by_cases c9 : (ji7) < (l0.length : Int)
            · rw [if_pos c9] at H
              have c9b0 : decide ((ji7) < (l0.length : Int)) = true := decide_eq_true c9
              clear c9
              by_cases c10 : (rd l0 (ji7)) = 108
              · rw [if_pos c10] at H
                have c10b0 : ((rd l0 (ji7)) == 108) = true := beq_iff_eq.mpr c10
                have c10b1 : ((rd l0 (ji7)) != 108) = false := bne_eq_false_iff_eq.mpr c10
                clear c10
                obtain ⟨ji11, hji11⟩ : ∃ j_ : Int, (wrap64 (a1 + 2)) = j_ := ⟨_, rfl⟩
                replace H : (if 0 ≤ (ji11) then (if (ji11) < (l0.length : Int) then (if (rd l0 (ji11)) = 115 then (if 0 ≤ (wrap64 (a1 + 3)) then (if (wrap64 (a1 + 3)) < (l0.length : Int) then (if (rd l0 (wrap64 (a1 + 3))) = 101 then (some (wrap64 (a1 + 4), true)) else (some (a1, false))) else (none)) else (none)) else (some (a1, false))) else (none)) else (none)) = some (r1, r2) := by first | (rw [hji11] at H; exact H) | (simp only [hji11] at H ⊢; exact H)
                have hji11w : (IntKind.i64.wrap (a1 + 2)) = ji11 := (i64_w _).trans hji11
                by_cases c12 : 0 ≤ (ji11)
                · rw [if_pos c12] at H
                  have c12b0 : decide (0 ≤ (ji11)) = true := decide_eq_true c12
                  clear c12
                  by_cases c13 : (ji11) < (l0.length : Int)
                  · rw [if_pos c13] at H
                    have c13b0 : decide ((ji11) < (l0.length : Int)) = true := decide_eq_true c13
                    clear c13
                    by_cases c14 : (rd l0 (ji11)) = 115
                    · rw [if_pos c14] at H
                      have c14b0 : ((rd l0 (ji11)) == 115) = true := beq_iff_eq.mpr c14
                      have c14b1 : ((rd l0 (ji11)) != 115) = false := bne_eq_false_iff_eq.mpr c14
                      clear c14
                      obtain ⟨ji15, hji15⟩ : ∃ j_ : Int, (wrap64 (a1 + 3)) = j_ := ⟨_, rfl⟩
                      replace H : (if 0 ≤ (ji15) then (if (ji15) < (l0.length : Int) then (if (rd l0 (ji15)) = 101 then (some (wrap64 (a1 + 4), true)) else (some (a1, false))) else (none)) else (none)) = some (r1, r2) := by first | (rw [hji15] at H; exact H) | (simp only [hji15] at H ⊢; exact H)
                      have hji15w : (IntKind.i64.wrap (a1 + 3)) = ji15 := (i64_w _).trans hji15
                      by_cases c16 : 0 ≤ (ji15)
                      · rw [if_pos c16] at H
                        have c16b0 : decide (0 ≤ (ji15)) = true := decide_eq_true c16
                        clear c16
                        by_cases c17 : (ji15) < (l0.length : Int)
                        · rw [if_pos c17] at H
                          have c17b0 : decide ((ji15) < (l0.length : Int)) = true := decide_eq_true c17
                          clear c17
                          by_cases c18 : (rd l0 (ji15)) = 101
                          · rw [if_pos c18] at H
                            have c18b0 : ((rd l0 (ji15)) == 101) = true := beq_iff_eq.mpr c18
                            have c18b1 : ((rd l0 (ji15)) != 101) = false := bne_eq_false_iff_eq.mpr c18
                            clear c18
                            simp only [Option.some.injEq, Prod.mk.injEq] at H
                            obtain ⟨rfl, rfl⟩ := H
                            have p276 : 0 ≤ (a1 : Int) := of_decide_eq_true (by first | (with_reducible assumption) | assumption)
                            have q276 : a1 < (l0.length : Int) := of_decide_eq_true (by first | (with_reducible assumption) | assumption)
                            obtain ⟨ad276, e276, hx276_0⟩ := Kd.at_int HR0.out a1 p276 q276
                            cases e276
                            replace p276 := eq_true p276
                            replace q276 := eq_true q276
                            have p277 : 0 ≤ ((ji7) : Int) := of_decide_eq_true (by first | (with_reducible assumption) | assumption)
                            have q277 : (ji7) < (l0.length : Int) := of_decide_eq_true (by first | (with_reducible assumption) | assumption)
                            obtain ⟨ad277, e277, hx277_0⟩ := Kd.at_int HR0.out (ji7) p277 q277
                            obtain rfl : ad276 = ad277 := (by injection e277)
                            replace p277 := eq_true p277
                            replace q277 := eq_true q277
                            have p278 : 0 ≤ ((ji11) : Int) := of_decide_eq_true (by first | (with_reducible assumption) | assumption)
                            have q278 : (ji11) < (l0.length : Int) := of_decide_eq_true (by first | (with_reducible assumption) | assumption)
                            obtain ⟨ad278, e278, hx278_0⟩ := Kd.at_int HR0.out (ji11) p278 q278
                            obtain rfl : ad276 = ad278 := (by injection e278)
                            replace p278 := eq_true p278
                            replace q278 := eq_true q278
                            have p279 : 0 ≤ ((ji15) : Int) := of_decide_eq_true (by first | (with_reducible assumption) | assumption)
                            have q279 : (ji15) < (l0.length : Int) := of_decide_eq_true (by first | (with_reducible assumption) | assumption)
                            obtain ⟨ad279, e279, hx279_0⟩ := Kd.at_int HR0.out (ji15) p279 q279
                            obtain rfl : ad276 = ad279 := (by injection e279)
                            replace p279 := eq_true p279
                            replace q279 := eq_true q279
                            go_enter Try.func32, Try.ntmps32
                            go_wp2
                            go_ret2
                            exact ⟨by first | rfl | (simp; done) | (simp only [← hji7, ← hji11, ← hji15] <;> (first | rfl | (simp; done))) | (simp [*]; done), by repeat (first | exact Drawn0.refl _ | apply Drawn0.step)⟩
                          · rw [if_neg c18] at H
                            have c18b0 : ((rd l0 (ji15)) == 101) = false := beq_eq_false_iff_ne.mpr c18
                            have c18b1 : ((rd l0 (ji15)) != 101) = true := bne_iff_ne.mpr c18
                            simp only [Option.some.injEq, Prod.mk.injEq] at H
                            obtain ⟨rfl, rfl⟩ := H
                            have p276 : 0 ≤ (a1 : Int) := of_decide_eq_true (by first | (with_reducible assumption) | assumption)
                            have q276 : a1 < (l0.length : Int) := of_decide_eq_true (by first | (with_reducible assumption) | assumption)
                            obtain ⟨ad276, e276, hx276_0⟩ := Kd.at_int HR0.out a1 p276 q276
                            cases e276
                            replace p276 := eq_true p276
                            replace q276 := eq_true q276
                            have p277 : 0 ≤ ((ji7) : Int) := of_decide_eq_true (by first | (with_reducible assumption) | assumption)
                            have q277 : (ji7) < (l0.length : Int) := of_decide_eq_true (by first | (with_reducible assumption) | assumption)
                            obtain ⟨ad277, e277, hx277_0⟩ := Kd.at_int HR0.out (ji7) p277 q277
                            obtain rfl : ad276 = ad277 := (by injection e277)
                            replace p277 := eq_true p277
                            replace q277 := eq_true q277
                            have p278 : 0 ≤ ((ji11) : Int) := of_decide_eq_true (by first | (with_reducible assumption) | assumption)
                            have q278 : (ji11) < (l0.length : Int) := of_decide_eq_true (by first | (with_reducible assumption) | assumption)
                            obtain ⟨ad278, e278, hx278_0⟩ := Kd.at_int HR0.out (ji11) p278 q278
                            obtain rfl : ad276 = ad278 := (by injection e278)
                            replace p278 := eq_true p278
                            replace q278 := eq_true q278
                            have p279 : 0 ≤ ((ji15) : Int) := of_decide_eq_true (by first | (with_reducible assumption) | assumption)
                            have q279 : (ji15) < (l0.length : Int) := of_decide_eq_true (by first | (with_reducible assumption) | assumption)
                            obtain ⟨ad279, e279, hx279_0⟩ := Kd.at_int HR0.out (ji15) p279 q279
                            obtain rfl : ad276 = ad279 := (by injection e279)
                            replace p279 := eq_true p279
                            replace q279 := eq_true q279
                            go_enter Try.func32, Try.ntmps32
                            go_wp2
                            go_ret2
                            exact ⟨by first | rfl | (simp; done) | (simp only [← hji7, ← hji11, ← hji15] <;> (first | rfl | (simp; done))) | (simp [*]; done), by repeat (first | exact Drawn0.refl _ | apply Drawn0.step)⟩
                        · rw [if_neg c17] at H
                          exact absurd H (by simp)
                      · rw [if_neg c16] at H
                        exact absurd H (by simp)
                    · rw [if_neg c14] at H
                      have c14b0 : ((rd l0 (ji11)) == 115) = false := beq_eq_false_iff_ne.mpr c14
                      have c14b1 : ((rd l0 (ji11)) != 115) = true := bne_iff_ne.mpr c14
                      simp only [Option.some.injEq, Prod.mk.injEq] at H
                      obtain ⟨rfl, rfl⟩ := H
                      have p276 : 0 ≤ (a1 : Int) := of_decide_eq_true (by first | (with_reducible assumption) | assumption)
                      have q276 : a1 < (l0.length : Int) := of_decide_eq_true (by first | (with_reducible assumption) | assumption)
                      obtain ⟨ad276, e276, hx276_0⟩ := Kd.at_int HR0.out a1 p276 q276
                      cases e276
                      replace p276 := eq_true p276
                      replace q276 := eq_true q276
                      have p277 : 0 ≤ ((ji7) : Int) := of_decide_eq_true (by first | (with_reducible assumption) | assumption)
                      have q277 : (ji7) < (l0.length : Int) := of_decide_eq_true (by first | (with_reducible assumption) | assumption)
                      obtain ⟨ad277, e277, hx277_0⟩ := Kd.at_int HR0.out (ji7) p277 q277
                      obtain rfl : ad276 = ad277 := (by injection e277)
                      replace p277 := eq_true p277
                      replace q277 := eq_true q277
                      have p278 : 0 ≤ ((ji11) : Int) := of_decide_eq_true (by first | (with_reducible assumption) | assumption)
                      have q278 : (ji11) < (l0.length : Int) := of_decide_eq_true (by first | (with_reducible assumption) | assumption)
                      obtain ⟨ad278, e278, hx278_0⟩ := Kd.at_int HR0.out (ji11) p278 q278
                      obtain rfl : ad276 = ad278 := (by injection e278)
                      replace p278 := eq_true p278
                      replace q278 := eq_true q278
                      go_enter Try.func32, Try.ntmps32
                      go_wp2
                      go_ret2
                      exact ⟨by first | rfl | (simp; done) | (simp only [← hji7, ← hji11] <;> (first | rfl | (simp; done))) | (simp [*]; done), by repeat (first | exact Drawn0.refl _ | apply Drawn0.step)⟩
                  · rw [if_neg c13] at H
                    exact absurd H (by simp)
                · rw [if_neg c12] at H
                  exact absurd H (by simp)
              · rw [if_neg c10] at H
                have c10b0 : ((rd l0 (ji7)) == 108) = false := beq_eq_false_iff_ne.mpr c10
                have c10b1 : ((rd l0 (ji7)) != 108) = true := bne_iff_ne.mpr c10
                simp only [Option.some.injEq, Prod.mk.injEq] at H
                obtain ⟨rfl, rfl⟩ := H
                have p276 : 0 ≤ (a1 : Int) := of_decide_eq_true (by first | (with_reducible assumption) | assumption)
                have q276 : a1 < (l0.length : Int) := of_decide_eq_true (by first | (with_reducible assumption) | assumption)
                obtain ⟨ad276, e276, hx276_0⟩ := Kd.at_int HR0.out a1 p276 q276
                cases e276
                replace p276 := eq_true p276
                replace q276 := eq_true q276
                have p277 : 0 ≤ ((ji7) : Int) := of_decide_eq_true (by first | (with_reducible assumption) | assumption)
                have q277 : (ji7) < (l0.length : Int) := of_decide_eq_true (by first | (with_reducible assumption) | assumption)
                obtain ⟨ad277, e277, hx277_0⟩ := Kd.at_int HR0.out (ji7) p277 q277
                obtain rfl : ad276 = ad277 := (by injection e277)
                replace p277 := eq_true p277
                replace q277 := eq_true q277
                go_enter Try.func32, Try.ntmps32
                go_wp2
                go_ret2
                exact ⟨by first | rfl | (simp; done) | (simp only [← hji7] <;> (first | rfl | (simp; done))) | (simp [*]; done), by repeat (first | exact Drawn0.refl _ | apply Drawn0.step)⟩
            · rw [if_neg c9] at H
              exact absurd H (by simp)
          · rw [if_neg c8] at H
            exact absurd H (by simp)
        · rw [if_neg c6] at H
          have c6b0 : ((rd l0 a1) == 97) = false := beq_eq_false_iff_ne.mpr c6
          have c6b1 : ((rd l0 a1) != 97) = true := bne_iff_ne.mpr c6
          simp only [Option.some.injEq, Prod.mk.injEq] at H
          obtain ⟨rfl, rfl⟩ := H
          have p276 : 0 ≤ (a1 : Int) := of_decide_eq_true (by first | (with_reducible assumption) | assumption)
          have q276 : a1 < (l0.length : Int) := of_decide_eq_true (by first | (with_reducible assumption) | assumption)
          obtain ⟨ad276, e276, hx276_0⟩ := Kd.at_int HR0.out a1 p276 q276
          cases e276
          replace p276 := eq_true p276
          replace q276 := eq_true q276
          go_enter Try.func32, Try.ntmps32
          go_wp2
          go_ret2
          exact ⟨by first | rfl | (simp; done) | (simp [*]; done), by repeat (first | exact Drawn0.refl _ | apply Drawn0.step)⟩
      · rw [if_neg c5] at H
        exact absurd H (by simp)
    · rw [if_neg c4] at H
      exact absurd H (by simp)
  · rw [if_neg c3] at H
    have c3b0 : decide ((wrap64 (a1 + 4)) ≤ (l0.length : Int)) = false := decide_eq_false c3
    clear c3
    simp only [Option.some.injEq, Prod.mk.injEq] at H
    obtain ⟨rfl, rfl⟩ := H
    go_enter Try.func32, Try.ntmps32
    go_wp2
    go_ret2
    exact ⟨by first | rfl | (simp; done) | (simp [*]; done), by repeat (first | exact Drawn0.refl _ | apply Drawn0.step)⟩
/-! ### gjson_validnull: function 33 -/
def gjson_validnull.f (l0 : List Int) (a1 : Int) : Option (Int × Bool) := if (wrap64 (a1 + 3)) ≤ (l0.length : Int) then (if 0 ≤ a1 then (if a1 < (l0.length : Int) then (if (rd l0 a1) = 117 then (if 0 ≤ (wrap64 (a1 + 1)) then (if (wrap64 (a1 + 1)) < (l0.length : Int) then (if (rd l0 (wrap64 (a1 + 1))) = 108 then (if 0 ≤ (wrap64 (a1 + 2)) then (if (wrap64 (a1 + 2)) < (l0.length : Int) then (if (rd l0 (wrap64 (a1 + 2))) = 108 then (some (wrap64 (a1 + 3), true)) else (some (a1, false))) else (none)) else (none)) else (some (a1, false))) else (none)) else (none)) else (some (a1, false))) else (none)) else (none)) else (some (a1, false))
set_option maxHeartbeats 8000000 in
set_option maxRecDepth 100000 in
theorem gjson_validnull.calls (A0 : Option Addr) (c0 : Nat) (l0 : List Int) (a1 : Int) (r1 : Int) (r2 : Bool) (w : World) (hr0 : Kd.C (Kd.int .u8) w A0 l0.length l0) (hc0 : l0.length ≤ c0) (h : gjson_validnull.f l0 a1 = some (r1, r2)) :
    Calls Try.prog 33 #[.slice A0 l0.length c0, .int .i64 a1] w fun e w' => e = .returned (.tuple #[.int .i64 r1, .bool r2]) ∧ Drawn0 w w' := by
  have HR0 := Aside0.mk hr0
  have HC0 := Aside0.mk hc0
  clear hr0 hc0
  have H : (if (wrap64 (a1 + 3)) ≤ (l0.length : Int) then (if 0 ≤ a1 then (if a1 < (l0.length : Int) then (if (rd l0 a1) = 117 then (if 0 ≤ (wrap64 (a1 + 1)) then (if (wrap64 (a1 + 1)) < (l0.length : Int) then (if (rd l0 (wrap64 (a1 + 1))) = 108 then (if 0 ≤ (wrap64 (a1 + 2)) then (if (wrap64 (a1 + 2)) < (l0.length : Int) then (if (rd l0 (wrap64 (a1 + 2))) = 108 then (some (wrap64 (a1 + 3), true)) else (some (a1, false))) else (none)) else (none)) else (some (a1, false))) else (none)) else (none)) else (some (a1, false))) else (none)) else (none)) else (some (a1, false))) = some (r1, r2) := h
  clear h
  by_cases c3 : (wrap64 (a1 + 3)) ≤ (l0.length : Int)
  · rw [if_pos c3] at H
    have c3b0 : decide ((wrap64 (a1 + 3)) ≤ (l0.length : Int)) = true := decide_eq_true c3
    clear c3
    by_cases c4 : 0 ≤ a1
    · rw [if_pos c4] at H
      have c4b0 : decide (0 ≤ a1) = true := decide_eq_true c4
      clear c4
      by_cases c5 : a1 < (l0.length : Int)
      · rw [if_pos c5] at H
        have c5b0 : decide (a1 < (l0.length : Int)) = true := decide_eq_true c5
        clear c5
        by_cases c6 : (rd l0 a1) = 117
        · rw [if_pos c6] at H
          have c6b0 : ((rd l0 a1) == 117) = true := beq_iff_eq.mpr c6
          have c6b1 : ((rd l0 a1) != 117) = false := bne_eq_false_iff_eq.mpr c6
          clear c6
          obtain ⟨ji7, hji7⟩ : ∃ j_ : Int, (wrap64 (a1 + 1)) = j_ := ⟨_, rfl⟩
          replace H : (if 0 ≤ (ji7) then (if (ji7) < (l0.length : Int) then (if (rd l0 (ji7)) = 108 then (if 0 ≤ (wrap64 (a1 + 2)) then (if (wrap64 (a1 + 2)) < (l0.length : Int) then (if (rd l0 (wrap64 (a1 + 2))) = 108 then (some (wrap64 (a1 + 3), true)) else (some (a1, false))) else (none)) else (none)) else (some (a1, false))) else (none)) else (none)) = some (r1, r2) := by first | (rw [hji7] at H; exact H) | (simp only [hji7] at H ⊢; exact H)
          have hji7w : (IntKind.i64.wrap (a1 + 1)) = ji7 := (i64_w _).trans hji7
          by_cases c8 : 0 ≤ (ji7)
          · rw [if_pos c8] at H
            have c8b0 : decide (0 ≤ (ji7)) = true := decide_eq_true c8
            clear c8
            by_cases c9 : (ji7) < (l0.length : Int)
            · rw [if_pos c9] at H
              have c9b0 : decide ((ji7) < (l0.length : Int)) = true := decide_eq_true c9
              clear c9
              by_cases c10 : (rd l0 (ji7)) = 108
              · rw [if_pos c10] at H
                have c10b0 : ((rd l0 (ji7)) == 108) = true := beq_iff_eq.mpr c10
                have c10b1 : ((rd l0 (ji7)) != 108) = false := bne_eq_false_iff_eq.mpr c10
                clear c10
                obtain ⟨ji11, hji11⟩ : ∃ j_ : Int, (wrap64 (a1 + 2)) = j_ := ⟨_, rfl⟩
                replace H : (if 0 ≤ (ji11) then (if (ji11) < (l0.length : Int) then (if (rd l0 (ji11)) = 108 then (some (wrap64 (a1 + 3), true)) else (some (a1, false))) else (none)) else (none)) = some (r1, r2) := by first | (rw [hji11] at H; exact H) | (simp only [hji11] at H ⊢; exact H)
                have hji11w : (IntKind.i64.wrap (a1 + 2)) = ji11 := (i64_w _).trans hji11
                by_cases c12 : 0 ≤ (ji11)
                · rw [if_pos c12] at H
                  have c12b0 : decide (0 ≤ (ji11)) = true := decide_eq_true c12
                  clear c12
                  by_cases c13 : (ji11) < (l0.length : Int)
                  · rw [if_pos c13] at H
                    have c13b0 : decide ((ji11) < (l0.length : Int)) = true := decide_eq_true c13
                    clear c13
                    by_cases c14 : (rd l0 (ji11)) = 108
                    · rw [if_pos c14] at H
                      have c14b0 : ((rd l0 (ji11)) == 108) = true := beq_iff_eq.mpr c14
                      have c14b1 : ((rd l0 (ji11)) != 108) = false := bne_eq_false_iff_eq.mpr c14
                      clear c14
                      simp only [Option.some.injEq, Prod.mk.injEq] at H
                      obtain ⟨rfl, rfl⟩ := H
                      have p280 : 0 ≤ (a1 : Int) := of_decide_eq_true (by first | (with_reducible assumption) | assumption)
                      have q280 : a1 < (l0.length : Int) := of_decide_eq_true (by first | (with_reducible assumption) | assumption)
                      obtain ⟨ad280, e280, hx280_0⟩ := Kd.at_int HR0.out a1 p280 q280
                      cases e280
                      replace p280 := eq_true p280
                      replace q280 := eq_true q280
                      have p281 : 0 ≤ ((ji7) : Int) := of_decide_eq_true (by first | (with_reducible assumption) | assumption)
                      have q281 : (ji7) < (l0.length : Int) := of_decide_eq_true (by first | (with_reducible assumption) | assumption)
                      obtain ⟨ad281, e281, hx281_0⟩ := Kd.at_int HR0.out (ji7) p281 q281
                      obtain rfl : ad280 = ad281 := (by injection e281)
                      replace p281 := eq_true p281
                      replace q281 := eq_true q281
                      have p282 : 0 ≤ ((ji11) : Int) := of_decide_eq_true (by first | (with_reducible assumption) | assumption)
                      have q282 : (ji11) < (l0.length : Int) := of_decide_eq_true (by first | (with_reducible assumption) | assumption)
                      obtain ⟨ad282, e282, hx282_0⟩ := Kd.at_int HR0.out (ji11) p282 q282
                      obtain rfl : ad280 = ad282 := (by injection e282)
                      replace p282 := eq_true p282
                      replace q282 := eq_true q282
                      go_enter Try.func33, Try.ntmps33
                      go_wp2
                      go_ret2
                      exact ⟨by first | rfl | (simp; done) | (simp only [← hji7, ← hji11] <;> (first | rfl | (simp; done))) | (simp [*]; done), by repeat (first | exact Drawn0.refl _ | apply Drawn0.step)⟩
                    · rw [if_neg c14] at H
                      have c14b0 : ((rd l0 (ji11)) == 108) = false := beq_eq_false_iff_ne.mpr c14
                      have c14b1 : ((rd l0 (ji11)) != 108) = true := bne_iff_ne.mpr c14
                      simp only [Option.some.injEq, Prod.mk.injEq] at H
                      obtain ⟨rfl, rfl⟩ := H
                      have p280 : 0 ≤ (a1 : Int) := of_decide_eq_true (by first | (with_reducible assumption) | assumption)
                      have q280 : a1 < (l0.length : Int) := of_decide_eq_true (by first | (with_reducible assumption) | assumption)
                      obtain ⟨ad280, e280, hx280_0⟩ := Kd.at_int HR0.out a1 p280 q280
                      cases e280
                      replace p280 := eq_true p280
                      replace q280 := eq_true q280
                      have p281 : 0 ≤ ((ji7) : Int) := of_decide_eq_true (by first | (with_reducible assumption) | assumption)
                      have q281 : (ji7) < (l0.length : Int) := of_decide_eq_true (by first | (with_reducible assumption) | assumption)
                      obtain ⟨ad281, e281, hx281_0⟩ := Kd.at_int HR0.out (ji7) p281 q281
                      obtain rfl : ad280 = ad281 := (by injection e281)
                      replace p281 := eq_true p281
                      replace q281 := eq_true q281
                      have p282 : 0 ≤ ((ji11) : Int) := of_decide_eq_true (by first | (with_reducible assumption) | assumption)
                      have q282 : (ji11) < (l0.length : Int) := of_decide_eq_true (by first | (with_reducible assumption) | assumption)
                      obtain ⟨ad282, e282, hx282_0⟩ := Kd.at_int HR0.out (ji11) p282 q282
                      obtain rfl : ad280 = ad282 := (by injection e282)
                      replace p282 := eq_true p282
                      replace q282 := eq_true q282
                      go_enter Try.func33, Try.ntmps33
                      go_wp2
                      go_ret2
                      exact ⟨by first | rfl | (simp; done) | (simp only [← hji7, ← hji11] <;> (first | rfl | (simp; done))) | (simp [*]; done), by repeat (first | exact Drawn0.refl _ | apply Drawn0.step)⟩
                  · rw [if_neg c13] at H
                    exact absurd H (by simp)
                · rw [if_neg c12] at H
                  exact absurd H (by simp)
              · rw [if_neg c10] at H
                have c10b0 : ((rd l0 (ji7)) == 108) = false := beq_eq_false_iff_ne.mpr c10
                have c10b1 : ((rd l0 (ji7)) != 108) = true := bne_iff_ne.mpr c10
                simp only [Option.some.injEq, Prod.mk.injEq] at H
                obtain ⟨rfl, rfl⟩ := H
                have p280 : 0 ≤ (a1 : Int) := of_decide_eq_true (by first | (with_reducible assumption) | assumption)
                have q280 : a1 < (l0.length : Int) := of_decide_eq_true (by first | (with_reducible assumption) | assumption)
                obtain ⟨ad280, e280, hx280_0⟩ := Kd.at_int HR0.out a1 p280 q280
                cases e280
                replace p280 := eq_true p280
                replace q280 := eq_true q280
                have p281 : 0 ≤ ((ji7) : Int) := of_decide_eq_true (by first | (with_reducible assumption) | assumption)
                have q281 : (ji7) < (l0.length : Int) := of_decide_eq_true (by first | (with_reducible assumption) | assumption)
                obtain ⟨ad281, e281, hx281_0⟩ := Kd.at_int HR0.out (ji7) p281 q281
                obtain rfl : ad280 = ad281 := (by injection e281)
                replace p281 := eq_true p281
                replace q281 := eq_true q281
                go_enter Try.func33, Try.ntmps33
                go_wp2
                go_ret2
                exact ⟨by first | rfl | (simp; done) | (simp only [← hji7] <;> (first | rfl | (simp; done))) | (simp [*]; done), by repeat (first | exact Drawn0.refl _ | apply Drawn0.step)⟩
            · rw [if_neg c9] at H
              exact absurd H (by simp)
          · rw [if_neg c8] at H
            exact absurd H (by simp)
        · rw [if_neg c6] at H
          have c6b0 : ((rd l0 a1) == 117) = false := beq_eq_false_iff_ne.mpr c6
          have c6b1 : ((rd l0 a1) != 117) = true := bne_iff_ne.mpr c6
          simp only [Option.some.injEq, Prod.mk.injEq] at H
          obtain ⟨rfl, rfl⟩ := H
          have p280 : 0 ≤ (a1 : Int) := of_decide_eq_true (by first | (with_reducible assumption) | assumption)
          have q280 : a1 < (l0.length : Int) := of_decide_eq_true (by first | (with_reducible assumption) | assumption)
          obtain ⟨ad280, e280, hx280_0⟩ := Kd.at_int HR0.out a1 p280 q280
          cases e280
          replace p280 := eq_true p280
          replace q280 := eq_true q280
          go_enter Try.func33, Try.ntmps33
          go_wp2
          go_ret2
          exact ⟨by first | rfl | (simp; done) | (simp [*]; done), by repeat (first | exact Drawn0.refl _ | apply Drawn0.step)⟩
      · rw [if_neg c5] at H
        exact absurd H (by simp)
    · rw [if_neg c4] at H
      exact absurd H (by simp)
  · rw [if_neg c3] at H
    have c3b0 : decide ((wrap64 (a1 + 3)) ≤ (l0.length : Int)) = false := decide_eq_false c3
    clear c3
    simp only [Option.some.injEq, Prod.mk.injEq] at H
    obtain ⟨rfl, rfl⟩ := H
    go_enter Try.func33, Try.ntmps33
    go_wp2
    go_ret2
    exact ⟨by first | rfl | (simp; done) | (simp [*]; done), by repeat (first | exact Drawn0.refl _ | apply Drawn0.step)⟩
end Go.Proofs.Ytphpjboljlkdkaa.PFnGjValidCut
