/- Written by a program of this session (a turned copy of the print) out of the translation. -/
import Derived.Test.YtbppoiedaojjmaaPFnPrUglyJoinx0
import Derived.Test.YtbppoiedaojjmaaPFnPrUglyJoinx5
import Derived.Test.YtbppoiedaojjmaaPFnPrUglyJoinx6
namespace Go.Proofs.Ytbppoiedaojjmaa.PFnPrUglyJoin
open Go.RowKit Go.Proofs.YtbppoiedaojjmaaW.PrintWords Go.Proofs.YtbppoiedaojjmaaW.PrintLast Go.Proofs.YtbppoiedaojjmaaW.PrintMore
attribute [local go_sem] max2_int min2_int max_two min_two max_three min_three max_four min_four   -- for this text's walks alone
set_option linter.unusedVariables false
set_option linter.unusedSimpArgs false

/-! ### laws_FnPrUglyJoin: function 6 -/
mutual
def laws_FnPrUglyJoin.j0 : Nat → ByteArray → ByteArray → ByteArray → ByteArray → Bool → Option (Bool)
  | 0, _, _, _, _, _ => none
  | k + 1, x0, x1, x2, x3, x34 => if x34 = true then (some true) else ((laws_prPlaces.f k x0).bind fun bt305 => ((laws_prPlaces.f k x1).bind fun bt316 => (if bt305.2.2.2.2.2 = true then (if bt316.2.2.2.2.2 = true then (if (wrap64 ((wrap64 ((wrap64 ((x0.size : Int) + (x1.size : Int))) + (x2.size : Int))) + (x3.size : Int))) > 4096 then (laws_FnPrUglyJoin.j1 k x0 x1 x2 x3 true) else ((spec_UTF8.f k x2).bind fun t327 => (if t327 = true then ((spec_UTF8.f k x3).bind fun t328 => (laws_FnPrUglyJoin.j1 k x0 x1 x2 x3 (!t328))) else (laws_FnPrUglyJoin.j1 k x0 x1 x2 x3 true)))) else (laws_FnPrUglyJoin.j1 k x0 x1 x2 x3 true)) else (laws_FnPrUglyJoin.j1 k x0 x1 x2 x3 true))))
def laws_FnPrUglyJoin.j1 : Nat → ByteArray → ByteArray → ByteArray → ByteArray → Bool → Option (Bool)
  | 0, _, _, _, _, _ => none
  | k + 1, x0, x1, x2, x3, x74 => if x74 = true then (some true) else ((impl_PrUgly.f x0).bind fun t329 => ((impl_PrUgly.f x1).bind fun t330 => (if t329.toList = ([] : List UInt8) then (laws_FnPrUglyJoin.j2 k x0 x1 x2 x3 t329 t330 true) else (if t330.toList = ([] : List UInt8) then (laws_FnPrUglyJoin.j2 k x0 x1 x2 x3 t329 t330 true) else (if 2 + x0.size ≤ 9223372036854775807 then (if ((⟨#[91, 32]⟩ : ByteArray) ++ x0).size + 2 ≤ 9223372036854775807 then (if (((⟨#[91, 32]⟩ : ByteArray) ++ x0) ++ (⟨#[10, 44]⟩ : ByteArray)).size + x1.size ≤ 9223372036854775807 then (if ((((⟨#[91, 32]⟩ : ByteArray) ++ x0) ++ (⟨#[10, 44]⟩ : ByteArray)) ++ x1).size + 1 ≤ 9223372036854775807 then ((impl_PrUgly.f (((((⟨#[91, 32]⟩ : ByteArray) ++ x0) ++ (⟨#[10, 44]⟩ : ByteArray)) ++ x1) ++ (⟨#[93]⟩ : ByteArray))).bind fun t331 => (if 1 + t329.size ≤ 9223372036854775807 then (if ((⟨#[91]⟩ : ByteArray) ++ t329).size + 1 ≤ 9223372036854775807 then (if (((⟨#[91]⟩ : ByteArray) ++ t329) ++ (⟨#[44]⟩ : ByteArray)).size + t330.size ≤ 9223372036854775807 then (if ((((⟨#[91]⟩ : ByteArray) ++ t329) ++ (⟨#[44]⟩ : ByteArray)) ++ t330).size + 1 ≤ 9223372036854775807 then (laws_FnPrUglyJoin.j2 k x0 x1 x2 x3 t329 t330 (t331.toList != (((((⟨#[91]⟩ : ByteArray) ++ t329) ++ (⟨#[44]⟩ : ByteArray)) ++ t330) ++ (⟨#[93]⟩ : ByteArray)).toList)) else (none)) else (none)) else (none)) else (none))) else (none)) else (none)) else (none)) else (none))))))
def laws_FnPrUglyJoin.j2 : Nat → ByteArray → ByteArray → ByteArray → ByteArray → ByteArray → ByteArray → Bool → Option (Bool)
  | 0, _, _, _, _, _, _, _ => none
  | k + 1, x0, x1, x2, x3, x13, x14, x100 => if x100 = true then (some false) else ((spec_Quote.f k x2).bind fun t332 => ((spec_Quote.f k x3).bind fun t333 => (if 1 + t332.size ≤ 9223372036854775807 then (if ((⟨#[123]⟩ : ByteArray) ++ t332).size + 3 ≤ 9223372036854775807 then (if (((⟨#[123]⟩ : ByteArray) ++ t332) ++ (⟨#[32, 58, 32]⟩ : ByteArray)).size + x0.size ≤ 9223372036854775807 then (if ((((⟨#[123]⟩ : ByteArray) ++ t332) ++ (⟨#[32, 58, 32]⟩ : ByteArray)) ++ x0).size + 2 ≤ 9223372036854775807 then (if (((((⟨#[123]⟩ : ByteArray) ++ t332) ++ (⟨#[32, 58, 32]⟩ : ByteArray)) ++ x0) ++ (⟨#[44, 9]⟩ : ByteArray)).size + t333.size ≤ 9223372036854775807 then (if ((((((⟨#[123]⟩ : ByteArray) ++ t332) ++ (⟨#[32, 58, 32]⟩ : ByteArray)) ++ x0) ++ (⟨#[44, 9]⟩ : ByteArray)) ++ t333).size + 1 ≤ 9223372036854775807 then (if (((((((⟨#[123]⟩ : ByteArray) ++ t332) ++ (⟨#[32, 58, 32]⟩ : ByteArray)) ++ x0) ++ (⟨#[44, 9]⟩ : ByteArray)) ++ t333) ++ (⟨#[58]⟩ : ByteArray)).size + x1.size ≤ 9223372036854775807 then (if ((((((((⟨#[123]⟩ : ByteArray) ++ t332) ++ (⟨#[32, 58, 32]⟩ : ByteArray)) ++ x0) ++ (⟨#[44, 9]⟩ : ByteArray)) ++ t333) ++ (⟨#[58]⟩ : ByteArray)) ++ x1).size + 2 ≤ 9223372036854775807 then ((impl_PrUgly.f (((((((((⟨#[123]⟩ : ByteArray) ++ t332) ++ (⟨#[32, 58, 32]⟩ : ByteArray)) ++ x0) ++ (⟨#[44, 9]⟩ : ByteArray)) ++ t333) ++ (⟨#[58]⟩ : ByteArray)) ++ x1) ++ (⟨#[13, 125]⟩ : ByteArray))).bind fun t334 => (if ((⟨#[123]⟩ : ByteArray) ++ t332).size + 1 ≤ 9223372036854775807 then (if (((⟨#[123]⟩ : ByteArray) ++ t332) ++ (⟨#[58]⟩ : ByteArray)).size + x13.size ≤ 9223372036854775807 then (if ((((⟨#[123]⟩ : ByteArray) ++ t332) ++ (⟨#[58]⟩ : ByteArray)) ++ x13).size + 1 ≤ 9223372036854775807 then (if (((((⟨#[123]⟩ : ByteArray) ++ t332) ++ (⟨#[58]⟩ : ByteArray)) ++ x13) ++ (⟨#[44]⟩ : ByteArray)).size + t333.size ≤ 9223372036854775807 then (if ((((((⟨#[123]⟩ : ByteArray) ++ t332) ++ (⟨#[58]⟩ : ByteArray)) ++ x13) ++ (⟨#[44]⟩ : ByteArray)) ++ t333).size + 1 ≤ 9223372036854775807 then (if (((((((⟨#[123]⟩ : ByteArray) ++ t332) ++ (⟨#[58]⟩ : ByteArray)) ++ x13) ++ (⟨#[44]⟩ : ByteArray)) ++ t333) ++ (⟨#[58]⟩ : ByteArray)).size + x14.size ≤ 9223372036854775807 then (if ((((((((⟨#[123]⟩ : ByteArray) ++ t332) ++ (⟨#[58]⟩ : ByteArray)) ++ x13) ++ (⟨#[44]⟩ : ByteArray)) ++ t333) ++ (⟨#[58]⟩ : ByteArray)) ++ x14).size + 1 ≤ 9223372036854775807 then (some (t334.toList == (((((((((⟨#[123]⟩ : ByteArray) ++ t332) ++ (⟨#[58]⟩ : ByteArray)) ++ x13) ++ (⟨#[44]⟩ : ByteArray)) ++ t333) ++ (⟨#[58]⟩ : ByteArray)) ++ x14) ++ (⟨#[125]⟩ : ByteArray)).toList)) else (none)) else (none)) else (none)) else (none)) else (none)) else (none)) else (none))) else (none)) else (none)) else (none)) else (none)) else (none)) else (none)) else (none)) else (none))))
end
def laws_FnPrUglyJoin.f (k : Nat) (a0 : ByteArray) (a1 : ByteArray) (a2 : ByteArray) (a3 : ByteArray) : Option (Bool) := if (a0.size : Int) > 2147483647 then (laws_FnPrUglyJoin.j0 k a0 a1 a2 a3 true) else (if (a1.size : Int) > 2147483647 then (laws_FnPrUglyJoin.j0 k a0 a1 a2 a3 true) else (if (a2.size : Int) > 2147483647 then (laws_FnPrUglyJoin.j0 k a0 a1 a2 a3 true) else (laws_FnPrUglyJoin.j0 k a0 a1 a2 a3 (decide ((a3.size : Int) > 2147483647)))))
theorem laws_FnPrUglyJoin.mono_l : ∀ k, (∀ y0 y1 y2 y3 y4, LeO (laws_FnPrUglyJoin.j0 k y0 y1 y2 y3 y4) (laws_FnPrUglyJoin.j0 (k + 1) y0 y1 y2 y3 y4)) ∧ (∀ y0 y1 y2 y3 y4, LeO (laws_FnPrUglyJoin.j1 k y0 y1 y2 y3 y4) (laws_FnPrUglyJoin.j1 (k + 1) y0 y1 y2 y3 y4)) ∧ (∀ y0 y1 y2 y3 y4 y5 y6, LeO (laws_FnPrUglyJoin.j2 k y0 y1 y2 y3 y4 y5 y6) (laws_FnPrUglyJoin.j2 (k + 1) y0 y1 y2 y3 y4 y5 y6))
  | 0 => ⟨fun _ _ _ _ _ r h => by simp [laws_FnPrUglyJoin.j0] at h, fun _ _ _ _ _ r h => by simp [laws_FnPrUglyJoin.j1] at h, fun _ _ _ _ _ _ _ r h => by simp [laws_FnPrUglyJoin.j2] at h⟩
  | k + 1 => by
    obtain ⟨ih0, ih1, ih2⟩ := laws_FnPrUglyJoin.mono_l k
    refine ⟨?_, ?_, ?_⟩
    · intro y0 y1 y2 y3 y4
      unfold laws_FnPrUglyJoin.j0
      repeat' first
      | (with_reducible exact ih0 _ _ _ _ _)
      | (with_reducible exact ih1 _ _ _ _ _)
      | (with_reducible exact ih2 _ _ _ _ _ _ _)
      | (with_reducible exact laws_prPlaces.mono _ _)
      | (with_reducible exact spec_Quote.mono _ _)
      | (with_reducible exact spec_UTF8.mono _ _)
      | (with_reducible exact LeO.refl _)
      | (with_reducible exact LeO.none _)
      | (with_reducible refine LeO.ite ?_ ?_)
      | (with_reducible refine LeO.bind ?_ (fun _ => ?_))
      | exact ih0 _ _ _ _ _
      | exact ih1 _ _ _ _ _
      | exact ih2 _ _ _ _ _ _ _
      | exact laws_prPlaces.mono _ _
      | exact spec_Quote.mono _ _
      | exact spec_UTF8.mono _ _
      | exact LeO.none _
      | refine LeO.ite ?_ ?_
      | refine LeO.bind ?_ (fun _ => ?_)
    · intro y0 y1 y2 y3 y4
      unfold laws_FnPrUglyJoin.j1
      repeat' first
      | (with_reducible exact ih0 _ _ _ _ _)
      | (with_reducible exact ih1 _ _ _ _ _)
      | (with_reducible exact ih2 _ _ _ _ _ _ _)
      | (with_reducible exact laws_prPlaces.mono _ _)
      | (with_reducible exact spec_Quote.mono _ _)
      | (with_reducible exact spec_UTF8.mono _ _)
      | (with_reducible exact LeO.refl _)
      | (with_reducible exact LeO.none _)
      | (with_reducible refine LeO.ite ?_ ?_)
      | (with_reducible refine LeO.bind ?_ (fun _ => ?_))
      | exact ih0 _ _ _ _ _
      | exact ih1 _ _ _ _ _
      | exact ih2 _ _ _ _ _ _ _
      | exact laws_prPlaces.mono _ _
      | exact spec_Quote.mono _ _
      | exact spec_UTF8.mono _ _
      | exact LeO.none _
      | refine LeO.ite ?_ ?_
      | refine LeO.bind ?_ (fun _ => ?_)
    · intro y0 y1 y2 y3 y4 y5 y6
      unfold laws_FnPrUglyJoin.j2
      repeat' first
      | (with_reducible exact ih0 _ _ _ _ _)
      | (with_reducible exact ih1 _ _ _ _ _)
      | (with_reducible exact ih2 _ _ _ _ _ _ _)
      | (with_reducible exact laws_prPlaces.mono _ _)
      | (with_reducible exact spec_Quote.mono _ _)
      | (with_reducible exact spec_UTF8.mono _ _)
      | (with_reducible exact LeO.refl _)
      | (with_reducible exact LeO.none _)
      | (with_reducible refine LeO.ite ?_ ?_)
      | (with_reducible refine LeO.bind ?_ (fun _ => ?_))
      | exact ih0 _ _ _ _ _
      | exact ih1 _ _ _ _ _
      | exact ih2 _ _ _ _ _ _ _
      | exact laws_prPlaces.mono _ _
      | exact spec_Quote.mono _ _
      | exact spec_UTF8.mono _ _
      | exact LeO.none _
      | refine LeO.ite ?_ ?_
      | refine LeO.bind ?_ (fun _ => ?_)
theorem laws_FnPrUglyJoin.mono : ∀ a0 a1 a2 a3 k, LeO (laws_FnPrUglyJoin.f k a0 a1 a2 a3) (laws_FnPrUglyJoin.f (k + 1) a0 a1 a2 a3) := by
  intro a0 a1 a2 a3 k
  obtain ⟨ih0, ih1, ih2⟩ := laws_FnPrUglyJoin.mono_l k
  unfold laws_FnPrUglyJoin.f
  repeat' first
      | (with_reducible exact ih0 _ _ _ _ _)
      | (with_reducible exact ih1 _ _ _ _ _)
      | (with_reducible exact ih2 _ _ _ _ _ _ _)
      | (with_reducible exact laws_prPlaces.mono _ _)
      | (with_reducible exact spec_Quote.mono _ _)
      | (with_reducible exact spec_UTF8.mono _ _)
      | (with_reducible exact LeO.refl _)
      | (with_reducible exact LeO.none _)
      | (with_reducible refine LeO.ite ?_ ?_)
      | (with_reducible refine LeO.bind ?_ (fun _ => ?_))
      | exact ih0 _ _ _ _ _
      | exact ih1 _ _ _ _ _
      | exact ih2 _ _ _ _ _ _ _
      | exact laws_prPlaces.mono _ _
      | exact spec_Quote.mono _ _
      | exact spec_UTF8.mono _ _
      | exact LeO.none _
      | refine LeO.ite ?_ ?_
      | refine LeO.bind ?_ (fun _ => ?_)
set_option maxHeartbeats 8000000 in
set_option maxRecDepth 100000 in
theorem laws_FnPrUglyJoin.calls (k : Nat) (a0 : ByteArray) (a1 : ByteArray) (a2 : ByteArray) (a3 : ByteArray) (r : Bool) (w : World) (h : laws_FnPrUglyJoin.f k a0 a1 a2 a3 = some r) :
    Calls Try.prog 6 #[.string a0, .string a1, .string a2, .string a3] w fun e w' => e = .returned (.bool r) ∧ Below w.heap.size w w' := by
  have hu28 := Try.underlying28
  have HB := Aside0.mk (Below.refl w.heap.size w)
  have H : (if (a0.size : Int) > 2147483647 then (laws_FnPrUglyJoin.j0 k a0 a1 a2 a3 true) else (if (a1.size : Int) > 2147483647 then (laws_FnPrUglyJoin.j0 k a0 a1 a2 a3 true) else (if (a2.size : Int) > 2147483647 then (laws_FnPrUglyJoin.j0 k a0 a1 a2 a3 true) else (laws_FnPrUglyJoin.j0 k a0 a1 a2 a3 (decide ((a3.size : Int) > 2147483647)))))) = some r := h
  clear h
  have HC5 := Aside0.mk H
  clear H
  go_enter Try.func6, Try.ntmps6
  go_upto_region 1 with (fail)
  go_cut [34] (fun v34 wc => ∃ (kq : Nat) (x34_4 : Bool), v34 = .bool x34_4 ∧ Aside0 (laws_FnPrUglyJoin.j0 kq a0 a1 a2 a3 x34_4 = some r) ∧ Aside0 (kq ≤ k) ∧ Aside0 (Below w.heap.size w wc))
  case first =>
    have H := HC5.out
    clear HC5
    by_cases c6 : (a0.size : Int) > 2147483647
    · rw [if_pos c6] at H
      have c6b0 : decide (2147483647 < (a0.size : Int)) = true := decide_eq_true c6
      have c6b1 : decide (2147483647 < a0.size) = true := decide_eq_true (by omega)
      clear c6
      (first | rw [c6b0] | (simp only [i64_w, i32_w]; rw [c6b0]) | skip)
      have H' := Aside0.mk H
      clear H
      go_wp2
      go_meet
      case rel => exact ⟨_, (true), (by first | rfl | (simp; done) | (simp [*]; done)), H', ⟨by first | omega | exact Nat.le_refl _⟩, ⟨by repeat (first | (with_reducible first | exact HB.out | apply below_alloc | apply pw_below_drewN | apply below_drew1) | exact HB.out)⟩⟩
    · rw [if_neg c6] at H
      have c6b0 : decide (2147483647 < (a0.size : Int)) = false := decide_eq_false c6
      have c6b1 : decide (2147483647 < a0.size) = false := decide_eq_false (by omega)
      clear c6
      (first | rw [c6b0] | (simp only [i64_w, i32_w]; rw [c6b0]) | skip)
      by_cases c7 : (a1.size : Int) > 2147483647
      · rw [if_pos c7] at H
        have c7b0 : decide (2147483647 < (a1.size : Int)) = true := decide_eq_true c7
        have c7b1 : decide (2147483647 < a1.size) = true := decide_eq_true (by omega)
        clear c7
        have H' := Aside0.mk H
        clear H
        go_wp2
        go_meet
        case rel => exact ⟨_, (true), (by first | rfl | (simp; done) | (simp [*]; done)), H', ⟨by first | omega | exact Nat.le_refl _⟩, ⟨by repeat (first | (with_reducible first | exact HB.out | apply below_alloc | apply pw_below_drewN | apply below_drew1) | exact HB.out)⟩⟩
      · rw [if_neg c7] at H
        have c7b0 : decide (2147483647 < (a1.size : Int)) = false := decide_eq_false c7
        have c7b1 : decide (2147483647 < a1.size) = false := decide_eq_false (by omega)
        clear c7
        by_cases c8 : (a2.size : Int) > 2147483647
        · rw [if_pos c8] at H
          have c8b0 : decide (2147483647 < (a2.size : Int)) = true := decide_eq_true c8
          have c8b1 : decide (2147483647 < a2.size) = true := decide_eq_true (by omega)
          clear c8
          have H' := Aside0.mk H
          clear H
          go_wp2
          go_meet
          case rel => exact ⟨_, (true), (by first | rfl | (simp; done) | (simp [*]; done)), H', ⟨by first | omega | exact Nat.le_refl _⟩, ⟨by repeat (first | (with_reducible first | exact HB.out | apply below_alloc | apply pw_below_drewN | apply below_drew1) | exact HB.out)⟩⟩
        · rw [if_neg c8] at H
          have c8b0 : decide (2147483647 < (a2.size : Int)) = false := decide_eq_false c8
          have c8b1 : decide (2147483647 < a2.size) = false := decide_eq_false (by omega)
          clear c8
          have H' := Aside0.mk H
          clear H
          go_wp2
          go_meet
          case rel => exact ⟨_, (decide ((a3.size : Int) > 2147483647)), (by first | rfl | (simp; done) | (simp [*]; done)), H', ⟨by first | omega | exact Nat.le_refl _⟩, ⟨by repeat (first | (with_reducible first | exact HB.out | apply below_alloc | apply pw_below_drewN | apply below_drew1) | exact HB.out)⟩⟩
  case rest =>
    clear HC5
    try clear p2
    try clear c6
    try clear c6b0
    try clear c6b1
    try clear c7
    try clear c7b0
    try clear c7b1
    try clear c8
    try clear c8b0
    try clear c8b1
    obtain ⟨kq, x34_4, rfl, HA, HJ4, HB⟩ := hcut
    cases kq with
    | zero => exact absurd HA.out (by simp [laws_FnPrUglyJoin.j0])
    | succ kj4 =>
      have H := HA.out
      clear HA
      simp only [laws_FnPrUglyJoin.j0] at H
      by_cases c9 : x34_4 = true
      · subst c9
        have H1 : (some true) = some r := by rw [if_pos rfl] at H; exact H
        clear H
        have H := H1
        clear H1
        obtain rfl := Option.some.inj H
        go_wp2
        go_ret
        exact ⟨by first | rfl | (simp [errW_none, errW_some] <;> rfl) | (simp [*, errW_none, errW_some] <;> rfl), by repeat (first | (with_reducible first | exact HB.out | apply below_alloc | apply pw_below_drewN | apply below_drew1) | exact HB.out)⟩
      · replace c9 := Bool.eq_false_iff.mpr c9
        subst c9
        have H1 : ((laws_prPlaces.f kj4 a0).bind fun bt305 => ((laws_prPlaces.f kj4 a1).bind fun bt316 => (if bt305.2.2.2.2.2 = true then (if bt316.2.2.2.2.2 = true then (if (wrap64 ((wrap64 ((wrap64 ((a0.size : Int) + (a1.size : Int))) + (a2.size : Int))) + (a3.size : Int))) > 4096 then (laws_FnPrUglyJoin.j1 kj4 a0 a1 a2 a3 true) else ((spec_UTF8.f kj4 a2).bind fun t327 => (if t327 = true then ((spec_UTF8.f kj4 a3).bind fun t328 => (laws_FnPrUglyJoin.j1 kj4 a0 a1 a2 a3 (!t328))) else (laws_FnPrUglyJoin.j1 kj4 a0 a1 a2 a3 true)))) else (laws_FnPrUglyJoin.j1 kj4 a0 a1 a2 a3 true)) else (laws_FnPrUglyJoin.j1 kj4 a0 a1 a2 a3 true)))) = some r := by rw [if_neg (show ¬ (false = true) by decide)] at H; exact H
        clear H
        have H := H1
        clear H1
        replace H := Option.bind_eq_some_iff.mp H
        obtain ⟨⟨t305, t306, t307, t308, t311, t314⟩, A100, H⟩ := H
        replace H : ((laws_prPlaces.f kj4 a1).bind fun bt316 => (if t314 = true then (if bt316.2.2.2.2.2 = true then (if (wrap64 ((wrap64 ((wrap64 ((a0.size : Int) + (a1.size : Int))) + (a2.size : Int))) + (a3.size : Int))) > 4096 then (laws_FnPrUglyJoin.j1 kj4 a0 a1 a2 a3 true) else ((spec_UTF8.f kj4 a2).bind fun t327 => (if t327 = true then ((spec_UTF8.f kj4 a3).bind fun t328 => (laws_FnPrUglyJoin.j1 kj4 a0 a1 a2 a3 (!t328))) else (laws_FnPrUglyJoin.j1 kj4 a0 a1 a2 a3 true)))) else (laws_FnPrUglyJoin.j1 kj4 a0 a1 a2 a3 true)) else (laws_FnPrUglyJoin.j1 kj4 a0 a1 a2 a3 true))) = some r := H
        have A10 := Aside0.mk A100
        clear A100
        replace H := Option.bind_eq_some_iff.mp H
        obtain ⟨⟨t316, t317, t318, t319, t322, t325⟩, A110, H⟩ := H
        replace H : (if t314 = true then (if t325 = true then (if (wrap64 ((wrap64 ((wrap64 ((a0.size : Int) + (a1.size : Int))) + (a2.size : Int))) + (a3.size : Int))) > 4096 then (laws_FnPrUglyJoin.j1 kj4 a0 a1 a2 a3 true) else ((spec_UTF8.f kj4 a2).bind fun t327 => (if t327 = true then ((spec_UTF8.f kj4 a3).bind fun t328 => (laws_FnPrUglyJoin.j1 kj4 a0 a1 a2 a3 (!t328))) else (laws_FnPrUglyJoin.j1 kj4 a0 a1 a2 a3 true)))) else (laws_FnPrUglyJoin.j1 kj4 a0 a1 a2 a3 true)) else (laws_FnPrUglyJoin.j1 kj4 a0 a1 a2 a3 true)) = some r := H
        have A11 := Aside0.mk A110
        clear A110
        have HC12 := Aside0.mk H
        clear H
        go_upto_region 5 with (first | ((with_reducible refine gate_callee (f := 10) rfl ?_); refine goesL_ (some 37) rfl rfl Try.func10 (by kernel_rfl) rfl #[.string a0] rfl (by (try simp only [List.map_toArray, List.map_cons, List.map_nil]); first | done | rfl | (simp only [List.length_drop, List.length_take]; rfl)) ?_; (with_reducible refine (laws_prPlaces.calls kj4 a0 t305 t306 t307 t308 t311 t314 _ A10.out).mono ?_); rintro e w13 ⟨v309, v312, rfl, ho0, ho1, hb⟩; refine ⟨_, rfl, ?_⟩; have n0_ := Aside0.mk (Kd.R_lower ho0 (below_size (by repeat (first | (with_reducible first | exact HB.out | apply below_alloc | apply pw_below_drewN | apply below_drew1) | exact HB.out)))); have n1_ := Aside0.mk (Kd.R_lower ho1 (below_size (by repeat (first | (with_reducible first | exact HB.out | apply below_alloc | apply pw_below_drewN | apply below_drew1) | exact HB.out)))); have n2_ := Aside0.mk (below_step (by repeat (first | (with_reducible first | exact HB.out | apply below_alloc | apply pw_below_drewN | apply below_drew1) | exact HB.out)) hb); clear HB; have HO310 := n0_; have HO313 := n1_; have HB := n2_; clear n0_ n1_ n2_; (try clear hb); (try clear hb2); (try clear hk); (try clear hi); (try clear ho0); (try clear ho1)) | ((with_reducible refine gate_dst (N := 9) rfl ?_); (try (refine gate_guard (by rfl) ?_; dsimp only)); refine box_event ?hg (N := 9) ?hd (cs := #[.int .i64 0, .int .i64 0, .int .i64 0, .slice none 0 0, .slice none 0 0]) (t := 28) ?hr ?_; (case hd => rfl); (case hg => rfl); (case hr => first | (go_simp; done) | (go_simp; rfl)); intro gb315 hg w14 hbox hb; have n0_ := Aside0.mk (Kd.R_below (by (with_reducible repeat (first | apply Kd.R_alloc | apply Kd.R_drewN | apply Kd.R_drew)); exact HO310.out) hb); have n1_ := Aside0.mk (Kd.R_below (Kd.R_elderB (by (with_reducible repeat (first | apply Kd.R_alloc | apply Kd.R_drewN | apply Kd.R_drew)); exact HO313.out) gb315 (Nat.le_of_eq hg.symm)) hb); have n2_ := Aside0.mk (below_step (by repeat (first | (with_reducible first | exact HB.out | apply below_alloc | apply pw_below_drewN | apply below_drew1) | exact HB.out)) hb); have n3_ := Aside0.mk (hbox); have n4_ := Aside0.mk ((by rw [hg]; exact (below_size (by repeat (first | (with_reducible first | exact HB.out | apply below_alloc | apply pw_below_drewN | apply below_drew1) | exact HB.out))) : w.heap.size ≤ gb315)); have n5_ := Aside0.mk ((by rw [hg]; exact (below_size (by repeat (first | (with_reducible first | exact HB.out | apply below_alloc | apply pw_below_drewN | apply below_drew1) | exact HB.out))) : w.heap.size ≤ gb315)); clear HO310; clear HO313; clear HB; have HO310 := n0_; have HO313 := n1_; have HB := n2_; have BK315 := n3_; have GW315 := n4_; have GE315 := n5_; clear n0_ n1_ n2_ n3_ n4_ n5_; clear hb hbox hg; have hcz15_0 : w14.cell? ⟨gb315, 0, none⟩ = some (.int .i64 0) := (blk_cell BK315.out 0).trans rfl; have hcz15_1 : w14.cell? ⟨gb315, 1, none⟩ = some (.int .i64 0) := (blk_cell BK315.out 1).trans rfl; have hcz15_2 : w14.cell? ⟨gb315, 2, none⟩ = some (.int .i64 0) := (blk_cell BK315.out 2).trans rfl; have hcz15_3 : w14.cell? ⟨gb315, 3, none⟩ = some (.slice none 0 0) := (blk_cell BK315.out 3).trans rfl; have hcz15_4 : w14.cell? ⟨gb315, 4, none⟩ = some (.slice none 0 0) := (blk_cell BK315.out 4).trans rfl; have hfz15_0 := blk_frozen BK315.out 0; have hfz15_1 := blk_frozen BK315.out 1; have hfz15_2 := blk_frozen BK315.out 2; have hfz15_3 := blk_frozen BK315.out 3; have hfz15_4 := blk_frozen BK315.out 4; obtain ⟨Ao16, co16, eo16⟩ := Kd.R_slice HO310.out; subst eo16; obtain ⟨Ao17, co17, eo17⟩ := Kd.R_slice HO313.out; subst eo17) | ((with_reducible refine gate_callee (f := 10) rfl ?_); refine goesL_ (some 42) rfl rfl Try.func10 (by kernel_rfl) rfl #[.string a1] rfl (by (try simp only [List.map_toArray, List.map_cons, List.map_nil]); first | done | rfl | (simp only [List.length_drop, List.length_take]; rfl)) ?_; (with_reducible refine (laws_prPlaces.calls kj4 a1 t316 t317 t318 t319 t322 t325 _ A11.out).mono ?_); rintro e w18 ⟨v320, v323, rfl, ho0, ho1, hb⟩; refine ⟨_, rfl, ?_⟩; have n0_ := Aside0.mk (Kd.R_elder' (by (with_reducible repeat (first | apply Kd.R_alloc | apply Kd.R_drewN | apply Kd.R_drew)); exact (Kd.R_mono (Kd.R_far (p := ⟨gb315, 4, none⟩) (Kd.R_far (p := ⟨gb315, 3, none⟩) (Kd.R_far (p := ⟨gb315, 2, none⟩) (Kd.R_far (p := ⟨gb315, 1, none⟩) (Kd.R_far (p := ⟨gb315, 0, none⟩) (Kd.R_types HO310.out BK315.out (by decide)) (fun _ hk => hk.2) (.int .i64 t305)) (fun _ hk => hk.2) (.int .i64 t306)) (fun _ hk => hk.2) (.int .i64 t307)) (fun _ hk => hk.2) (.slice Ao16 t308.length co16)) (fun _ hk => hk.2) (.slice Ao17 t311.length co17)) (fun _ h_ => h_.1))) (Kd.R_base ho0) hb); have n1_ := Aside0.mk (Kd.R_mono (Kd.R_told (Kd.R_told (Kd.R_old (by (with_reducible repeat (first | apply Kd.R_alloc | apply Kd.R_drewN | apply Kd.R_drew)); exact (Kd.R_mono (Kd.R_far (p := ⟨gb315, 4, none⟩) (Kd.R_far (p := ⟨gb315, 3, none⟩) (Kd.R_far (p := ⟨gb315, 2, none⟩) (Kd.R_far (p := ⟨gb315, 1, none⟩) (Kd.R_far (p := ⟨gb315, 0, none⟩) (Kd.R_mono HO313.out (fun k_ hk => (⟨hk, hk.2⟩ : _ ∧ k_ ≠ gb315))) (fun _ hk => hk.2) (.int .i64 t305)) (fun _ hk => hk.2) (.int .i64 t306)) (fun _ hk => hk.2) (.int .i64 t307)) (fun _ hk => hk.2) (.slice Ao16 t308.length co16)) (fun _ hk => hk.2) (.slice Ao17 t311.length co17)) (fun _ h_ => h_.1))) hb) (Kd.R_base ho0)) (Kd.R_base ho1)) (fun _ h_ => h_.1)); have n2_ := Aside0.mk (Kd.R_lower (Kd.R_new' ho0 (Kd.R_lt (by (with_reducible repeat (first | apply Kd.R_alloc | apply Kd.R_drewN | apply Kd.R_drew)); exact (Kd.R_mono (Kd.R_far (p := ⟨gb315, 4, none⟩) (Kd.R_far (p := ⟨gb315, 3, none⟩) (Kd.R_far (p := ⟨gb315, 2, none⟩) (Kd.R_far (p := ⟨gb315, 1, none⟩) (Kd.R_far (p := ⟨gb315, 0, none⟩) (Kd.R_types HO310.out BK315.out (by decide)) (fun _ hk => hk.2) (.int .i64 t305)) (fun _ hk => hk.2) (.int .i64 t306)) (fun _ hk => hk.2) (.int .i64 t307)) (fun _ hk => hk.2) (.slice Ao16 t308.length co16)) (fun _ hk => hk.2) (.slice Ao17 t311.length co17)) (fun _ h_ => h_.1))))) (below_size (by repeat (first | (with_reducible first | exact HB.out | apply below_alloc | apply pw_below_drewN | apply below_drew1 | refine below_set ?_ GE315.out) | exact HB.out)))); have n3_ := Aside0.mk (Kd.R_lower (Kd.R_newB (Kd.R_new' (Kd.R_new' ho1 (Kd.R_lt (by (with_reducible repeat (first | apply Kd.R_alloc | apply Kd.R_drewN | apply Kd.R_drew)); exact (Kd.R_mono (Kd.R_far (p := ⟨gb315, 4, none⟩) (Kd.R_far (p := ⟨gb315, 3, none⟩) (Kd.R_far (p := ⟨gb315, 2, none⟩) (Kd.R_far (p := ⟨gb315, 1, none⟩) (Kd.R_far (p := ⟨gb315, 0, none⟩) (Kd.R_types HO310.out BK315.out (by decide)) (fun _ hk => hk.2) (.int .i64 t305)) (fun _ hk => hk.2) (.int .i64 t306)) (fun _ hk => hk.2) (.int .i64 t307)) (fun _ hk => hk.2) (.slice Ao16 t308.length co16)) (fun _ hk => hk.2) (.slice Ao17 t311.length co17)) (fun _ h_ => h_.1))))) (Kd.R_lt (by (with_reducible repeat (first | apply Kd.R_alloc | apply Kd.R_drewN | apply Kd.R_drew)); exact (Kd.R_mono (Kd.R_far (p := ⟨gb315, 4, none⟩) (Kd.R_far (p := ⟨gb315, 3, none⟩) (Kd.R_far (p := ⟨gb315, 2, none⟩) (Kd.R_far (p := ⟨gb315, 1, none⟩) (Kd.R_far (p := ⟨gb315, 0, none⟩) (Kd.R_mono HO313.out (fun k_ hk => (⟨hk, hk.2⟩ : _ ∧ k_ ≠ gb315))) (fun _ hk => hk.2) (.int .i64 t305)) (fun _ hk => hk.2) (.int .i64 t306)) (fun _ hk => hk.2) (.int .i64 t307)) (fun _ hk => hk.2) (.slice Ao16 t308.length co16)) (fun _ hk => hk.2) (.slice Ao17 t311.length co17)) (fun _ h_ => h_.1))))) (g := gb315) (o := .cells #[.int .i64 t305, .int .i64 t306, .int .i64 t307, .slice Ao16 t308.length co16, .slice Ao17 t311.length co17] 28 (0, 0)) (by (with_reducible repeat (first | refine blk_drewN ?_ _ | refine blk_drew ?_ | refine blk_alloc ?_ _)); refine blk_put (cs := #[.int .i64 t305, .int .i64 t306, .int .i64 t307, .slice Ao16 t308.length co16, .slice none 0 0]) ?_ 4 _ rfl; (with_reducible repeat (first | refine blk_drewN ?_ _ | refine blk_drew ?_ | refine blk_alloc ?_ _)); refine blk_put (cs := #[.int .i64 t305, .int .i64 t306, .int .i64 t307, .slice none 0 0, .slice none 0 0]) ?_ 3 _ rfl; (with_reducible repeat (first | refine blk_drewN ?_ _ | refine blk_drew ?_ | refine blk_alloc ?_ _)); refine blk_put (cs := #[.int .i64 t305, .int .i64 t306, .int .i64 0, .slice none 0 0, .slice none 0 0]) ?_ 2 _ rfl; (with_reducible repeat (first | refine blk_drewN ?_ _ | refine blk_drew ?_ | refine blk_alloc ?_ _)); refine blk_put (cs := #[.int .i64 t305, .int .i64 0, .int .i64 0, .slice none 0 0, .slice none 0 0]) ?_ 1 _ rfl; (with_reducible repeat (first | refine blk_drewN ?_ _ | refine blk_drew ?_ | refine blk_alloc ?_ _)); refine blk_put (cs := #[.int .i64 0, .int .i64 0, .int .i64 0, .slice none 0 0, .slice none 0 0]) ?_ 0 _ rfl; (with_reducible repeat (first | refine blk_drewN ?_ _ | refine blk_drew ?_ | refine blk_alloc ?_ _)); exact BK315.out)) (below_size (by repeat (first | (with_reducible first | exact HB.out | apply below_alloc | apply pw_below_drewN | apply below_drew1 | refine below_set ?_ GE315.out) | exact HB.out)))); have n4_ := Aside0.mk (blk_below (g := gb315) (o := .cells #[.int .i64 t305, .int .i64 t306, .int .i64 t307, .slice Ao16 t308.length co16, .slice Ao17 t311.length co17] 28 (0, 0)) (by (with_reducible repeat (first | refine blk_drewN ?_ _ | refine blk_drew ?_ | refine blk_alloc ?_ _)); refine blk_put (cs := #[.int .i64 t305, .int .i64 t306, .int .i64 t307, .slice Ao16 t308.length co16, .slice none 0 0]) ?_ 4 _ rfl; (with_reducible repeat (first | refine blk_drewN ?_ _ | refine blk_drew ?_ | refine blk_alloc ?_ _)); refine blk_put (cs := #[.int .i64 t305, .int .i64 t306, .int .i64 t307, .slice none 0 0, .slice none 0 0]) ?_ 3 _ rfl; (with_reducible repeat (first | refine blk_drewN ?_ _ | refine blk_drew ?_ | refine blk_alloc ?_ _)); refine blk_put (cs := #[.int .i64 t305, .int .i64 t306, .int .i64 0, .slice none 0 0, .slice none 0 0]) ?_ 2 _ rfl; (with_reducible repeat (first | refine blk_drewN ?_ _ | refine blk_drew ?_ | refine blk_alloc ?_ _)); refine blk_put (cs := #[.int .i64 t305, .int .i64 0, .int .i64 0, .slice none 0 0, .slice none 0 0]) ?_ 1 _ rfl; (with_reducible repeat (first | refine blk_drewN ?_ _ | refine blk_drew ?_ | refine blk_alloc ?_ _)); refine blk_put (cs := #[.int .i64 0, .int .i64 0, .int .i64 0, .slice none 0 0, .slice none 0 0]) ?_ 0 _ rfl; (with_reducible repeat (first | refine blk_drewN ?_ _ | refine blk_drew ?_ | refine blk_alloc ?_ _)); exact BK315.out) hb); have n5_ := Aside0.mk (below_step (by repeat (first | (with_reducible first | exact HB.out | apply below_alloc | apply pw_below_drewN | apply below_drew1 | refine below_set ?_ GE315.out) | exact HB.out)) hb); clear HO310; clear HO313; clear BK315; clear HB; have HO310 := n0_; have HO313 := n1_; have HO321 := n2_; have HO324 := n3_; have BK315 := n4_; have HB := n5_; clear n0_ n1_ n2_ n3_ n4_ n5_; (try clear hb); (try clear hb2); (try clear hk); (try clear hi); (try clear ho0); (try clear ho1)) | ((with_reducible refine gate_dst (N := 11) rfl ?_); (try (refine gate_guard (by rfl) ?_; dsimp only)); refine box_event ?hg (N := 11) ?hd (cs := #[.int .i64 0, .int .i64 0, .int .i64 0, .slice none 0 0, .slice none 0 0]) (t := 28) ?hr ?_; (case hd => rfl); (case hg => rfl); (case hr => first | (go_simp; done) | (go_simp; rfl)); intro gb326 hg w19 hbox hb; have n0_ := Aside0.mk (Kd.R_below (by (with_reducible repeat (first | apply Kd.R_alloc | apply Kd.R_drewN | apply Kd.R_drew)); exact HO310.out) hb); have n1_ := Aside0.mk (Kd.R_below (Kd.R_elderB (by (with_reducible repeat (first | apply Kd.R_alloc | apply Kd.R_drewN | apply Kd.R_drew)); exact HO313.out) gb326 (Nat.le_of_eq hg.symm)) hb); have n2_ := Aside0.mk (Kd.R_below (by (with_reducible repeat (first | apply Kd.R_alloc | apply Kd.R_drewN | apply Kd.R_drew)); exact HO321.out) hb); have n3_ := Aside0.mk (Kd.R_below (Kd.R_elderB (by (with_reducible repeat (first | apply Kd.R_alloc | apply Kd.R_drewN | apply Kd.R_drew)); exact HO324.out) gb326 (Nat.le_of_eq hg.symm)) hb); have n4_ := Aside0.mk (blk_below (g := gb315) (o := .cells #[.int .i64 t305, .int .i64 t306, .int .i64 t307, .slice Ao16 t308.length co16, .slice Ao17 t311.length co17] 28 (0, 0)) (by (with_reducible repeat (first | refine blk_drewN ?_ _ | refine blk_drew ?_ | refine blk_alloc ?_ _)); exact BK315.out) hb); have n5_ := Aside0.mk (below_step (by repeat (first | (with_reducible first | exact HB.out | apply below_alloc | apply pw_below_drewN | apply below_drew1 | refine below_set ?_ GE315.out) | exact HB.out)) hb); have n6_ := Aside0.mk (hbox); have n7_ := Aside0.mk ((by rw [hg]; exact (below_size (by repeat (first | (with_reducible first | exact HB.out | apply below_alloc | apply pw_below_drewN | apply below_drew1 | refine below_set ?_ GE315.out) | exact HB.out))) : w.heap.size ≤ gb326)); have n8_ := Aside0.mk ((by rw [hg]; exact (below_size (by repeat (first | (with_reducible first | exact HB.out | apply below_alloc | apply pw_below_drewN | apply below_drew1 | refine below_set ?_ GE315.out) | exact HB.out))) : w.heap.size ≤ gb326)); have n9_ := Aside0.mk ((by rw [hg]; exact Nat.ne_of_lt (blk_lt (g := gb315) (o := .cells #[.int .i64 t305, .int .i64 t306, .int .i64 t307, .slice Ao16 t308.length co16, .slice Ao17 t311.length co17] 28 (0, 0)) (by (with_reducible repeat (first | refine blk_drewN ?_ _ | refine blk_drew ?_ | refine blk_alloc ?_ _)); exact BK315.out)) : gb315 ≠ gb326)); have n10_ := Aside0.mk ((by rw [hg]; exact Nat.ne_of_gt (blk_lt (g := gb315) (o := .cells #[.int .i64 t305, .int .i64 t306, .int .i64 t307, .slice Ao16 t308.length co16, .slice Ao17 t311.length co17] 28 (0, 0)) (by (with_reducible repeat (first | refine blk_drewN ?_ _ | refine blk_drew ?_ | refine blk_alloc ?_ _)); exact BK315.out)) : gb326 ≠ gb315)); clear HO310; clear HO313; clear HO321; clear HO324; clear BK315; clear HB; have HO310 := n0_; have HO313 := n1_; have HO321 := n2_; have HO324 := n3_; have BK315 := n4_; have HB := n5_; have BK326 := n6_; have GW326 := n7_; have GE326 := n8_; have NB315_326 := n9_; have NB326_315 := n10_; clear n0_ n1_ n2_ n3_ n4_ n5_ n6_ n7_ n8_ n9_ n10_; clear hb hbox hg; have hnb20 := NB326_315.out; have hnc20 := NB315_326.out; have hcz21_0 : w19.cell? ⟨gb326, 0, none⟩ = some (.int .i64 0) := (blk_cell BK326.out 0).trans rfl; have hcz21_1 : w19.cell? ⟨gb326, 1, none⟩ = some (.int .i64 0) := (blk_cell BK326.out 1).trans rfl; have hcz21_2 : w19.cell? ⟨gb326, 2, none⟩ = some (.int .i64 0) := (blk_cell BK326.out 2).trans rfl; have hcz21_3 : w19.cell? ⟨gb326, 3, none⟩ = some (.slice none 0 0) := (blk_cell BK326.out 3).trans rfl; have hcz21_4 : w19.cell? ⟨gb326, 4, none⟩ = some (.slice none 0 0) := (blk_cell BK326.out 4).trans rfl; have hfz21_0 := blk_frozen BK326.out 0; have hfz21_1 := blk_frozen BK326.out 1; have hfz21_2 := blk_frozen BK326.out 2; have hfz21_3 := blk_frozen BK326.out 3; have hfz21_4 := blk_frozen BK326.out 4; obtain ⟨Ao22, co22, eo22⟩ := Kd.R_slice HO321.out; subst eo22; obtain ⟨Ao23, co23, eo23⟩ := Kd.R_slice HO324.out; subst eo23))
        (try simp only [Act.put, List.setIfInBounds_toArray, List.set_cons_zero, List.set_cons_succ])
        go_cut [74] (fun v74 wc => ∃ (kq : Nat) (x74_11 : Bool), v74 = .bool x74_11 ∧ Aside0 (laws_FnPrUglyJoin.j1 kq a0 a1 a2 a3 x74_11 = some r) ∧ Aside0 (kq ≤ kj4) ∧ Aside0 (Kd.R k55 55 wc w.heap.size (fun k_ => some k_ ≠ ((.slice Ao22 t319.length co22) : Value).ownBlock) (.slice Ao16 t308.length co16) t308) ∧ Aside0 (Kd.R k28 28 wc w.heap.size (fun k_ => some k_ ≠ ((.slice Ao16 t308.length co16) : Value).ownBlock ∧ some k_ ≠ ((.slice Ao22 t319.length co22) : Value).ownBlock ∧ some k_ ≠ ((.slice Ao23 t322.length co23) : Value).ownBlock ∧ k_ ≠ gb315 ∧ k_ ≠ gb326) (.slice Ao17 t311.length co17) t311) ∧ Aside0 (Kd.R k55 55 wc w.heap.size (fun k_ => some k_ ≠ ((.slice Ao16 t308.length co16) : Value).ownBlock) (.slice Ao22 t319.length co22) t319) ∧ Aside0 (Kd.R k28 28 wc w.heap.size (fun k_ => some k_ ≠ ((.slice Ao16 t308.length co16) : Value).ownBlock ∧ some k_ ≠ ((.slice Ao17 t311.length co17) : Value).ownBlock ∧ some k_ ≠ ((.slice Ao22 t319.length co22) : Value).ownBlock ∧ k_ ≠ gb315 ∧ k_ ≠ gb326) (.slice Ao23 t322.length co23) t322) ∧ Aside0 (wc.heap[gb315]? = some (.cells #[.int .i64 t305, .int .i64 t306, .int .i64 t307, (.slice Ao16 t308.length co16), (.slice Ao17 t311.length co17)] 28 (0, 0))) ∧ Aside0 (wc.heap[gb326]? = some (.cells #[.int .i64 t316, .int .i64 t317, .int .i64 t318, (.slice Ao22 t319.length co22), (.slice Ao23 t322.length co23)] 28 (0, 0))) ∧ Aside0 (Below w.heap.size w wc))
        case first =>
          have H := HC12.out
          clear HC12
          by_cases c24 : t314 = true
          · subst c24
            have H1 : (if t325 = true then (if (wrap64 ((wrap64 ((wrap64 ((a0.size : Int) + (a1.size : Int))) + (a2.size : Int))) + (a3.size : Int))) > 4096 then (laws_FnPrUglyJoin.j1 kj4 a0 a1 a2 a3 true) else ((spec_UTF8.f kj4 a2).bind fun t327 => (if t327 = true then ((spec_UTF8.f kj4 a3).bind fun t328 => (laws_FnPrUglyJoin.j1 kj4 a0 a1 a2 a3 (!t328))) else (laws_FnPrUglyJoin.j1 kj4 a0 a1 a2 a3 true)))) else (laws_FnPrUglyJoin.j1 kj4 a0 a1 a2 a3 true)) = some r := by rw [if_pos rfl] at H; exact H
            clear H
            have H := H1
            clear H1
            by_cases c25 : t325 = true
            · subst c25
              have H1 : (if (wrap64 ((wrap64 ((wrap64 ((a0.size : Int) + (a1.size : Int))) + (a2.size : Int))) + (a3.size : Int))) > 4096 then (laws_FnPrUglyJoin.j1 kj4 a0 a1 a2 a3 true) else ((spec_UTF8.f kj4 a2).bind fun t327 => (if t327 = true then ((spec_UTF8.f kj4 a3).bind fun t328 => (laws_FnPrUglyJoin.j1 kj4 a0 a1 a2 a3 (!t328))) else (laws_FnPrUglyJoin.j1 kj4 a0 a1 a2 a3 true)))) = some r := by rw [if_pos rfl] at H; exact H
              clear H
              have H := H1
              clear H1
              by_cases c26 : (wrap64 ((wrap64 ((wrap64 ((a0.size : Int) + (a1.size : Int))) + (a2.size : Int))) + (a3.size : Int))) > 4096
              · rw [if_pos c26] at H
                have c26b0 : decide (4096 < (wrap64 ((wrap64 ((wrap64 ((a0.size : Int) + (a1.size : Int))) + (a2.size : Int))) + (a3.size : Int)))) = true := decide_eq_true c26
                clear c26
                (first | rw [c26b0] | (simp only [i64_w, i32_w]; rw [c26b0]) | skip)
                have H' := Aside0.mk H
                clear H
                go_wp2
                go_meet
                case rel => exact ⟨_, (true), (by first | rfl | (simp; done) | (simp [*]; done)), H', ⟨by have := HJ4.out; first | omega | exact Nat.le_refl _⟩, ⟨by (with_reducible repeat (first | apply Kd.R_alloc | apply Kd.R_drewN | apply Kd.R_drew)); exact Kd.R_mono (Kd.R_far (p := ⟨gb326, 4, none⟩) (Kd.R_far (p := ⟨gb326, 3, none⟩) (Kd.R_far (p := ⟨gb326, 2, none⟩) (Kd.R_far (p := ⟨gb326, 1, none⟩) (Kd.R_far (p := ⟨gb326, 0, none⟩) (Kd.R_types HO310.out BK326.out (by decide)) (fun _ hk => hk.2) (.int .i64 t316)) (fun _ hk => hk.2) (.int .i64 t317)) (fun _ hk => hk.2) (.int .i64 t318)) (fun _ hk => hk.2) (.slice Ao22 t319.length co22)) (fun _ hk => hk.2) (.slice Ao23 t322.length co23)) (fun _ hk => hk.1.2)⟩, ⟨by (with_reducible repeat (first | apply Kd.R_alloc | apply Kd.R_drewN | apply Kd.R_drew)); exact Kd.R_mono (Kd.R_far (p := ⟨gb326, 4, none⟩) (Kd.R_far (p := ⟨gb326, 3, none⟩) (Kd.R_far (p := ⟨gb326, 2, none⟩) (Kd.R_far (p := ⟨gb326, 1, none⟩) (Kd.R_far (p := ⟨gb326, 0, none⟩) (Kd.R_mono HO313.out (fun k_ hk => (⟨hk, hk.2⟩ : _ ∧ k_ ≠ gb326))) (fun _ hk => hk.2) (.int .i64 t316)) (fun _ hk => hk.2) (.int .i64 t317)) (fun _ hk => hk.2) (.int .i64 t318)) (fun _ hk => hk.2) (.slice Ao22 t319.length co22)) (fun _ hk => hk.2) (.slice Ao23 t322.length co23)) (fun _ hk => ⟨hk.1.1.1.1.1, ⟨hk.1.1.1.2, ⟨hk.1.1.2, ⟨hk.1.1.1.1.2, hk.1.2⟩⟩⟩⟩)⟩, ⟨by (with_reducible repeat (first | apply Kd.R_alloc | apply Kd.R_drewN | apply Kd.R_drew)); exact Kd.R_mono (Kd.R_far (p := ⟨gb326, 4, none⟩) (Kd.R_far (p := ⟨gb326, 3, none⟩) (Kd.R_far (p := ⟨gb326, 2, none⟩) (Kd.R_far (p := ⟨gb326, 1, none⟩) (Kd.R_far (p := ⟨gb326, 0, none⟩) (Kd.R_types HO321.out BK326.out (by decide)) (fun _ hk => hk.2) (.int .i64 t316)) (fun _ hk => hk.2) (.int .i64 t317)) (fun _ hk => hk.2) (.int .i64 t318)) (fun _ hk => hk.2) (.slice Ao22 t319.length co22)) (fun _ hk => hk.2) (.slice Ao23 t322.length co23)) (fun _ hk => hk.1.2)⟩, ⟨by (with_reducible repeat (first | apply Kd.R_alloc | apply Kd.R_drewN | apply Kd.R_drew)); exact Kd.R_mono (Kd.R_far (p := ⟨gb326, 4, none⟩) (Kd.R_far (p := ⟨gb326, 3, none⟩) (Kd.R_far (p := ⟨gb326, 2, none⟩) (Kd.R_far (p := ⟨gb326, 1, none⟩) (Kd.R_far (p := ⟨gb326, 0, none⟩) (Kd.R_mono HO324.out (fun k_ hk => (⟨hk, hk.2⟩ : _ ∧ k_ ≠ gb326))) (fun _ hk => hk.2) (.int .i64 t316)) (fun _ hk => hk.2) (.int .i64 t317)) (fun _ hk => hk.2) (.int .i64 t318)) (fun _ hk => hk.2) (.slice Ao22 t319.length co22)) (fun _ hk => hk.2) (.slice Ao23 t322.length co23)) (fun _ hk => ⟨hk.1.1.1.1.2, ⟨hk.1.1.1.2, ⟨hk.1.1.1.1.1, ⟨hk.1.1.2, hk.1.2⟩⟩⟩⟩)⟩, ⟨by (with_reducible repeat (first | refine blk_drewN ?_ _ | refine blk_drew ?_ | refine blk_alloc ?_ _)); refine blk_far ?_ NB315_326.out _; (with_reducible repeat (first | refine blk_drewN ?_ _ | refine blk_drew ?_ | refine blk_alloc ?_ _)); refine blk_far ?_ NB315_326.out _; (with_reducible repeat (first | refine blk_drewN ?_ _ | refine blk_drew ?_ | refine blk_alloc ?_ _)); refine blk_far ?_ NB315_326.out _; (with_reducible repeat (first | refine blk_drewN ?_ _ | refine blk_drew ?_ | refine blk_alloc ?_ _)); refine blk_far ?_ NB315_326.out _; (with_reducible repeat (first | refine blk_drewN ?_ _ | refine blk_drew ?_ | refine blk_alloc ?_ _)); refine blk_far ?_ NB315_326.out _; (with_reducible repeat (first | refine blk_drewN ?_ _ | refine blk_drew ?_ | refine blk_alloc ?_ _)); exact BK315.out⟩, ⟨by (with_reducible repeat (first | refine blk_drewN ?_ _ | refine blk_drew ?_ | refine blk_alloc ?_ _)); refine blk_put (cs := #[.int .i64 t316, .int .i64 t317, .int .i64 t318, .slice Ao22 t319.length co22, .slice none 0 0]) ?_ 4 _ rfl; (with_reducible repeat (first | refine blk_drewN ?_ _ | refine blk_drew ?_ | refine blk_alloc ?_ _)); refine blk_put (cs := #[.int .i64 t316, .int .i64 t317, .int .i64 t318, .slice none 0 0, .slice none 0 0]) ?_ 3 _ rfl; (with_reducible repeat (first | refine blk_drewN ?_ _ | refine blk_drew ?_ | refine blk_alloc ?_ _)); refine blk_put (cs := #[.int .i64 t316, .int .i64 t317, .int .i64 0, .slice none 0 0, .slice none 0 0]) ?_ 2 _ rfl; (with_reducible repeat (first | refine blk_drewN ?_ _ | refine blk_drew ?_ | refine blk_alloc ?_ _)); refine blk_put (cs := #[.int .i64 t316, .int .i64 0, .int .i64 0, .slice none 0 0, .slice none 0 0]) ?_ 1 _ rfl; (with_reducible repeat (first | refine blk_drewN ?_ _ | refine blk_drew ?_ | refine blk_alloc ?_ _)); refine blk_put (cs := #[.int .i64 0, .int .i64 0, .int .i64 0, .slice none 0 0, .slice none 0 0]) ?_ 0 _ rfl; (with_reducible repeat (first | refine blk_drewN ?_ _ | refine blk_drew ?_ | refine blk_alloc ?_ _)); exact BK326.out⟩, ⟨by repeat (first | (with_reducible first | exact HB.out | apply below_alloc | apply pw_below_drewN | apply below_drew1 | refine below_set ?_ GE315.out | refine below_set ?_ GE326.out) | exact HB.out)⟩⟩
              · rw [if_neg c26] at H
                have c26b0 : decide (4096 < (wrap64 ((wrap64 ((wrap64 ((a0.size : Int) + (a1.size : Int))) + (a2.size : Int))) + (a3.size : Int)))) = false := decide_eq_false c26
                clear c26
                (first | rw [c26b0] | (simp only [i64_w, i32_w]; rw [c26b0]) | skip)
                replace H := Option.bind_eq_some_iff.mp H
                obtain ⟨t327, A270, H⟩ := H
                replace H : (if t327 = true then ((spec_UTF8.f kj4 a3).bind fun t328 => (laws_FnPrUglyJoin.j1 kj4 a0 a1 a2 a3 (!t328))) else (laws_FnPrUglyJoin.j1 kj4 a0 a1 a2 a3 true)) = some r := H
                have A27 := Aside0.mk A270
                clear A270
                by_cases c28 : t327 = true
                · subst c28
                  have H1 : ((spec_UTF8.f kj4 a3).bind fun t328 => (laws_FnPrUglyJoin.j1 kj4 a0 a1 a2 a3 (!t328))) = some r := by rw [if_pos rfl] at H; exact H
                  clear H
                  have H := H1
                  clear H1
                  replace H := Option.bind_eq_some_iff.mp H
                  obtain ⟨t328, A290, H⟩ := H
                  replace H : (laws_FnPrUglyJoin.j1 kj4 a0 a1 a2 a3 (!t328)) = some r := H
                  have A29 := Aside0.mk A290
                  clear A290
                  have H' := Aside0.mk H
                  clear H
                  go_wp2_with (first | (go_at_call 14; (with_reducible refine (spec_UTF8.calls kj4 a2 true _ A27.out).mono ?_); rintro e w' ⟨rfl, ⟨nd, rfl⟩⟩) | (go_at_call 14; (with_reducible refine (spec_UTF8.calls kj4 a3 t328 _ A29.out).mono ?_); rintro e w' ⟨rfl, ⟨nd, rfl⟩⟩))
                  go_meet
                  case rel => exact ⟨_, (!t328), (by first | rfl | (simp; done) | (simp [*]; done)), H', ⟨by have := HJ4.out; first | omega | exact Nat.le_refl _⟩, ⟨by (with_reducible repeat (first | apply Kd.R_alloc | apply Kd.R_drewN | apply Kd.R_drew)); exact Kd.R_mono (Kd.R_far (p := ⟨gb326, 4, none⟩) (Kd.R_far (p := ⟨gb326, 3, none⟩) (Kd.R_far (p := ⟨gb326, 2, none⟩) (Kd.R_far (p := ⟨gb326, 1, none⟩) (Kd.R_far (p := ⟨gb326, 0, none⟩) (Kd.R_types HO310.out BK326.out (by decide)) (fun _ hk => hk.2) (.int .i64 t316)) (fun _ hk => hk.2) (.int .i64 t317)) (fun _ hk => hk.2) (.int .i64 t318)) (fun _ hk => hk.2) (.slice Ao22 t319.length co22)) (fun _ hk => hk.2) (.slice Ao23 t322.length co23)) (fun _ hk => hk.1.2)⟩, ⟨by (with_reducible repeat (first | apply Kd.R_alloc | apply Kd.R_drewN | apply Kd.R_drew)); exact Kd.R_mono (Kd.R_far (p := ⟨gb326, 4, none⟩) (Kd.R_far (p := ⟨gb326, 3, none⟩) (Kd.R_far (p := ⟨gb326, 2, none⟩) (Kd.R_far (p := ⟨gb326, 1, none⟩) (Kd.R_far (p := ⟨gb326, 0, none⟩) (Kd.R_mono HO313.out (fun k_ hk => (⟨hk, hk.2⟩ : _ ∧ k_ ≠ gb326))) (fun _ hk => hk.2) (.int .i64 t316)) (fun _ hk => hk.2) (.int .i64 t317)) (fun _ hk => hk.2) (.int .i64 t318)) (fun _ hk => hk.2) (.slice Ao22 t319.length co22)) (fun _ hk => hk.2) (.slice Ao23 t322.length co23)) (fun _ hk => ⟨hk.1.1.1.1.1, ⟨hk.1.1.1.2, ⟨hk.1.1.2, ⟨hk.1.1.1.1.2, hk.1.2⟩⟩⟩⟩)⟩, ⟨by (with_reducible repeat (first | apply Kd.R_alloc | apply Kd.R_drewN | apply Kd.R_drew)); exact Kd.R_mono (Kd.R_far (p := ⟨gb326, 4, none⟩) (Kd.R_far (p := ⟨gb326, 3, none⟩) (Kd.R_far (p := ⟨gb326, 2, none⟩) (Kd.R_far (p := ⟨gb326, 1, none⟩) (Kd.R_far (p := ⟨gb326, 0, none⟩) (Kd.R_types HO321.out BK326.out (by decide)) (fun _ hk => hk.2) (.int .i64 t316)) (fun _ hk => hk.2) (.int .i64 t317)) (fun _ hk => hk.2) (.int .i64 t318)) (fun _ hk => hk.2) (.slice Ao22 t319.length co22)) (fun _ hk => hk.2) (.slice Ao23 t322.length co23)) (fun _ hk => hk.1.2)⟩, ⟨by (with_reducible repeat (first | apply Kd.R_alloc | apply Kd.R_drewN | apply Kd.R_drew)); exact Kd.R_mono (Kd.R_far (p := ⟨gb326, 4, none⟩) (Kd.R_far (p := ⟨gb326, 3, none⟩) (Kd.R_far (p := ⟨gb326, 2, none⟩) (Kd.R_far (p := ⟨gb326, 1, none⟩) (Kd.R_far (p := ⟨gb326, 0, none⟩) (Kd.R_mono HO324.out (fun k_ hk => (⟨hk, hk.2⟩ : _ ∧ k_ ≠ gb326))) (fun _ hk => hk.2) (.int .i64 t316)) (fun _ hk => hk.2) (.int .i64 t317)) (fun _ hk => hk.2) (.int .i64 t318)) (fun _ hk => hk.2) (.slice Ao22 t319.length co22)) (fun _ hk => hk.2) (.slice Ao23 t322.length co23)) (fun _ hk => ⟨hk.1.1.1.1.2, ⟨hk.1.1.1.2, ⟨hk.1.1.1.1.1, ⟨hk.1.1.2, hk.1.2⟩⟩⟩⟩)⟩, ⟨by (with_reducible repeat (first | refine blk_drewN ?_ _ | refine blk_drew ?_ | refine blk_alloc ?_ _)); refine blk_far ?_ NB315_326.out _; (with_reducible repeat (first | refine blk_drewN ?_ _ | refine blk_drew ?_ | refine blk_alloc ?_ _)); refine blk_far ?_ NB315_326.out _; (with_reducible repeat (first | refine blk_drewN ?_ _ | refine blk_drew ?_ | refine blk_alloc ?_ _)); refine blk_far ?_ NB315_326.out _; (with_reducible repeat (first | refine blk_drewN ?_ _ | refine blk_drew ?_ | refine blk_alloc ?_ _)); refine blk_far ?_ NB315_326.out _; (with_reducible repeat (first | refine blk_drewN ?_ _ | refine blk_drew ?_ | refine blk_alloc ?_ _)); refine blk_far ?_ NB315_326.out _; (with_reducible repeat (first | refine blk_drewN ?_ _ | refine blk_drew ?_ | refine blk_alloc ?_ _)); exact BK315.out⟩, ⟨by (with_reducible repeat (first | refine blk_drewN ?_ _ | refine blk_drew ?_ | refine blk_alloc ?_ _)); refine blk_put (cs := #[.int .i64 t316, .int .i64 t317, .int .i64 t318, .slice Ao22 t319.length co22, .slice none 0 0]) ?_ 4 _ rfl; (with_reducible repeat (first | refine blk_drewN ?_ _ | refine blk_drew ?_ | refine blk_alloc ?_ _)); refine blk_put (cs := #[.int .i64 t316, .int .i64 t317, .int .i64 t318, .slice none 0 0, .slice none 0 0]) ?_ 3 _ rfl; (with_reducible repeat (first | refine blk_drewN ?_ _ | refine blk_drew ?_ | refine blk_alloc ?_ _)); refine blk_put (cs := #[.int .i64 t316, .int .i64 t317, .int .i64 0, .slice none 0 0, .slice none 0 0]) ?_ 2 _ rfl; (with_reducible repeat (first | refine blk_drewN ?_ _ | refine blk_drew ?_ | refine blk_alloc ?_ _)); refine blk_put (cs := #[.int .i64 t316, .int .i64 0, .int .i64 0, .slice none 0 0, .slice none 0 0]) ?_ 1 _ rfl; (with_reducible repeat (first | refine blk_drewN ?_ _ | refine blk_drew ?_ | refine blk_alloc ?_ _)); refine blk_put (cs := #[.int .i64 0, .int .i64 0, .int .i64 0, .slice none 0 0, .slice none 0 0]) ?_ 0 _ rfl; (with_reducible repeat (first | refine blk_drewN ?_ _ | refine blk_drew ?_ | refine blk_alloc ?_ _)); exact BK326.out⟩, ⟨by repeat (first | (with_reducible first | exact HB.out | apply below_alloc | apply pw_below_drewN | apply below_drew1 | refine below_set ?_ GE315.out | refine below_set ?_ GE326.out) | exact HB.out)⟩⟩
                · replace c28 := Bool.eq_false_iff.mpr c28
                  subst c28
                  have H1 : (laws_FnPrUglyJoin.j1 kj4 a0 a1 a2 a3 true) = some r := by rw [if_neg (show ¬ (false = true) by decide)] at H; exact H
                  clear H
                  have H := H1
                  clear H1
                  have H' := Aside0.mk H
                  clear H
                  go_wp2_with (first | (go_at_call 14; (with_reducible refine (spec_UTF8.calls kj4 a2 false _ A27.out).mono ?_); rintro e w' ⟨rfl, ⟨nd, rfl⟩⟩))
                  go_meet
                  case rel => exact ⟨_, (true), (by first | rfl | (simp; done) | (simp [*]; done)), H', ⟨by have := HJ4.out; first | omega | exact Nat.le_refl _⟩, ⟨by (with_reducible repeat (first | apply Kd.R_alloc | apply Kd.R_drewN | apply Kd.R_drew)); exact Kd.R_mono (Kd.R_far (p := ⟨gb326, 4, none⟩) (Kd.R_far (p := ⟨gb326, 3, none⟩) (Kd.R_far (p := ⟨gb326, 2, none⟩) (Kd.R_far (p := ⟨gb326, 1, none⟩) (Kd.R_far (p := ⟨gb326, 0, none⟩) (Kd.R_types HO310.out BK326.out (by decide)) (fun _ hk => hk.2) (.int .i64 t316)) (fun _ hk => hk.2) (.int .i64 t317)) (fun _ hk => hk.2) (.int .i64 t318)) (fun _ hk => hk.2) (.slice Ao22 t319.length co22)) (fun _ hk => hk.2) (.slice Ao23 t322.length co23)) (fun _ hk => hk.1.2)⟩, ⟨by (with_reducible repeat (first | apply Kd.R_alloc | apply Kd.R_drewN | apply Kd.R_drew)); exact Kd.R_mono (Kd.R_far (p := ⟨gb326, 4, none⟩) (Kd.R_far (p := ⟨gb326, 3, none⟩) (Kd.R_far (p := ⟨gb326, 2, none⟩) (Kd.R_far (p := ⟨gb326, 1, none⟩) (Kd.R_far (p := ⟨gb326, 0, none⟩) (Kd.R_mono HO313.out (fun k_ hk => (⟨hk, hk.2⟩ : _ ∧ k_ ≠ gb326))) (fun _ hk => hk.2) (.int .i64 t316)) (fun _ hk => hk.2) (.int .i64 t317)) (fun _ hk => hk.2) (.int .i64 t318)) (fun _ hk => hk.2) (.slice Ao22 t319.length co22)) (fun _ hk => hk.2) (.slice Ao23 t322.length co23)) (fun _ hk => ⟨hk.1.1.1.1.1, ⟨hk.1.1.1.2, ⟨hk.1.1.2, ⟨hk.1.1.1.1.2, hk.1.2⟩⟩⟩⟩)⟩, ⟨by (with_reducible repeat (first | apply Kd.R_alloc | apply Kd.R_drewN | apply Kd.R_drew)); exact Kd.R_mono (Kd.R_far (p := ⟨gb326, 4, none⟩) (Kd.R_far (p := ⟨gb326, 3, none⟩) (Kd.R_far (p := ⟨gb326, 2, none⟩) (Kd.R_far (p := ⟨gb326, 1, none⟩) (Kd.R_far (p := ⟨gb326, 0, none⟩) (Kd.R_types HO321.out BK326.out (by decide)) (fun _ hk => hk.2) (.int .i64 t316)) (fun _ hk => hk.2) (.int .i64 t317)) (fun _ hk => hk.2) (.int .i64 t318)) (fun _ hk => hk.2) (.slice Ao22 t319.length co22)) (fun _ hk => hk.2) (.slice Ao23 t322.length co23)) (fun _ hk => hk.1.2)⟩, ⟨by (with_reducible repeat (first | apply Kd.R_alloc | apply Kd.R_drewN | apply Kd.R_drew)); exact Kd.R_mono (Kd.R_far (p := ⟨gb326, 4, none⟩) (Kd.R_far (p := ⟨gb326, 3, none⟩) (Kd.R_far (p := ⟨gb326, 2, none⟩) (Kd.R_far (p := ⟨gb326, 1, none⟩) (Kd.R_far (p := ⟨gb326, 0, none⟩) (Kd.R_mono HO324.out (fun k_ hk => (⟨hk, hk.2⟩ : _ ∧ k_ ≠ gb326))) (fun _ hk => hk.2) (.int .i64 t316)) (fun _ hk => hk.2) (.int .i64 t317)) (fun _ hk => hk.2) (.int .i64 t318)) (fun _ hk => hk.2) (.slice Ao22 t319.length co22)) (fun _ hk => hk.2) (.slice Ao23 t322.length co23)) (fun _ hk => ⟨hk.1.1.1.1.2, ⟨hk.1.1.1.2, ⟨hk.1.1.1.1.1, ⟨hk.1.1.2, hk.1.2⟩⟩⟩⟩)⟩, ⟨by (with_reducible repeat (first | refine blk_drewN ?_ _ | refine blk_drew ?_ | refine blk_alloc ?_ _)); refine blk_far ?_ NB315_326.out _; (with_reducible repeat (first | refine blk_drewN ?_ _ | refine blk_drew ?_ | refine blk_alloc ?_ _)); refine blk_far ?_ NB315_326.out _; (with_reducible repeat (first | refine blk_drewN ?_ _ | refine blk_drew ?_ | refine blk_alloc ?_ _)); refine blk_far ?_ NB315_326.out _; (with_reducible repeat (first | refine blk_drewN ?_ _ | refine blk_drew ?_ | refine blk_alloc ?_ _)); refine blk_far ?_ NB315_326.out _; (with_reducible repeat (first | refine blk_drewN ?_ _ | refine blk_drew ?_ | refine blk_alloc ?_ _)); refine blk_far ?_ NB315_326.out _; (with_reducible repeat (first | refine blk_drewN ?_ _ | refine blk_drew ?_ | refine blk_alloc ?_ _)); exact BK315.out⟩, ⟨by (with_reducible repeat (first | refine blk_drewN ?_ _ | refine blk_drew ?_ | refine blk_alloc ?_ _)); refine blk_put (cs := #[.int .i64 t316, .int .i64 t317, .int .i64 t318, .slice Ao22 t319.length co22, .slice none 0 0]) ?_ 4 _ rfl; (with_reducible repeat (first | refine blk_drewN ?_ _ | refine blk_drew ?_ | refine blk_alloc ?_ _)); refine blk_put (cs := #[.int .i64 t316, .int .i64 t317, .int .i64 t318, .slice none 0 0, .slice none 0 0]) ?_ 3 _ rfl; (with_reducible repeat (first | refine blk_drewN ?_ _ | refine blk_drew ?_ | refine blk_alloc ?_ _)); refine blk_put (cs := #[.int .i64 t316, .int .i64 t317, .int .i64 0, .slice none 0 0, .slice none 0 0]) ?_ 2 _ rfl; (with_reducible repeat (first | refine blk_drewN ?_ _ | refine blk_drew ?_ | refine blk_alloc ?_ _)); refine blk_put (cs := #[.int .i64 t316, .int .i64 0, .int .i64 0, .slice none 0 0, .slice none 0 0]) ?_ 1 _ rfl; (with_reducible repeat (first | refine blk_drewN ?_ _ | refine blk_drew ?_ | refine blk_alloc ?_ _)); refine blk_put (cs := #[.int .i64 0, .int .i64 0, .int .i64 0, .slice none 0 0, .slice none 0 0]) ?_ 0 _ rfl; (with_reducible repeat (first | refine blk_drewN ?_ _ | refine blk_drew ?_ | refine blk_alloc ?_ _)); exact BK326.out⟩, ⟨by repeat (first | (with_reducible first | exact HB.out | apply below_alloc | apply pw_below_drewN | apply below_drew1 | refine below_set ?_ GE315.out | refine below_set ?_ GE326.out) | exact HB.out)⟩⟩
            · replace c25 := Bool.eq_false_iff.mpr c25
              subst c25
              have H1 : (laws_FnPrUglyJoin.j1 kj4 a0 a1 a2 a3 true) = some r := by rw [if_neg (show ¬ (false = true) by decide)] at H; exact H
              clear H
              have H := H1
              clear H1
              have H' := Aside0.mk H
              clear H
              go_wp2
              go_meet
              case rel => exact ⟨_, (true), (by first | rfl | (simp; done) | (simp [*]; done)), H', ⟨by have := HJ4.out; first | omega | exact Nat.le_refl _⟩, ⟨by (with_reducible repeat (first | apply Kd.R_alloc | apply Kd.R_drewN | apply Kd.R_drew)); exact Kd.R_mono (Kd.R_far (p := ⟨gb326, 4, none⟩) (Kd.R_far (p := ⟨gb326, 3, none⟩) (Kd.R_far (p := ⟨gb326, 2, none⟩) (Kd.R_far (p := ⟨gb326, 1, none⟩) (Kd.R_far (p := ⟨gb326, 0, none⟩) (Kd.R_types HO310.out BK326.out (by decide)) (fun _ hk => hk.2) (.int .i64 t316)) (fun _ hk => hk.2) (.int .i64 t317)) (fun _ hk => hk.2) (.int .i64 t318)) (fun _ hk => hk.2) (.slice Ao22 t319.length co22)) (fun _ hk => hk.2) (.slice Ao23 t322.length co23)) (fun _ hk => hk.1.2)⟩, ⟨by (with_reducible repeat (first | apply Kd.R_alloc | apply Kd.R_drewN | apply Kd.R_drew)); exact Kd.R_mono (Kd.R_far (p := ⟨gb326, 4, none⟩) (Kd.R_far (p := ⟨gb326, 3, none⟩) (Kd.R_far (p := ⟨gb326, 2, none⟩) (Kd.R_far (p := ⟨gb326, 1, none⟩) (Kd.R_far (p := ⟨gb326, 0, none⟩) (Kd.R_mono HO313.out (fun k_ hk => (⟨hk, hk.2⟩ : _ ∧ k_ ≠ gb326))) (fun _ hk => hk.2) (.int .i64 t316)) (fun _ hk => hk.2) (.int .i64 t317)) (fun _ hk => hk.2) (.int .i64 t318)) (fun _ hk => hk.2) (.slice Ao22 t319.length co22)) (fun _ hk => hk.2) (.slice Ao23 t322.length co23)) (fun _ hk => ⟨hk.1.1.1.1.1, ⟨hk.1.1.1.2, ⟨hk.1.1.2, ⟨hk.1.1.1.1.2, hk.1.2⟩⟩⟩⟩)⟩, ⟨by (with_reducible repeat (first | apply Kd.R_alloc | apply Kd.R_drewN | apply Kd.R_drew)); exact Kd.R_mono (Kd.R_far (p := ⟨gb326, 4, none⟩) (Kd.R_far (p := ⟨gb326, 3, none⟩) (Kd.R_far (p := ⟨gb326, 2, none⟩) (Kd.R_far (p := ⟨gb326, 1, none⟩) (Kd.R_far (p := ⟨gb326, 0, none⟩) (Kd.R_types HO321.out BK326.out (by decide)) (fun _ hk => hk.2) (.int .i64 t316)) (fun _ hk => hk.2) (.int .i64 t317)) (fun _ hk => hk.2) (.int .i64 t318)) (fun _ hk => hk.2) (.slice Ao22 t319.length co22)) (fun _ hk => hk.2) (.slice Ao23 t322.length co23)) (fun _ hk => hk.1.2)⟩, ⟨by (with_reducible repeat (first | apply Kd.R_alloc | apply Kd.R_drewN | apply Kd.R_drew)); exact Kd.R_mono (Kd.R_far (p := ⟨gb326, 4, none⟩) (Kd.R_far (p := ⟨gb326, 3, none⟩) (Kd.R_far (p := ⟨gb326, 2, none⟩) (Kd.R_far (p := ⟨gb326, 1, none⟩) (Kd.R_far (p := ⟨gb326, 0, none⟩) (Kd.R_mono HO324.out (fun k_ hk => (⟨hk, hk.2⟩ : _ ∧ k_ ≠ gb326))) (fun _ hk => hk.2) (.int .i64 t316)) (fun _ hk => hk.2) (.int .i64 t317)) (fun _ hk => hk.2) (.int .i64 t318)) (fun _ hk => hk.2) (.slice Ao22 t319.length co22)) (fun _ hk => hk.2) (.slice Ao23 t322.length co23)) (fun _ hk => ⟨hk.1.1.1.1.2, ⟨hk.1.1.1.2, ⟨hk.1.1.1.1.1, ⟨hk.1.1.2, hk.1.2⟩⟩⟩⟩)⟩, ⟨by (with_reducible repeat (first | refine blk_drewN ?_ _ | refine blk_drew ?_ | refine blk_alloc ?_ _)); refine blk_far ?_ NB315_326.out _; (with_reducible repeat (first | refine blk_drewN ?_ _ | refine blk_drew ?_ | refine blk_alloc ?_ _)); refine blk_far ?_ NB315_326.out _; (with_reducible repeat (first | refine blk_drewN ?_ _ | refine blk_drew ?_ | refine blk_alloc ?_ _)); refine blk_far ?_ NB315_326.out _; (with_reducible repeat (first | refine blk_drewN ?_ _ | refine blk_drew ?_ | refine blk_alloc ?_ _)); refine blk_far ?_ NB315_326.out _; (with_reducible repeat (first | refine blk_drewN ?_ _ | refine blk_drew ?_ | refine blk_alloc ?_ _)); refine blk_far ?_ NB315_326.out _; (with_reducible repeat (first | refine blk_drewN ?_ _ | refine blk_drew ?_ | refine blk_alloc ?_ _)); exact BK315.out⟩, ⟨by (with_reducible repeat (first | refine blk_drewN ?_ _ | refine blk_drew ?_ | refine blk_alloc ?_ _)); refine blk_put (cs := #[.int .i64 t316, .int .i64 t317, .int .i64 t318, .slice Ao22 t319.length co22, .slice none 0 0]) ?_ 4 _ rfl; (with_reducible repeat (first | refine blk_drewN ?_ _ | refine blk_drew ?_ | refine blk_alloc ?_ _)); refine blk_put (cs := #[.int .i64 t316, .int .i64 t317, .int .i64 t318, .slice none 0 0, .slice none 0 0]) ?_ 3 _ rfl; (with_reducible repeat (first | refine blk_drewN ?_ _ | refine blk_drew ?_ | refine blk_alloc ?_ _)); refine blk_put (cs := #[.int .i64 t316, .int .i64 t317, .int .i64 0, .slice none 0 0, .slice none 0 0]) ?_ 2 _ rfl; (with_reducible repeat (first | refine blk_drewN ?_ _ | refine blk_drew ?_ | refine blk_alloc ?_ _)); refine blk_put (cs := #[.int .i64 t316, .int .i64 0, .int .i64 0, .slice none 0 0, .slice none 0 0]) ?_ 1 _ rfl; (with_reducible repeat (first | refine blk_drewN ?_ _ | refine blk_drew ?_ | refine blk_alloc ?_ _)); refine blk_put (cs := #[.int .i64 0, .int .i64 0, .int .i64 0, .slice none 0 0, .slice none 0 0]) ?_ 0 _ rfl; (with_reducible repeat (first | refine blk_drewN ?_ _ | refine blk_drew ?_ | refine blk_alloc ?_ _)); exact BK326.out⟩, ⟨by repeat (first | (with_reducible first | exact HB.out | apply below_alloc | apply pw_below_drewN | apply below_drew1 | refine below_set ?_ GE315.out | refine below_set ?_ GE326.out) | exact HB.out)⟩⟩
          · replace c24 := Bool.eq_false_iff.mpr c24
            subst c24
            have H1 : (laws_FnPrUglyJoin.j1 kj4 a0 a1 a2 a3 true) = some r := by rw [if_neg (show ¬ (false = true) by decide)] at H; exact H
            clear H
            have H := H1
            clear H1
            have H' := Aside0.mk H
            clear H
            go_wp2
            go_meet
            case rel => exact ⟨_, (true), (by first | rfl | (simp; done) | (simp [*]; done)), H', ⟨by have := HJ4.out; first | omega | exact Nat.le_refl _⟩, ⟨by (with_reducible repeat (first | apply Kd.R_alloc | apply Kd.R_drewN | apply Kd.R_drew)); exact Kd.R_mono (Kd.R_far (p := ⟨gb326, 4, none⟩) (Kd.R_far (p := ⟨gb326, 3, none⟩) (Kd.R_far (p := ⟨gb326, 2, none⟩) (Kd.R_far (p := ⟨gb326, 1, none⟩) (Kd.R_far (p := ⟨gb326, 0, none⟩) (Kd.R_types HO310.out BK326.out (by decide)) (fun _ hk => hk.2) (.int .i64 t316)) (fun _ hk => hk.2) (.int .i64 t317)) (fun _ hk => hk.2) (.int .i64 t318)) (fun _ hk => hk.2) (.slice Ao22 t319.length co22)) (fun _ hk => hk.2) (.slice Ao23 t322.length co23)) (fun _ hk => hk.1.2)⟩, ⟨by (with_reducible repeat (first | apply Kd.R_alloc | apply Kd.R_drewN | apply Kd.R_drew)); exact Kd.R_mono (Kd.R_far (p := ⟨gb326, 4, none⟩) (Kd.R_far (p := ⟨gb326, 3, none⟩) (Kd.R_far (p := ⟨gb326, 2, none⟩) (Kd.R_far (p := ⟨gb326, 1, none⟩) (Kd.R_far (p := ⟨gb326, 0, none⟩) (Kd.R_mono HO313.out (fun k_ hk => (⟨hk, hk.2⟩ : _ ∧ k_ ≠ gb326))) (fun _ hk => hk.2) (.int .i64 t316)) (fun _ hk => hk.2) (.int .i64 t317)) (fun _ hk => hk.2) (.int .i64 t318)) (fun _ hk => hk.2) (.slice Ao22 t319.length co22)) (fun _ hk => hk.2) (.slice Ao23 t322.length co23)) (fun _ hk => ⟨hk.1.1.1.1.1, ⟨hk.1.1.1.2, ⟨hk.1.1.2, ⟨hk.1.1.1.1.2, hk.1.2⟩⟩⟩⟩)⟩, ⟨by (with_reducible repeat (first | apply Kd.R_alloc | apply Kd.R_drewN | apply Kd.R_drew)); exact Kd.R_mono (Kd.R_far (p := ⟨gb326, 4, none⟩) (Kd.R_far (p := ⟨gb326, 3, none⟩) (Kd.R_far (p := ⟨gb326, 2, none⟩) (Kd.R_far (p := ⟨gb326, 1, none⟩) (Kd.R_far (p := ⟨gb326, 0, none⟩) (Kd.R_types HO321.out BK326.out (by decide)) (fun _ hk => hk.2) (.int .i64 t316)) (fun _ hk => hk.2) (.int .i64 t317)) (fun _ hk => hk.2) (.int .i64 t318)) (fun _ hk => hk.2) (.slice Ao22 t319.length co22)) (fun _ hk => hk.2) (.slice Ao23 t322.length co23)) (fun _ hk => hk.1.2)⟩, ⟨by (with_reducible repeat (first | apply Kd.R_alloc | apply Kd.R_drewN | apply Kd.R_drew)); exact Kd.R_mono (Kd.R_far (p := ⟨gb326, 4, none⟩) (Kd.R_far (p := ⟨gb326, 3, none⟩) (Kd.R_far (p := ⟨gb326, 2, none⟩) (Kd.R_far (p := ⟨gb326, 1, none⟩) (Kd.R_far (p := ⟨gb326, 0, none⟩) (Kd.R_mono HO324.out (fun k_ hk => (⟨hk, hk.2⟩ : _ ∧ k_ ≠ gb326))) (fun _ hk => hk.2) (.int .i64 t316)) (fun _ hk => hk.2) (.int .i64 t317)) (fun _ hk => hk.2) (.int .i64 t318)) (fun _ hk => hk.2) (.slice Ao22 t319.length co22)) (fun _ hk => hk.2) (.slice Ao23 t322.length co23)) (fun _ hk => ⟨hk.1.1.1.1.2, ⟨hk.1.1.1.2, ⟨hk.1.1.1.1.1, ⟨hk.1.1.2, hk.1.2⟩⟩⟩⟩)⟩, ⟨by (with_reducible repeat (first | refine blk_drewN ?_ _ | refine blk_drew ?_ | refine blk_alloc ?_ _)); refine blk_far ?_ NB315_326.out _; (with_reducible repeat (first | refine blk_drewN ?_ _ | refine blk_drew ?_ | refine blk_alloc ?_ _)); refine blk_far ?_ NB315_326.out _; (with_reducible repeat (first | refine blk_drewN ?_ _ | refine blk_drew ?_ | refine blk_alloc ?_ _)); refine blk_far ?_ NB315_326.out _; (with_reducible repeat (first | refine blk_drewN ?_ _ | refine blk_drew ?_ | refine blk_alloc ?_ _)); refine blk_far ?_ NB315_326.out _; (with_reducible repeat (first | refine blk_drewN ?_ _ | refine blk_drew ?_ | refine blk_alloc ?_ _)); refine blk_far ?_ NB315_326.out _; (with_reducible repeat (first | refine blk_drewN ?_ _ | refine blk_drew ?_ | refine blk_alloc ?_ _)); exact BK315.out⟩, ⟨by (with_reducible repeat (first | refine blk_drewN ?_ _ | refine blk_drew ?_ | refine blk_alloc ?_ _)); refine blk_put (cs := #[.int .i64 t316, .int .i64 t317, .int .i64 t318, .slice Ao22 t319.length co22, .slice none 0 0]) ?_ 4 _ rfl; (with_reducible repeat (first | refine blk_drewN ?_ _ | refine blk_drew ?_ | refine blk_alloc ?_ _)); refine blk_put (cs := #[.int .i64 t316, .int .i64 t317, .int .i64 t318, .slice none 0 0, .slice none 0 0]) ?_ 3 _ rfl; (with_reducible repeat (first | refine blk_drewN ?_ _ | refine blk_drew ?_ | refine blk_alloc ?_ _)); refine blk_put (cs := #[.int .i64 t316, .int .i64 t317, .int .i64 0, .slice none 0 0, .slice none 0 0]) ?_ 2 _ rfl; (with_reducible repeat (first | refine blk_drewN ?_ _ | refine blk_drew ?_ | refine blk_alloc ?_ _)); refine blk_put (cs := #[.int .i64 t316, .int .i64 0, .int .i64 0, .slice none 0 0, .slice none 0 0]) ?_ 1 _ rfl; (with_reducible repeat (first | refine blk_drewN ?_ _ | refine blk_drew ?_ | refine blk_alloc ?_ _)); refine blk_put (cs := #[.int .i64 0, .int .i64 0, .int .i64 0, .slice none 0 0, .slice none 0 0]) ?_ 0 _ rfl; (with_reducible repeat (first | refine blk_drewN ?_ _ | refine blk_drew ?_ | refine blk_alloc ?_ _)); exact BK326.out⟩, ⟨by repeat (first | (with_reducible first | exact HB.out | apply below_alloc | apply pw_below_drewN | apply below_drew1 | refine below_set ?_ GE315.out | refine below_set ?_ GE326.out) | exact HB.out)⟩⟩
        case rest =>
          clear HC12
          try clear c1
          try clear c2
          try clear p2
          try clear c6
          try clear c6b0
          try clear c6b1
          try clear p6
          try clear c7
          try clear c7b0
          try clear c7b1
          try clear c8
          try clear c8b0
          try clear c8b1
          try clear c9
          try clear c10
          try clear c20
          try clear c24
          try clear c25
          try clear c26
          try clear c26b0
          try clear c28
          try clear hcz15_0
          try clear hcz15_1
          try clear hcz15_2
          try clear hcz15_3
          try clear hcz15_4
          try clear hcz21_0
          try clear hcz21_1
          try clear hcz21_2
          try clear hcz21_3
          try clear hcz21_4
          try clear hfz15_0
          try clear hfz15_1
          try clear hfz15_2
          try clear hfz15_3
          try clear hfz15_4
          try clear hfz21_0
          try clear hfz21_1
          try clear hfz21_2
          try clear hfz21_3
          try clear hfz21_4
          try clear p2
          obtain ⟨kq, x74_11, rfl, HA, HJ11, HO_316003, HO_316004, HO_327003, HO_327004, BK315, BK326, HB⟩ := hcut
          cases kq with
          | zero => exact absurd HA.out (by simp [laws_FnPrUglyJoin.j1])
          | succ kj11 =>
            have H := HA.out
            clear HA
            simp only [laws_FnPrUglyJoin.j1] at H
            by_cases c30 : x74_11 = true
            · subst c30
              have H1 : (some true) = some r := by rw [if_pos rfl] at H; exact H
              clear H
              have H := H1
              clear H1
              obtain rfl := Option.some.inj H
              go_wp2
              go_ret
              exact ⟨by first | rfl | (simp [errW_none, errW_some] <;> rfl) | (simp [*, errW_none, errW_some] <;> rfl), by repeat (first | (with_reducible first | exact HB.out | apply below_alloc | apply pw_below_drewN | apply below_drew1 | refine below_set ?_ GE315.out | refine below_set ?_ GE326.out) | exact HB.out)⟩
            · replace c30 := Bool.eq_false_iff.mpr c30
              subst c30
              have H1 : ((impl_PrUgly.f a0).bind fun t329 => ((impl_PrUgly.f a1).bind fun t330 => (if t329.toList = ([] : List UInt8) then (laws_FnPrUglyJoin.j2 kj11 a0 a1 a2 a3 t329 t330 true) else (if t330.toList = ([] : List UInt8) then (laws_FnPrUglyJoin.j2 kj11 a0 a1 a2 a3 t329 t330 true) else (if 2 + a0.size ≤ 9223372036854775807 then (if ((⟨#[91, 32]⟩ : ByteArray) ++ a0).size + 2 ≤ 9223372036854775807 then (if (((⟨#[91, 32]⟩ : ByteArray) ++ a0) ++ (⟨#[10, 44]⟩ : ByteArray)).size + a1.size ≤ 9223372036854775807 then (if ((((⟨#[91, 32]⟩ : ByteArray) ++ a0) ++ (⟨#[10, 44]⟩ : ByteArray)) ++ a1).size + 1 ≤ 9223372036854775807 then ((impl_PrUgly.f (((((⟨#[91, 32]⟩ : ByteArray) ++ a0) ++ (⟨#[10, 44]⟩ : ByteArray)) ++ a1) ++ (⟨#[93]⟩ : ByteArray))).bind fun t331 => (if 1 + t329.size ≤ 9223372036854775807 then (if ((⟨#[91]⟩ : ByteArray) ++ t329).size + 1 ≤ 9223372036854775807 then (if (((⟨#[91]⟩ : ByteArray) ++ t329) ++ (⟨#[44]⟩ : ByteArray)).size + t330.size ≤ 9223372036854775807 then (if ((((⟨#[91]⟩ : ByteArray) ++ t329) ++ (⟨#[44]⟩ : ByteArray)) ++ t330).size + 1 ≤ 9223372036854775807 then (laws_FnPrUglyJoin.j2 kj11 a0 a1 a2 a3 t329 t330 (t331.toList != (((((⟨#[91]⟩ : ByteArray) ++ t329) ++ (⟨#[44]⟩ : ByteArray)) ++ t330) ++ (⟨#[93]⟩ : ByteArray)).toList)) else (none)) else (none)) else (none)) else (none))) else (none)) else (none)) else (none)) else (none)))))) = some r := by rw [if_neg (show ¬ (false = true) by decide)] at H; exact H
              clear H
              have H := H1
              clear H1
              replace H := Option.bind_eq_some_iff.mp H
              obtain ⟨t329, A310, H⟩ := H
              replace H : ((impl_PrUgly.f a1).bind fun t330 => (if t329.toList = ([] : List UInt8) then (laws_FnPrUglyJoin.j2 kj11 a0 a1 a2 a3 t329 t330 true) else (if t330.toList = ([] : List UInt8) then (laws_FnPrUglyJoin.j2 kj11 a0 a1 a2 a3 t329 t330 true) else (if 2 + a0.size ≤ 9223372036854775807 then (if ((⟨#[91, 32]⟩ : ByteArray) ++ a0).size + 2 ≤ 9223372036854775807 then (if (((⟨#[91, 32]⟩ : ByteArray) ++ a0) ++ (⟨#[10, 44]⟩ : ByteArray)).size + a1.size ≤ 9223372036854775807 then (if ((((⟨#[91, 32]⟩ : ByteArray) ++ a0) ++ (⟨#[10, 44]⟩ : ByteArray)) ++ a1).size + 1 ≤ 9223372036854775807 then ((impl_PrUgly.f (((((⟨#[91, 32]⟩ : ByteArray) ++ a0) ++ (⟨#[10, 44]⟩ : ByteArray)) ++ a1) ++ (⟨#[93]⟩ : ByteArray))).bind fun t331 => (if 1 + t329.size ≤ 9223372036854775807 then (if ((⟨#[91]⟩ : ByteArray) ++ t329).size + 1 ≤ 9223372036854775807 then (if (((⟨#[91]⟩ : ByteArray) ++ t329) ++ (⟨#[44]⟩ : ByteArray)).size + t330.size ≤ 9223372036854775807 then (if ((((⟨#[91]⟩ : ByteArray) ++ t329) ++ (⟨#[44]⟩ : ByteArray)) ++ t330).size + 1 ≤ 9223372036854775807 then (laws_FnPrUglyJoin.j2 kj11 a0 a1 a2 a3 t329 t330 (t331.toList != (((((⟨#[91]⟩ : ByteArray) ++ t329) ++ (⟨#[44]⟩ : ByteArray)) ++ t330) ++ (⟨#[93]⟩ : ByteArray)).toList)) else (none)) else (none)) else (none)) else (none))) else (none)) else (none)) else (none)) else (none))))) = some r := H
              have A31 := Aside0.mk A310
              clear A310
              replace H := Option.bind_eq_some_iff.mp H
              obtain ⟨t330, A320, H⟩ := H
              replace H : (if t329.toList = ([] : List UInt8) then (laws_FnPrUglyJoin.j2 kj11 a0 a1 a2 a3 t329 t330 true) else (if t330.toList = ([] : List UInt8) then (laws_FnPrUglyJoin.j2 kj11 a0 a1 a2 a3 t329 t330 true) else (if 2 + a0.size ≤ 9223372036854775807 then (if ((⟨#[91, 32]⟩ : ByteArray) ++ a0).size + 2 ≤ 9223372036854775807 then (if (((⟨#[91, 32]⟩ : ByteArray) ++ a0) ++ (⟨#[10, 44]⟩ : ByteArray)).size + a1.size ≤ 9223372036854775807 then (if ((((⟨#[91, 32]⟩ : ByteArray) ++ a0) ++ (⟨#[10, 44]⟩ : ByteArray)) ++ a1).size + 1 ≤ 9223372036854775807 then ((impl_PrUgly.f (((((⟨#[91, 32]⟩ : ByteArray) ++ a0) ++ (⟨#[10, 44]⟩ : ByteArray)) ++ a1) ++ (⟨#[93]⟩ : ByteArray))).bind fun t331 => (if 1 + t329.size ≤ 9223372036854775807 then (if ((⟨#[91]⟩ : ByteArray) ++ t329).size + 1 ≤ 9223372036854775807 then (if (((⟨#[91]⟩ : ByteArray) ++ t329) ++ (⟨#[44]⟩ : ByteArray)).size + t330.size ≤ 9223372036854775807 then (if ((((⟨#[91]⟩ : ByteArray) ++ t329) ++ (⟨#[44]⟩ : ByteArray)) ++ t330).size + 1 ≤ 9223372036854775807 then (laws_FnPrUglyJoin.j2 kj11 a0 a1 a2 a3 t329 t330 (t331.toList != (((((⟨#[91]⟩ : ByteArray) ++ t329) ++ (⟨#[44]⟩ : ByteArray)) ++ t330) ++ (⟨#[93]⟩ : ByteArray)).toList)) else (none)) else (none)) else (none)) else (none))) else (none)) else (none)) else (none)) else (none)))) = some r := H
              have A32 := Aside0.mk A320
              clear A320
              have HC33 := Aside0.mk H
              clear H
              go_upto_region 8 with (first | ((with_reducible refine gate_callee (f := 15) rfl ?_); refine goesL_ (some 76) rfl rfl Try.func15 (by kernel_rfl) rfl #[.string a0] rfl (by (try simp only [List.map_toArray, List.map_cons, List.map_nil]); first | done | rfl | (simp only [List.length_drop, List.length_take]; rfl)) ?_; (with_reducible refine (impl_PrUgly.calls a0 t329 _ A31.out).mono ?_); rintro e w34 ⟨rfl, hb⟩; refine ⟨_, rfl, ?_⟩; have n0_ := Aside0.mk (Kd.R_below (by (with_reducible repeat (first | apply Kd.R_alloc | apply Kd.R_drewN | apply Kd.R_drew)); exact HO_316003.out) hb); have n1_ := Aside0.mk (Kd.R_below (by (with_reducible repeat (first | apply Kd.R_alloc | apply Kd.R_drewN | apply Kd.R_drew)); exact HO_316004.out) hb); have n2_ := Aside0.mk (Kd.R_below (by (with_reducible repeat (first | apply Kd.R_alloc | apply Kd.R_drewN | apply Kd.R_drew)); exact HO_327003.out) hb); have n3_ := Aside0.mk (Kd.R_below (by (with_reducible repeat (first | apply Kd.R_alloc | apply Kd.R_drewN | apply Kd.R_drew)); exact HO_327004.out) hb); have n4_ := Aside0.mk (blk_below (g := gb315) (o := .cells #[.int .i64 t305, .int .i64 t306, .int .i64 t307, .slice Ao16 t308.length co16, .slice Ao17 t311.length co17] 28 (0, 0)) (by (with_reducible repeat (first | refine blk_drewN ?_ _ | refine blk_drew ?_ | refine blk_alloc ?_ _)); exact BK315.out) hb); have n5_ := Aside0.mk (blk_below (g := gb326) (o := .cells #[.int .i64 t316, .int .i64 t317, .int .i64 t318, .slice Ao22 t319.length co22, .slice Ao23 t322.length co23] 28 (0, 0)) (by (with_reducible repeat (first | refine blk_drewN ?_ _ | refine blk_drew ?_ | refine blk_alloc ?_ _)); exact BK326.out) hb); have n6_ := Aside0.mk (below_step (by repeat (first | (with_reducible first | exact HB.out | apply below_alloc | apply pw_below_drewN | apply below_drew1 | refine below_set ?_ GE315.out | refine below_set ?_ GE326.out) | exact HB.out)) hb); clear HO_316003; clear HO_316004; clear HO_327003; clear HO_327004; clear BK315; clear BK326; clear HB; have HO_316003 := n0_; have HO_316004 := n1_; have HO_327003 := n2_; have HO_327004 := n3_; have BK315 := n4_; have BK326 := n5_; have HB := n6_; clear n0_ n1_ n2_ n3_ n4_ n5_ n6_; (try clear hb); (try clear hb2); (try clear hk); (try clear hi)) | ((with_reducible refine gate_callee (f := 15) rfl ?_); refine goesL_ (some 78) rfl rfl Try.func15 (by kernel_rfl) rfl #[.string a1] rfl (by (try simp only [List.map_toArray, List.map_cons, List.map_nil]); first | done | rfl | (simp only [List.length_drop, List.length_take]; rfl)) ?_; (with_reducible refine (impl_PrUgly.calls a1 t330 _ A32.out).mono ?_); rintro e w35 ⟨rfl, hb⟩; refine ⟨_, rfl, ?_⟩; have n0_ := Aside0.mk (Kd.R_below (by (with_reducible repeat (first | apply Kd.R_alloc | apply Kd.R_drewN | apply Kd.R_drew)); exact HO_316003.out) hb); have n1_ := Aside0.mk (Kd.R_below (by (with_reducible repeat (first | apply Kd.R_alloc | apply Kd.R_drewN | apply Kd.R_drew)); exact HO_316004.out) hb); have n2_ := Aside0.mk (Kd.R_below (by (with_reducible repeat (first | apply Kd.R_alloc | apply Kd.R_drewN | apply Kd.R_drew)); exact HO_327003.out) hb); have n3_ := Aside0.mk (Kd.R_below (by (with_reducible repeat (first | apply Kd.R_alloc | apply Kd.R_drewN | apply Kd.R_drew)); exact HO_327004.out) hb); have n4_ := Aside0.mk (blk_below (g := gb315) (o := .cells #[.int .i64 t305, .int .i64 t306, .int .i64 t307, .slice Ao16 t308.length co16, .slice Ao17 t311.length co17] 28 (0, 0)) (by (with_reducible repeat (first | refine blk_drewN ?_ _ | refine blk_drew ?_ | refine blk_alloc ?_ _)); exact BK315.out) hb); have n5_ := Aside0.mk (blk_below (g := gb326) (o := .cells #[.int .i64 t316, .int .i64 t317, .int .i64 t318, .slice Ao22 t319.length co22, .slice Ao23 t322.length co23] 28 (0, 0)) (by (with_reducible repeat (first | refine blk_drewN ?_ _ | refine blk_drew ?_ | refine blk_alloc ?_ _)); exact BK326.out) hb); have n6_ := Aside0.mk (below_step (by repeat (first | (with_reducible first | exact HB.out | apply below_alloc | apply pw_below_drewN | apply below_drew1 | refine below_set ?_ GE315.out | refine below_set ?_ GE326.out) | exact HB.out)) hb); clear HO_316003; clear HO_316004; clear HO_327003; clear HO_327004; clear BK315; clear BK326; clear HB; have HO_316003 := n0_; have HO_316004 := n1_; have HO_327003 := n2_; have HO_327004 := n3_; have BK315 := n4_; have BK326 := n5_; have HB := n6_; clear n0_ n1_ n2_ n3_ n4_ n5_ n6_; (try clear hb); (try clear hb2); (try clear hk); (try clear hi)))
              (try simp only [Act.put, List.setIfInBounds_toArray, List.set_cons_zero, List.set_cons_succ])
              go_cut [100] (fun v100 wc => ∃ (kq : Nat) (x100_32 : Bool), v100 = .bool x100_32 ∧ Aside0 (laws_FnPrUglyJoin.j2 kq a0 a1 a2 a3 t329 t330 x100_32 = some r) ∧ Aside0 (kq ≤ kj11) ∧ Aside0 (Kd.R k55 55 wc w.heap.size (fun k_ => some k_ ≠ ((.slice Ao22 t319.length co22) : Value).ownBlock) (.slice Ao16 t308.length co16) t308) ∧ Aside0 (Kd.R k28 28 wc w.heap.size (fun k_ => some k_ ≠ ((.slice Ao16 t308.length co16) : Value).ownBlock ∧ some k_ ≠ ((.slice Ao22 t319.length co22) : Value).ownBlock ∧ some k_ ≠ ((.slice Ao23 t322.length co23) : Value).ownBlock ∧ k_ ≠ gb315 ∧ k_ ≠ gb326) (.slice Ao17 t311.length co17) t311) ∧ Aside0 (Kd.R k55 55 wc w.heap.size (fun k_ => some k_ ≠ ((.slice Ao16 t308.length co16) : Value).ownBlock) (.slice Ao22 t319.length co22) t319) ∧ Aside0 (Kd.R k28 28 wc w.heap.size (fun k_ => some k_ ≠ ((.slice Ao16 t308.length co16) : Value).ownBlock ∧ some k_ ≠ ((.slice Ao17 t311.length co17) : Value).ownBlock ∧ some k_ ≠ ((.slice Ao22 t319.length co22) : Value).ownBlock ∧ k_ ≠ gb315 ∧ k_ ≠ gb326) (.slice Ao23 t322.length co23) t322) ∧ Aside0 (wc.heap[gb315]? = some (.cells #[.int .i64 t305, .int .i64 t306, .int .i64 t307, (.slice Ao16 t308.length co16), (.slice Ao17 t311.length co17)] 28 (0, 0))) ∧ Aside0 (wc.heap[gb326]? = some (.cells #[.int .i64 t316, .int .i64 t317, .int .i64 t318, (.slice Ao22 t319.length co22), (.slice Ao23 t322.length co23)] 28 (0, 0))) ∧ Aside0 (Below w.heap.size w wc))
              case first =>
                have H := HC33.out
                clear HC33
                by_cases c36 : t329.toList = ([] : List UInt8)
                · rw [if_pos c36] at H
                  have c36b0 : (t329.toList == ([] : List UInt8)) = true := beq_iff_eq.mpr c36
                  have c36b1 : (t329.toList != ([] : List UInt8)) = false := bne_eq_false_iff_eq.mpr c36
                  clear c36
                  (first | rw [c36b0] | (simp only [i64_w, i32_w]; rw [c36b0]) | skip)
                  have H' := Aside0.mk H
                  clear H
                  go_wp2
                  go_meet
                  case rel => exact ⟨_, (true), (by first | rfl | (simp; done) | (simp [*]; done)), H', ⟨by have := HJ4.out; have := HJ11.out; first | omega | exact Nat.le_refl _⟩, ⟨by (with_reducible repeat (first | apply Kd.R_alloc | apply Kd.R_drewN | apply Kd.R_drew)); exact HO_316003.out⟩, ⟨by (with_reducible repeat (first | apply Kd.R_alloc | apply Kd.R_drewN | apply Kd.R_drew)); exact HO_316004.out⟩, ⟨by (with_reducible repeat (first | apply Kd.R_alloc | apply Kd.R_drewN | apply Kd.R_drew)); exact HO_327003.out⟩, ⟨by (with_reducible repeat (first | apply Kd.R_alloc | apply Kd.R_drewN | apply Kd.R_drew)); exact HO_327004.out⟩, ⟨by (with_reducible repeat (first | refine blk_drewN ?_ _ | refine blk_drew ?_ | refine blk_alloc ?_ _)); exact BK315.out⟩, ⟨by (with_reducible repeat (first | refine blk_drewN ?_ _ | refine blk_drew ?_ | refine blk_alloc ?_ _)); exact BK326.out⟩, ⟨by repeat (first | (with_reducible first | exact HB.out | apply below_alloc | apply pw_below_drewN | apply below_drew1 | refine below_set ?_ GE315.out | refine below_set ?_ GE326.out) | exact HB.out)⟩⟩
                · rw [if_neg c36] at H
                  have c36b0 : (t329.toList == ([] : List UInt8)) = false := beq_eq_false_iff_ne.mpr c36
                  have c36b1 : (t329.toList != ([] : List UInt8)) = true := bne_iff_ne.mpr c36
                  (first | rw [c36b0] | (simp only [i64_w, i32_w]; rw [c36b0]) | skip)
                  by_cases c37 : t330.toList = ([] : List UInt8)
                  · rw [if_pos c37] at H
                    have c37b0 : (t330.toList == ([] : List UInt8)) = true := beq_iff_eq.mpr c37
                    have c37b1 : (t330.toList != ([] : List UInt8)) = false := bne_eq_false_iff_eq.mpr c37
                    clear c37
                    have H' := Aside0.mk H
                    clear H
                    go_wp2
                    go_meet
                    case rel => exact ⟨_, (true), (by first | rfl | (simp; done) | (simp [*]; done)), H', ⟨by have := HJ4.out; have := HJ11.out; first | omega | exact Nat.le_refl _⟩, ⟨by (with_reducible repeat (first | apply Kd.R_alloc | apply Kd.R_drewN | apply Kd.R_drew)); exact HO_316003.out⟩, ⟨by (with_reducible repeat (first | apply Kd.R_alloc | apply Kd.R_drewN | apply Kd.R_drew)); exact HO_316004.out⟩, ⟨by (with_reducible repeat (first | apply Kd.R_alloc | apply Kd.R_drewN | apply Kd.R_drew)); exact HO_327003.out⟩, ⟨by (with_reducible repeat (first | apply Kd.R_alloc | apply Kd.R_drewN | apply Kd.R_drew)); exact HO_327004.out⟩, ⟨by (with_reducible repeat (first | refine blk_drewN ?_ _ | refine blk_drew ?_ | refine blk_alloc ?_ _)); exact BK315.out⟩, ⟨by (with_reducible repeat (first | refine blk_drewN ?_ _ | refine blk_drew ?_ | refine blk_alloc ?_ _)); exact BK326.out⟩, ⟨by repeat (first | (with_reducible first | exact HB.out | apply below_alloc | apply pw_below_drewN | apply below_drew1 | refine below_set ?_ GE315.out | refine below_set ?_ GE326.out) | exact HB.out)⟩⟩
                  · rw [if_neg c37] at H
                    have c37b0 : (t330.toList == ([] : List UInt8)) = false := beq_eq_false_iff_ne.mpr c37
                    have c37b1 : (t330.toList != ([] : List UInt8)) = true := bne_iff_ne.mpr c37
                    by_cases c38 : 2 + a0.size ≤ 9223372036854775807
                    · rw [if_pos c38] at H
                      have c38b0 := eq_true c38
                      have c38b1 : decide (2 + a0.size ≤ 9223372036854775807) = true := decide_eq_true c38
                      try have c38b2 : (9223372036854775807 < 2 + a0.size) = False := eq_false (Nat.not_lt.2 c38)
                      by_cases c39 : ((⟨#[91, 32]⟩ : ByteArray) ++ a0).size + 2 ≤ 9223372036854775807
                      · rw [if_pos c39] at H
                        have c39b0 := eq_true c39
                        have c39b1 : decide (((⟨#[91, 32]⟩ : ByteArray) ++ a0).size + 2 ≤ 9223372036854775807) = true := decide_eq_true c39
                        try have c39b2 : (9223372036854775807 < ((⟨#[91, 32]⟩ : ByteArray) ++ a0).size + 2) = False := eq_false (Nat.not_lt.2 c39)
                        have c39b3 : (9223372036854775807 < 2 + a0.size + 2) = False := eq_false (by have q_ := c39; simp only [ByteArray.size_append, show (⟨#[91, 32]⟩ : ByteArray).size = 2 from rfl] at q_; omega)
                        by_cases c40 : (((⟨#[91, 32]⟩ : ByteArray) ++ a0) ++ (⟨#[10, 44]⟩ : ByteArray)).size + a1.size ≤ 9223372036854775807
                        · rw [if_pos c40] at H
                          have c40b0 := eq_true c40
                          have c40b1 : decide ((((⟨#[91, 32]⟩ : ByteArray) ++ a0) ++ (⟨#[10, 44]⟩ : ByteArray)).size + a1.size ≤ 9223372036854775807) = true := decide_eq_true c40
                          try have c40b2 : (9223372036854775807 < (((⟨#[91, 32]⟩ : ByteArray) ++ a0) ++ (⟨#[10, 44]⟩ : ByteArray)).size + a1.size) = False := eq_false (Nat.not_lt.2 c40)
                          have c40b3 : (9223372036854775807 < 2 + a0.size + 2 + a1.size) = False := eq_false (by have q_ := c40; simp only [ByteArray.size_append, show (⟨#[10, 44]⟩ : ByteArray).size = 2 from rfl, show (⟨#[91, 32]⟩ : ByteArray).size = 2 from rfl] at q_; omega)
                          by_cases c41 : ((((⟨#[91, 32]⟩ : ByteArray) ++ a0) ++ (⟨#[10, 44]⟩ : ByteArray)) ++ a1).size + 1 ≤ 9223372036854775807
                          · rw [if_pos c41] at H
                            have c41b0 := eq_true c41
                            have c41b1 : decide (((((⟨#[91, 32]⟩ : ByteArray) ++ a0) ++ (⟨#[10, 44]⟩ : ByteArray)) ++ a1).size + 1 ≤ 9223372036854775807) = true := decide_eq_true c41
                            try have c41b2 : (9223372036854775807 < ((((⟨#[91, 32]⟩ : ByteArray) ++ a0) ++ (⟨#[10, 44]⟩ : ByteArray)) ++ a1).size + 1) = False := eq_false (Nat.not_lt.2 c41)
                            have c41b3 : (9223372036854775807 < 2 + a0.size + 2 + a1.size + 1) = False := eq_false (by have q_ := c41; simp only [ByteArray.size_append, show (⟨#[10, 44]⟩ : ByteArray).size = 2 from rfl, show (⟨#[91, 32]⟩ : ByteArray).size = 2 from rfl] at q_; omega)
                            replace H := Option.bind_eq_some_iff.mp H
                            obtain ⟨t331, A420, H⟩ := H
                            replace H : (if 1 + t329.size ≤ 9223372036854775807 then (if ((⟨#[91]⟩ : ByteArray) ++ t329).size + 1 ≤ 9223372036854775807 then (if (((⟨#[91]⟩ : ByteArray) ++ t329) ++ (⟨#[44]⟩ : ByteArray)).size + t330.size ≤ 9223372036854775807 then (if ((((⟨#[91]⟩ : ByteArray) ++ t329) ++ (⟨#[44]⟩ : ByteArray)) ++ t330).size + 1 ≤ 9223372036854775807 then (laws_FnPrUglyJoin.j2 kj11 a0 a1 a2 a3 t329 t330 (t331.toList != (((((⟨#[91]⟩ : ByteArray) ++ t329) ++ (⟨#[44]⟩ : ByteArray)) ++ t330) ++ (⟨#[93]⟩ : ByteArray)).toList)) else (none)) else (none)) else (none)) else (none)) = some r := H
                            have A42 := Aside0.mk A420
                            clear A420
                            by_cases c43 : 1 + t329.size ≤ 9223372036854775807
                            · rw [if_pos c43] at H
                              have c43b0 := eq_true c43
                              have c43b1 : decide (1 + t329.size ≤ 9223372036854775807) = true := decide_eq_true c43
                              try have c43b2 : (9223372036854775807 < 1 + t329.size) = False := eq_false (Nat.not_lt.2 c43)
                              by_cases c44 : ((⟨#[91]⟩ : ByteArray) ++ t329).size + 1 ≤ 9223372036854775807
                              · rw [if_pos c44] at H
                                have c44b0 := eq_true c44
                                have c44b1 : decide (((⟨#[91]⟩ : ByteArray) ++ t329).size + 1 ≤ 9223372036854775807) = true := decide_eq_true c44
                                try have c44b2 : (9223372036854775807 < ((⟨#[91]⟩ : ByteArray) ++ t329).size + 1) = False := eq_false (Nat.not_lt.2 c44)
                                have c44b3 : (9223372036854775807 < 1 + t329.size + 1) = False := eq_false (by have q_ := c44; simp only [ByteArray.size_append, show (⟨#[91]⟩ : ByteArray).size = 1 from rfl] at q_; omega)
                                by_cases c45 : (((⟨#[91]⟩ : ByteArray) ++ t329) ++ (⟨#[44]⟩ : ByteArray)).size + t330.size ≤ 9223372036854775807
                                · rw [if_pos c45] at H
                                  have c45b0 := eq_true c45
                                  have c45b1 : decide ((((⟨#[91]⟩ : ByteArray) ++ t329) ++ (⟨#[44]⟩ : ByteArray)).size + t330.size ≤ 9223372036854775807) = true := decide_eq_true c45
                                  try have c45b2 : (9223372036854775807 < (((⟨#[91]⟩ : ByteArray) ++ t329) ++ (⟨#[44]⟩ : ByteArray)).size + t330.size) = False := eq_false (Nat.not_lt.2 c45)
                                  have c45b3 : (9223372036854775807 < 1 + t329.size + 1 + t330.size) = False := eq_false (by have q_ := c45; simp only [ByteArray.size_append, show (⟨#[44]⟩ : ByteArray).size = 1 from rfl, show (⟨#[91]⟩ : ByteArray).size = 1 from rfl] at q_; omega)
                                  by_cases c46 : ((((⟨#[91]⟩ : ByteArray) ++ t329) ++ (⟨#[44]⟩ : ByteArray)) ++ t330).size + 1 ≤ 9223372036854775807
                                  · rw [if_pos c46] at H
                                    have c46b0 := eq_true c46
                                    have c46b1 : decide (((((⟨#[91]⟩ : ByteArray) ++ t329) ++ (⟨#[44]⟩ : ByteArray)) ++ t330).size + 1 ≤ 9223372036854775807) = true := decide_eq_true c46
                                    try have c46b2 : (9223372036854775807 < ((((⟨#[91]⟩ : ByteArray) ++ t329) ++ (⟨#[44]⟩ : ByteArray)) ++ t330).size + 1) = False := eq_false (Nat.not_lt.2 c46)
                                    have c46b3 : (9223372036854775807 < 1 + t329.size + 1 + t330.size + 1) = False := eq_false (by have q_ := c46; simp only [ByteArray.size_append, show (⟨#[44]⟩ : ByteArray).size = 1 from rfl, show (⟨#[91]⟩ : ByteArray).size = 1 from rfl] at q_; omega)
                                    have H' := Aside0.mk H
                                    clear H
                                    go_wp2_with (first | (go_at_call 15; (with_reducible refine (impl_PrUgly.calls (((((⟨#[91, 32]⟩ : ByteArray) ++ a0) ++ (⟨#[10, 44]⟩ : ByteArray)) ++ a1) ++ (⟨#[93]⟩ : ByteArray)) t331 _ A42.out).mono ?_); rintro e w47 ⟨rfl, hb⟩; have n0_ := Aside0.mk (Kd.R_below (by (with_reducible repeat (first | apply Kd.R_alloc | apply Kd.R_drewN | apply Kd.R_drew)); exact HO_316003.out) hb); have n1_ := Aside0.mk (Kd.R_below (by (with_reducible repeat (first | apply Kd.R_alloc | apply Kd.R_drewN | apply Kd.R_drew)); exact HO_316004.out) hb); have n2_ := Aside0.mk (Kd.R_below (by (with_reducible repeat (first | apply Kd.R_alloc | apply Kd.R_drewN | apply Kd.R_drew)); exact HO_327003.out) hb); have n3_ := Aside0.mk (Kd.R_below (by (with_reducible repeat (first | apply Kd.R_alloc | apply Kd.R_drewN | apply Kd.R_drew)); exact HO_327004.out) hb); have n4_ := Aside0.mk (blk_below (g := gb315) (o := .cells #[.int .i64 t305, .int .i64 t306, .int .i64 t307, .slice Ao16 t308.length co16, .slice Ao17 t311.length co17] 28 (0, 0)) (by (with_reducible repeat (first | refine blk_drewN ?_ _ | refine blk_drew ?_ | refine blk_alloc ?_ _)); exact BK315.out) hb); have n5_ := Aside0.mk (blk_below (g := gb326) (o := .cells #[.int .i64 t316, .int .i64 t317, .int .i64 t318, .slice Ao22 t319.length co22, .slice Ao23 t322.length co23] 28 (0, 0)) (by (with_reducible repeat (first | refine blk_drewN ?_ _ | refine blk_drew ?_ | refine blk_alloc ?_ _)); exact BK326.out) hb); have n6_ := Aside0.mk (below_step (by repeat (first | (with_reducible first | exact HB.out | apply below_alloc | apply pw_below_drewN | apply below_drew1 | refine below_set ?_ GE315.out | refine below_set ?_ GE326.out) | exact HB.out)) hb); clear HO_316003; clear HO_316004; clear HO_327003; clear HO_327004; clear BK315; clear BK326; clear HB; have HO_316003 := n0_; have HO_316004 := n1_; have HO_327003 := n2_; have HO_327004 := n3_; have BK315 := n4_; have BK326 := n5_; have HB := n6_; clear n0_ n1_ n2_ n3_ n4_ n5_ n6_; (try clear hb); (try clear hb2); (try clear hk); (try clear hi)))
                                    go_meet
                                    case rel => exact ⟨_, ((t331.toList != (((((⟨#[91]⟩ : ByteArray) ++ t329) ++ (⟨#[44]⟩ : ByteArray)) ++ t330) ++ (⟨#[93]⟩ : ByteArray)).toList)), (by first | rfl | (simp; done) | (simp [*]; done)), H', ⟨by have := HJ4.out; have := HJ11.out; first | omega | exact Nat.le_refl _⟩, ⟨by (with_reducible repeat (first | apply Kd.R_alloc | apply Kd.R_drewN | apply Kd.R_drew)); exact HO_316003.out⟩, ⟨by (with_reducible repeat (first | apply Kd.R_alloc | apply Kd.R_drewN | apply Kd.R_drew)); exact HO_316004.out⟩, ⟨by (with_reducible repeat (first | apply Kd.R_alloc | apply Kd.R_drewN | apply Kd.R_drew)); exact HO_327003.out⟩, ⟨by (with_reducible repeat (first | apply Kd.R_alloc | apply Kd.R_drewN | apply Kd.R_drew)); exact HO_327004.out⟩, ⟨by (with_reducible repeat (first | refine blk_drewN ?_ _ | refine blk_drew ?_ | refine blk_alloc ?_ _)); exact BK315.out⟩, ⟨by (with_reducible repeat (first | refine blk_drewN ?_ _ | refine blk_drew ?_ | refine blk_alloc ?_ _)); exact BK326.out⟩, ⟨by repeat (first | (with_reducible first | exact HB.out | apply below_alloc | apply pw_below_drewN | apply below_drew1 | refine below_set ?_ GE315.out | refine below_set ?_ GE326.out) | exact HB.out)⟩⟩
                                  · rw [if_neg c46] at H
                                    exact absurd H (by simp)
                                · rw [if_neg c45] at H
                                  exact absurd H (by simp)
                              · rw [if_neg c44] at H
                                exact absurd H (by simp)
                            · rw [if_neg c43] at H
                              exact absurd H (by simp)
                          · rw [if_neg c41] at H
                            exact absurd H (by simp)
                        · rw [if_neg c40] at H
                          exact absurd H (by simp)
                      · rw [if_neg c39] at H
                        exact absurd H (by simp)
                    · rw [if_neg c38] at H
                      exact absurd H (by simp)
              case rest =>
                clear HC33
                try clear c1
                try clear c2
                try clear p2
                try clear c3
                try clear c4
                try clear c6
                try clear c6b0
                try clear c6b1
                try clear p6
                try clear c7
                try clear c7b0
                try clear c7b1
                try clear c8
                try clear c8b0
                try clear c8b1
                try clear c9
                try clear c10
                try clear c15
                try clear c20
                try clear c24
                try clear c25
                try clear c26
                try clear c26b0
                try clear c28
                try clear c30
                try clear c36
                try clear c36b0
                try clear c36b1
                try clear c37
                try clear c37b0
                try clear c37b1
                try clear c38
                try clear c38b0
                try clear c38b1
                try clear c38b2
                try clear c39
                try clear c39b0
                try clear c39b1
                try clear c39b2
                try clear c40
                try clear c40b0
                try clear c40b1
                try clear c40b2
                try clear c41
                try clear c41b0
                try clear c41b1
                try clear c41b2
                try clear c43
                try clear c43b0
                try clear c43b1
                try clear c43b2
                try clear c44
                try clear c44b0
                try clear c44b1
                try clear c44b2
                try clear c45
                try clear c45b0
                try clear c45b1
                try clear c45b2
                try clear c46
                try clear c46b0
                try clear c46b1
                try clear c46b2
                try clear hcz15_0
                try clear hcz15_1
                try clear hcz15_2
                try clear hcz15_3
                try clear hcz15_4
                try clear hcz21_0
                try clear hcz21_1
                try clear hcz21_2
                try clear hcz21_3
                try clear hcz21_4
                try clear hfz15_0
                try clear hfz15_1
                try clear hfz15_2
                try clear hfz15_3
                try clear hfz15_4
                try clear hfz21_0
                try clear hfz21_1
                try clear hfz21_2
                try clear hfz21_3
                try clear hfz21_4
                try clear p2
                try clear p6
                obtain ⟨kq, x100_32, rfl, HA, HJ32, HO_316003, HO_316004, HO_327003, HO_327004, BK315, BK326, HB⟩ := hcut
                cases kq with
                | zero => exact absurd HA.out (by simp [laws_FnPrUglyJoin.j2])
                | succ kj32 =>
                  have H := HA.out
                  clear HA
                  simp only [laws_FnPrUglyJoin.j2] at H
                  by_cases c48 : x100_32 = true
                  · subst c48
                    have H1 : (some false) = some r := by rw [if_pos rfl] at H; exact H
                    clear H
                    have H := H1
                    clear H1
                    obtain rfl := Option.some.inj H
                    go_wp2
                    go_ret
                    exact ⟨by first | rfl | (simp [errW_none, errW_some] <;> rfl) | (simp [*, errW_none, errW_some] <;> rfl), by repeat (first | (with_reducible first | exact HB.out | apply below_alloc | apply pw_below_drewN | apply below_drew1 | refine below_set ?_ GE315.out | refine below_set ?_ GE326.out) | exact HB.out)⟩
                  · replace c48 := Bool.eq_false_iff.mpr c48
                    subst c48
                    have H1 : ((spec_Quote.f kj32 a2).bind fun t332 => ((spec_Quote.f kj32 a3).bind fun t333 => (if 1 + t332.size ≤ 9223372036854775807 then (if ((⟨#[123]⟩ : ByteArray) ++ t332).size + 3 ≤ 9223372036854775807 then (if (((⟨#[123]⟩ : ByteArray) ++ t332) ++ (⟨#[32, 58, 32]⟩ : ByteArray)).size + a0.size ≤ 9223372036854775807 then (if ((((⟨#[123]⟩ : ByteArray) ++ t332) ++ (⟨#[32, 58, 32]⟩ : ByteArray)) ++ a0).size + 2 ≤ 9223372036854775807 then (if (((((⟨#[123]⟩ : ByteArray) ++ t332) ++ (⟨#[32, 58, 32]⟩ : ByteArray)) ++ a0) ++ (⟨#[44, 9]⟩ : ByteArray)).size + t333.size ≤ 9223372036854775807 then (if ((((((⟨#[123]⟩ : ByteArray) ++ t332) ++ (⟨#[32, 58, 32]⟩ : ByteArray)) ++ a0) ++ (⟨#[44, 9]⟩ : ByteArray)) ++ t333).size + 1 ≤ 9223372036854775807 then (if (((((((⟨#[123]⟩ : ByteArray) ++ t332) ++ (⟨#[32, 58, 32]⟩ : ByteArray)) ++ a0) ++ (⟨#[44, 9]⟩ : ByteArray)) ++ t333) ++ (⟨#[58]⟩ : ByteArray)).size + a1.size ≤ 9223372036854775807 then (if ((((((((⟨#[123]⟩ : ByteArray) ++ t332) ++ (⟨#[32, 58, 32]⟩ : ByteArray)) ++ a0) ++ (⟨#[44, 9]⟩ : ByteArray)) ++ t333) ++ (⟨#[58]⟩ : ByteArray)) ++ a1).size + 2 ≤ 9223372036854775807 then ((impl_PrUgly.f (((((((((⟨#[123]⟩ : ByteArray) ++ t332) ++ (⟨#[32, 58, 32]⟩ : ByteArray)) ++ a0) ++ (⟨#[44, 9]⟩ : ByteArray)) ++ t333) ++ (⟨#[58]⟩ : ByteArray)) ++ a1) ++ (⟨#[13, 125]⟩ : ByteArray))).bind fun t334 => (if ((⟨#[123]⟩ : ByteArray) ++ t332).size + 1 ≤ 9223372036854775807 then (if (((⟨#[123]⟩ : ByteArray) ++ t332) ++ (⟨#[58]⟩ : ByteArray)).size + t329.size ≤ 9223372036854775807 then (if ((((⟨#[123]⟩ : ByteArray) ++ t332) ++ (⟨#[58]⟩ : ByteArray)) ++ t329).size + 1 ≤ 9223372036854775807 then (if (((((⟨#[123]⟩ : ByteArray) ++ t332) ++ (⟨#[58]⟩ : ByteArray)) ++ t329) ++ (⟨#[44]⟩ : ByteArray)).size + t333.size ≤ 9223372036854775807 then (if ((((((⟨#[123]⟩ : ByteArray) ++ t332) ++ (⟨#[58]⟩ : ByteArray)) ++ t329) ++ (⟨#[44]⟩ : ByteArray)) ++ t333).size + 1 ≤ 9223372036854775807 then (if (((((((⟨#[123]⟩ : ByteArray) ++ t332) ++ (⟨#[58]⟩ : ByteArray)) ++ t329) ++ (⟨#[44]⟩ : ByteArray)) ++ t333) ++ (⟨#[58]⟩ : ByteArray)).size + t330.size ≤ 9223372036854775807 then (if ((((((((⟨#[123]⟩ : ByteArray) ++ t332) ++ (⟨#[58]⟩ : ByteArray)) ++ t329) ++ (⟨#[44]⟩ : ByteArray)) ++ t333) ++ (⟨#[58]⟩ : ByteArray)) ++ t330).size + 1 ≤ 9223372036854775807 then (some (t334.toList == (((((((((⟨#[123]⟩ : ByteArray) ++ t332) ++ (⟨#[58]⟩ : ByteArray)) ++ t329) ++ (⟨#[44]⟩ : ByteArray)) ++ t333) ++ (⟨#[58]⟩ : ByteArray)) ++ t330) ++ (⟨#[125]⟩ : ByteArray)).toList)) else (none)) else (none)) else (none)) else (none)) else (none)) else (none)) else (none))) else (none)) else (none)) else (none)) else (none)) else (none)) else (none)) else (none)) else (none)))) = some r := by rw [if_neg (show ¬ (false = true) by decide)] at H; exact H
                    clear H
                    have H := H1
                    clear H1
                    replace H := Option.bind_eq_some_iff.mp H
                    obtain ⟨t332, A490, H⟩ := H
                    replace H : ((spec_Quote.f kj32 a3).bind fun t333 => (if 1 + t332.size ≤ 9223372036854775807 then (if ((⟨#[123]⟩ : ByteArray) ++ t332).size + 3 ≤ 9223372036854775807 then (if (((⟨#[123]⟩ : ByteArray) ++ t332) ++ (⟨#[32, 58, 32]⟩ : ByteArray)).size + a0.size ≤ 9223372036854775807 then (if ((((⟨#[123]⟩ : ByteArray) ++ t332) ++ (⟨#[32, 58, 32]⟩ : ByteArray)) ++ a0).size + 2 ≤ 9223372036854775807 then (if (((((⟨#[123]⟩ : ByteArray) ++ t332) ++ (⟨#[32, 58, 32]⟩ : ByteArray)) ++ a0) ++ (⟨#[44, 9]⟩ : ByteArray)).size + t333.size ≤ 9223372036854775807 then (if ((((((⟨#[123]⟩ : ByteArray) ++ t332) ++ (⟨#[32, 58, 32]⟩ : ByteArray)) ++ a0) ++ (⟨#[44, 9]⟩ : ByteArray)) ++ t333).size + 1 ≤ 9223372036854775807 then (if (((((((⟨#[123]⟩ : ByteArray) ++ t332) ++ (⟨#[32, 58, 32]⟩ : ByteArray)) ++ a0) ++ (⟨#[44, 9]⟩ : ByteArray)) ++ t333) ++ (⟨#[58]⟩ : ByteArray)).size + a1.size ≤ 9223372036854775807 then (if ((((((((⟨#[123]⟩ : ByteArray) ++ t332) ++ (⟨#[32, 58, 32]⟩ : ByteArray)) ++ a0) ++ (⟨#[44, 9]⟩ : ByteArray)) ++ t333) ++ (⟨#[58]⟩ : ByteArray)) ++ a1).size + 2 ≤ 9223372036854775807 then ((impl_PrUgly.f (((((((((⟨#[123]⟩ : ByteArray) ++ t332) ++ (⟨#[32, 58, 32]⟩ : ByteArray)) ++ a0) ++ (⟨#[44, 9]⟩ : ByteArray)) ++ t333) ++ (⟨#[58]⟩ : ByteArray)) ++ a1) ++ (⟨#[13, 125]⟩ : ByteArray))).bind fun t334 => (if ((⟨#[123]⟩ : ByteArray) ++ t332).size + 1 ≤ 9223372036854775807 then (if (((⟨#[123]⟩ : ByteArray) ++ t332) ++ (⟨#[58]⟩ : ByteArray)).size + t329.size ≤ 9223372036854775807 then (if ((((⟨#[123]⟩ : ByteArray) ++ t332) ++ (⟨#[58]⟩ : ByteArray)) ++ t329).size + 1 ≤ 9223372036854775807 then (if (((((⟨#[123]⟩ : ByteArray) ++ t332) ++ (⟨#[58]⟩ : ByteArray)) ++ t329) ++ (⟨#[44]⟩ : ByteArray)).size + t333.size ≤ 9223372036854775807 then (if ((((((⟨#[123]⟩ : ByteArray) ++ t332) ++ (⟨#[58]⟩ : ByteArray)) ++ t329) ++ (⟨#[44]⟩ : ByteArray)) ++ t333).size + 1 ≤ 9223372036854775807 then (if (((((((⟨#[123]⟩ : ByteArray) ++ t332) ++ (⟨#[58]⟩ : ByteArray)) ++ t329) ++ (⟨#[44]⟩ : ByteArray)) ++ t333) ++ (⟨#[58]⟩ : ByteArray)).size + t330.size ≤ 9223372036854775807 then (if ((((((((⟨#[123]⟩ : ByteArray) ++ t332) ++ (⟨#[58]⟩ : ByteArray)) ++ t329) ++ (⟨#[44]⟩ : ByteArray)) ++ t333) ++ (⟨#[58]⟩ : ByteArray)) ++ t330).size + 1 ≤ 9223372036854775807 then (some (t334.toList == (((((((((⟨#[123]⟩ : ByteArray) ++ t332) ++ (⟨#[58]⟩ : ByteArray)) ++ t329) ++ (⟨#[44]⟩ : ByteArray)) ++ t333) ++ (⟨#[58]⟩ : ByteArray)) ++ t330) ++ (⟨#[125]⟩ : ByteArray)).toList)) else (none)) else (none)) else (none)) else (none)) else (none)) else (none)) else (none))) else (none)) else (none)) else (none)) else (none)) else (none)) else (none)) else (none)) else (none))) = some r := H
                    have A49 := Aside0.mk A490
                    clear A490
                    replace H := Option.bind_eq_some_iff.mp H
                    obtain ⟨t333, A500, H⟩ := H
                    replace H : (if 1 + t332.size ≤ 9223372036854775807 then (if ((⟨#[123]⟩ : ByteArray) ++ t332).size + 3 ≤ 9223372036854775807 then (if (((⟨#[123]⟩ : ByteArray) ++ t332) ++ (⟨#[32, 58, 32]⟩ : ByteArray)).size + a0.size ≤ 9223372036854775807 then (if ((((⟨#[123]⟩ : ByteArray) ++ t332) ++ (⟨#[32, 58, 32]⟩ : ByteArray)) ++ a0).size + 2 ≤ 9223372036854775807 then (if (((((⟨#[123]⟩ : ByteArray) ++ t332) ++ (⟨#[32, 58, 32]⟩ : ByteArray)) ++ a0) ++ (⟨#[44, 9]⟩ : ByteArray)).size + t333.size ≤ 9223372036854775807 then (if ((((((⟨#[123]⟩ : ByteArray) ++ t332) ++ (⟨#[32, 58, 32]⟩ : ByteArray)) ++ a0) ++ (⟨#[44, 9]⟩ : ByteArray)) ++ t333).size + 1 ≤ 9223372036854775807 then (if (((((((⟨#[123]⟩ : ByteArray) ++ t332) ++ (⟨#[32, 58, 32]⟩ : ByteArray)) ++ a0) ++ (⟨#[44, 9]⟩ : ByteArray)) ++ t333) ++ (⟨#[58]⟩ : ByteArray)).size + a1.size ≤ 9223372036854775807 then (if ((((((((⟨#[123]⟩ : ByteArray) ++ t332) ++ (⟨#[32, 58, 32]⟩ : ByteArray)) ++ a0) ++ (⟨#[44, 9]⟩ : ByteArray)) ++ t333) ++ (⟨#[58]⟩ : ByteArray)) ++ a1).size + 2 ≤ 9223372036854775807 then ((impl_PrUgly.f (((((((((⟨#[123]⟩ : ByteArray) ++ t332) ++ (⟨#[32, 58, 32]⟩ : ByteArray)) ++ a0) ++ (⟨#[44, 9]⟩ : ByteArray)) ++ t333) ++ (⟨#[58]⟩ : ByteArray)) ++ a1) ++ (⟨#[13, 125]⟩ : ByteArray))).bind fun t334 => (if ((⟨#[123]⟩ : ByteArray) ++ t332).size + 1 ≤ 9223372036854775807 then (if (((⟨#[123]⟩ : ByteArray) ++ t332) ++ (⟨#[58]⟩ : ByteArray)).size + t329.size ≤ 9223372036854775807 then (if ((((⟨#[123]⟩ : ByteArray) ++ t332) ++ (⟨#[58]⟩ : ByteArray)) ++ t329).size + 1 ≤ 9223372036854775807 then (if (((((⟨#[123]⟩ : ByteArray) ++ t332) ++ (⟨#[58]⟩ : ByteArray)) ++ t329) ++ (⟨#[44]⟩ : ByteArray)).size + t333.size ≤ 9223372036854775807 then (if ((((((⟨#[123]⟩ : ByteArray) ++ t332) ++ (⟨#[58]⟩ : ByteArray)) ++ t329) ++ (⟨#[44]⟩ : ByteArray)) ++ t333).size + 1 ≤ 9223372036854775807 then (if (((((((⟨#[123]⟩ : ByteArray) ++ t332) ++ (⟨#[58]⟩ : ByteArray)) ++ t329) ++ (⟨#[44]⟩ : ByteArray)) ++ t333) ++ (⟨#[58]⟩ : ByteArray)).size + t330.size ≤ 9223372036854775807 then (if ((((((((⟨#[123]⟩ : ByteArray) ++ t332) ++ (⟨#[58]⟩ : ByteArray)) ++ t329) ++ (⟨#[44]⟩ : ByteArray)) ++ t333) ++ (⟨#[58]⟩ : ByteArray)) ++ t330).size + 1 ≤ 9223372036854775807 then (some (t334.toList == (((((((((⟨#[123]⟩ : ByteArray) ++ t332) ++ (⟨#[58]⟩ : ByteArray)) ++ t329) ++ (⟨#[44]⟩ : ByteArray)) ++ t333) ++ (⟨#[58]⟩ : ByteArray)) ++ t330) ++ (⟨#[125]⟩ : ByteArray)).toList)) else (none)) else (none)) else (none)) else (none)) else (none)) else (none)) else (none))) else (none)) else (none)) else (none)) else (none)) else (none)) else (none)) else (none)) else (none)) = some r := H
                    have A50 := Aside0.mk A500
                    clear A500
                    by_cases c51 : 1 + t332.size ≤ 9223372036854775807
                    · rw [if_pos c51] at H
                      have c51b0 := eq_true c51
                      have c51b1 : decide (1 + t332.size ≤ 9223372036854775807) = true := decide_eq_true c51
                      try have c51b2 : (9223372036854775807 < 1 + t332.size) = False := eq_false (Nat.not_lt.2 c51)
                      by_cases c52 : ((⟨#[123]⟩ : ByteArray) ++ t332).size + 3 ≤ 9223372036854775807
                      · rw [if_pos c52] at H
                        have c52b0 := eq_true c52
                        have c52b1 : decide (((⟨#[123]⟩ : ByteArray) ++ t332).size + 3 ≤ 9223372036854775807) = true := decide_eq_true c52
                        try have c52b2 : (9223372036854775807 < ((⟨#[123]⟩ : ByteArray) ++ t332).size + 3) = False := eq_false (Nat.not_lt.2 c52)
                        have c52b3 : (9223372036854775807 < 1 + t332.size + 3) = False := eq_false (by have q_ := c52; simp only [ByteArray.size_append, show (⟨#[123]⟩ : ByteArray).size = 1 from rfl] at q_; omega)
                        by_cases c53 : (((⟨#[123]⟩ : ByteArray) ++ t332) ++ (⟨#[32, 58, 32]⟩ : ByteArray)).size + a0.size ≤ 9223372036854775807
                        · rw [if_pos c53] at H
                          have c53b0 := eq_true c53
                          have c53b1 : decide ((((⟨#[123]⟩ : ByteArray) ++ t332) ++ (⟨#[32, 58, 32]⟩ : ByteArray)).size + a0.size ≤ 9223372036854775807) = true := decide_eq_true c53
                          try have c53b2 : (9223372036854775807 < (((⟨#[123]⟩ : ByteArray) ++ t332) ++ (⟨#[32, 58, 32]⟩ : ByteArray)).size + a0.size) = False := eq_false (Nat.not_lt.2 c53)
                          have c53b3 : (9223372036854775807 < 1 + t332.size + 3 + a0.size) = False := eq_false (by have q_ := c53; simp only [ByteArray.size_append, show (⟨#[123]⟩ : ByteArray).size = 1 from rfl, show (⟨#[32, 58, 32]⟩ : ByteArray).size = 3 from rfl] at q_; omega)
                          by_cases c54 : ((((⟨#[123]⟩ : ByteArray) ++ t332) ++ (⟨#[32, 58, 32]⟩ : ByteArray)) ++ a0).size + 2 ≤ 9223372036854775807
                          · rw [if_pos c54] at H
                            have c54b0 := eq_true c54
                            have c54b1 : decide (((((⟨#[123]⟩ : ByteArray) ++ t332) ++ (⟨#[32, 58, 32]⟩ : ByteArray)) ++ a0).size + 2 ≤ 9223372036854775807) = true := decide_eq_true c54
                            try have c54b2 : (9223372036854775807 < ((((⟨#[123]⟩ : ByteArray) ++ t332) ++ (⟨#[32, 58, 32]⟩ : ByteArray)) ++ a0).size + 2) = False := eq_false (Nat.not_lt.2 c54)
                            have c54b3 : (9223372036854775807 < 1 + t332.size + 3 + a0.size + 2) = False := eq_false (by have q_ := c54; simp only [ByteArray.size_append, show (⟨#[123]⟩ : ByteArray).size = 1 from rfl, show (⟨#[32, 58, 32]⟩ : ByteArray).size = 3 from rfl] at q_; omega)
                            by_cases c55 : (((((⟨#[123]⟩ : ByteArray) ++ t332) ++ (⟨#[32, 58, 32]⟩ : ByteArray)) ++ a0) ++ (⟨#[44, 9]⟩ : ByteArray)).size + t333.size ≤ 9223372036854775807
                            · rw [if_pos c55] at H
                              have c55b0 := eq_true c55
                              have c55b1 : decide ((((((⟨#[123]⟩ : ByteArray) ++ t332) ++ (⟨#[32, 58, 32]⟩ : ByteArray)) ++ a0) ++ (⟨#[44, 9]⟩ : ByteArray)).size + t333.size ≤ 9223372036854775807) = true := decide_eq_true c55
                              try have c55b2 : (9223372036854775807 < (((((⟨#[123]⟩ : ByteArray) ++ t332) ++ (⟨#[32, 58, 32]⟩ : ByteArray)) ++ a0) ++ (⟨#[44, 9]⟩ : ByteArray)).size + t333.size) = False := eq_false (Nat.not_lt.2 c55)
                              have c55b3 : (9223372036854775807 < 1 + t332.size + 3 + a0.size + 2 + t333.size) = False := eq_false (by have q_ := c55; simp only [ByteArray.size_append, show (⟨#[123]⟩ : ByteArray).size = 1 from rfl, show (⟨#[32, 58, 32]⟩ : ByteArray).size = 3 from rfl, show (⟨#[44, 9]⟩ : ByteArray).size = 2 from rfl] at q_; omega)
                              by_cases c56 : ((((((⟨#[123]⟩ : ByteArray) ++ t332) ++ (⟨#[32, 58, 32]⟩ : ByteArray)) ++ a0) ++ (⟨#[44, 9]⟩ : ByteArray)) ++ t333).size + 1 ≤ 9223372036854775807
                              · rw [if_pos c56] at H
                                have c56b0 := eq_true c56
                                have c56b1 : decide (((((((⟨#[123]⟩ : ByteArray) ++ t332) ++ (⟨#[32, 58, 32]⟩ : ByteArray)) ++ a0) ++ (⟨#[44, 9]⟩ : ByteArray)) ++ t333).size + 1 ≤ 9223372036854775807) = true := decide_eq_true c56
                                try have c56b2 : (9223372036854775807 < ((((((⟨#[123]⟩ : ByteArray) ++ t332) ++ (⟨#[32, 58, 32]⟩ : ByteArray)) ++ a0) ++ (⟨#[44, 9]⟩ : ByteArray)) ++ t333).size + 1) = False := eq_false (Nat.not_lt.2 c56)
                                have c56b3 : (9223372036854775807 < 1 + t332.size + 3 + a0.size + 2 + t333.size + 1) = False := eq_false (by have q_ := c56; simp only [ByteArray.size_append, show (⟨#[123]⟩ : ByteArray).size = 1 from rfl, show (⟨#[32, 58, 32]⟩ : ByteArray).size = 3 from rfl, show (⟨#[44, 9]⟩ : ByteArray).size = 2 from rfl] at q_; omega)
                                by_cases c57 : (((((((⟨#[123]⟩ : ByteArray) ++ t332) ++ (⟨#[32, 58, 32]⟩ : ByteArray)) ++ a0) ++ (⟨#[44, 9]⟩ : ByteArray)) ++ t333) ++ (⟨#[58]⟩ : ByteArray)).size + a1.size ≤ 9223372036854775807
                                · rw [if_pos c57] at H
                                  have c57b0 := eq_true c57
                                  have c57b1 : decide ((((((((⟨#[123]⟩ : ByteArray) ++ t332) ++ (⟨#[32, 58, 32]⟩ : ByteArray)) ++ a0) ++ (⟨#[44, 9]⟩ : ByteArray)) ++ t333) ++ (⟨#[58]⟩ : ByteArray)).size + a1.size ≤ 9223372036854775807) = true := decide_eq_true c57
                                  try have c57b2 : (9223372036854775807 < (((((((⟨#[123]⟩ : ByteArray) ++ t332) ++ (⟨#[32, 58, 32]⟩ : ByteArray)) ++ a0) ++ (⟨#[44, 9]⟩ : ByteArray)) ++ t333) ++ (⟨#[58]⟩ : ByteArray)).size + a1.size) = False := eq_false (Nat.not_lt.2 c57)
                                  have c57b3 : (9223372036854775807 < 1 + t332.size + 3 + a0.size + 2 + t333.size + 1 + a1.size) = False := eq_false (by have q_ := c57; simp only [ByteArray.size_append, show (⟨#[123]⟩ : ByteArray).size = 1 from rfl, show (⟨#[32, 58, 32]⟩ : ByteArray).size = 3 from rfl, show (⟨#[44, 9]⟩ : ByteArray).size = 2 from rfl, show (⟨#[58]⟩ : ByteArray).size = 1 from rfl] at q_; omega)
                                  by_cases c58 : ((((((((⟨#[123]⟩ : ByteArray) ++ t332) ++ (⟨#[32, 58, 32]⟩ : ByteArray)) ++ a0) ++ (⟨#[44, 9]⟩ : ByteArray)) ++ t333) ++ (⟨#[58]⟩ : ByteArray)) ++ a1).size + 2 ≤ 9223372036854775807
                                  · rw [if_pos c58] at H
                                    have c58b0 := eq_true c58
                                    have c58b1 : decide (((((((((⟨#[123]⟩ : ByteArray) ++ t332) ++ (⟨#[32, 58, 32]⟩ : ByteArray)) ++ a0) ++ (⟨#[44, 9]⟩ : ByteArray)) ++ t333) ++ (⟨#[58]⟩ : ByteArray)) ++ a1).size + 2 ≤ 9223372036854775807) = true := decide_eq_true c58
                                    try have c58b2 : (9223372036854775807 < ((((((((⟨#[123]⟩ : ByteArray) ++ t332) ++ (⟨#[32, 58, 32]⟩ : ByteArray)) ++ a0) ++ (⟨#[44, 9]⟩ : ByteArray)) ++ t333) ++ (⟨#[58]⟩ : ByteArray)) ++ a1).size + 2) = False := eq_false (Nat.not_lt.2 c58)
                                    have c58b3 : (9223372036854775807 < 1 + t332.size + 3 + a0.size + 2 + t333.size + 1 + a1.size + 2) = False := eq_false (by have q_ := c58; simp only [ByteArray.size_append, show (⟨#[123]⟩ : ByteArray).size = 1 from rfl, show (⟨#[32, 58, 32]⟩ : ByteArray).size = 3 from rfl, show (⟨#[44, 9]⟩ : ByteArray).size = 2 from rfl, show (⟨#[58]⟩ : ByteArray).size = 1 from rfl] at q_; omega)
                                    replace H := Option.bind_eq_some_iff.mp H
                                    obtain ⟨t334, A590, H⟩ := H
                                    replace H : (if ((⟨#[123]⟩ : ByteArray) ++ t332).size + 1 ≤ 9223372036854775807 then (if (((⟨#[123]⟩ : ByteArray) ++ t332) ++ (⟨#[58]⟩ : ByteArray)).size + t329.size ≤ 9223372036854775807 then (if ((((⟨#[123]⟩ : ByteArray) ++ t332) ++ (⟨#[58]⟩ : ByteArray)) ++ t329).size + 1 ≤ 9223372036854775807 then (if (((((⟨#[123]⟩ : ByteArray) ++ t332) ++ (⟨#[58]⟩ : ByteArray)) ++ t329) ++ (⟨#[44]⟩ : ByteArray)).size + t333.size ≤ 9223372036854775807 then (if ((((((⟨#[123]⟩ : ByteArray) ++ t332) ++ (⟨#[58]⟩ : ByteArray)) ++ t329) ++ (⟨#[44]⟩ : ByteArray)) ++ t333).size + 1 ≤ 9223372036854775807 then (if (((((((⟨#[123]⟩ : ByteArray) ++ t332) ++ (⟨#[58]⟩ : ByteArray)) ++ t329) ++ (⟨#[44]⟩ : ByteArray)) ++ t333) ++ (⟨#[58]⟩ : ByteArray)).size + t330.size ≤ 9223372036854775807 then (if ((((((((⟨#[123]⟩ : ByteArray) ++ t332) ++ (⟨#[58]⟩ : ByteArray)) ++ t329) ++ (⟨#[44]⟩ : ByteArray)) ++ t333) ++ (⟨#[58]⟩ : ByteArray)) ++ t330).size + 1 ≤ 9223372036854775807 then (some (t334.toList == (((((((((⟨#[123]⟩ : ByteArray) ++ t332) ++ (⟨#[58]⟩ : ByteArray)) ++ t329) ++ (⟨#[44]⟩ : ByteArray)) ++ t333) ++ (⟨#[58]⟩ : ByteArray)) ++ t330) ++ (⟨#[125]⟩ : ByteArray)).toList)) else (none)) else (none)) else (none)) else (none)) else (none)) else (none)) else (none)) = some r := H
                                    have A59 := Aside0.mk A590
                                    clear A590
                                    by_cases c60 : ((⟨#[123]⟩ : ByteArray) ++ t332).size + 1 ≤ 9223372036854775807
                                    · rw [if_pos c60] at H
                                      have c60b0 := eq_true c60
                                      have c60b1 : decide (((⟨#[123]⟩ : ByteArray) ++ t332).size + 1 ≤ 9223372036854775807) = true := decide_eq_true c60
                                      try have c60b2 : (9223372036854775807 < ((⟨#[123]⟩ : ByteArray) ++ t332).size + 1) = False := eq_false (Nat.not_lt.2 c60)
                                      have c60b3 : (9223372036854775807 < 1 + t332.size + 1) = False := eq_false (by have q_ := c60; simp only [ByteArray.size_append, show (⟨#[123]⟩ : ByteArray).size = 1 from rfl] at q_; omega)
                                      by_cases c61 : (((⟨#[123]⟩ : ByteArray) ++ t332) ++ (⟨#[58]⟩ : ByteArray)).size + t329.size ≤ 9223372036854775807
                                      · rw [if_pos c61] at H
                                        have c61b0 := eq_true c61
                                        have c61b1 : decide ((((⟨#[123]⟩ : ByteArray) ++ t332) ++ (⟨#[58]⟩ : ByteArray)).size + t329.size ≤ 9223372036854775807) = true := decide_eq_true c61
                                        try have c61b2 : (9223372036854775807 < (((⟨#[123]⟩ : ByteArray) ++ t332) ++ (⟨#[58]⟩ : ByteArray)).size + t329.size) = False := eq_false (Nat.not_lt.2 c61)
                                        have c61b3 : (9223372036854775807 < 1 + t332.size + 1 + t329.size) = False := eq_false (by have q_ := c61; simp only [ByteArray.size_append, show (⟨#[123]⟩ : ByteArray).size = 1 from rfl, show (⟨#[58]⟩ : ByteArray).size = 1 from rfl] at q_; omega)
                                        by_cases c62 : ((((⟨#[123]⟩ : ByteArray) ++ t332) ++ (⟨#[58]⟩ : ByteArray)) ++ t329).size + 1 ≤ 9223372036854775807
                                        · rw [if_pos c62] at H
                                          have c62b0 := eq_true c62
                                          have c62b1 : decide (((((⟨#[123]⟩ : ByteArray) ++ t332) ++ (⟨#[58]⟩ : ByteArray)) ++ t329).size + 1 ≤ 9223372036854775807) = true := decide_eq_true c62
                                          try have c62b2 : (9223372036854775807 < ((((⟨#[123]⟩ : ByteArray) ++ t332) ++ (⟨#[58]⟩ : ByteArray)) ++ t329).size + 1) = False := eq_false (Nat.not_lt.2 c62)
                                          have c62b3 : (9223372036854775807 < 1 + t332.size + 1 + t329.size + 1) = False := eq_false (by have q_ := c62; simp only [ByteArray.size_append, show (⟨#[123]⟩ : ByteArray).size = 1 from rfl, show (⟨#[58]⟩ : ByteArray).size = 1 from rfl] at q_; omega)
                                          by_cases c63 : (((((⟨#[123]⟩ : ByteArray) ++ t332) ++ (⟨#[58]⟩ : ByteArray)) ++ t329) ++ (⟨#[44]⟩ : ByteArray)).size + t333.size ≤ 9223372036854775807
                                          · rw [if_pos c63] at H
                                            have c63b0 := eq_true c63
                                            have c63b1 : decide ((((((⟨#[123]⟩ : ByteArray) ++ t332) ++ (⟨#[58]⟩ : ByteArray)) ++ t329) ++ (⟨#[44]⟩ : ByteArray)).size + t333.size ≤ 9223372036854775807) = true := decide_eq_true c63
                                            try have c63b2 : (9223372036854775807 < (((((⟨#[123]⟩ : ByteArray) ++ t332) ++ (⟨#[58]⟩ : ByteArray)) ++ t329) ++ (⟨#[44]⟩ : ByteArray)).size + t333.size) = False := eq_false (Nat.not_lt.2 c63)
                                            have c63b3 : (9223372036854775807 < 1 + t332.size + 1 + t329.size + 1 + t333.size) = False := eq_false (by have q_ := c63; simp only [ByteArray.size_append, show (⟨#[123]⟩ : ByteArray).size = 1 from rfl, show (⟨#[44]⟩ : ByteArray).size = 1 from rfl, show (⟨#[58]⟩ : ByteArray).size = 1 from rfl] at q_; omega)
                                            by_cases c64 : ((((((⟨#[123]⟩ : ByteArray) ++ t332) ++ (⟨#[58]⟩ : ByteArray)) ++ t329) ++ (⟨#[44]⟩ : ByteArray)) ++ t333).size + 1 ≤ 9223372036854775807
                                            · rw [if_pos c64] at H
                                              have c64b0 := eq_true c64
                                              have c64b1 : decide (((((((⟨#[123]⟩ : ByteArray) ++ t332) ++ (⟨#[58]⟩ : ByteArray)) ++ t329) ++ (⟨#[44]⟩ : ByteArray)) ++ t333).size + 1 ≤ 9223372036854775807) = true := decide_eq_true c64
                                              try have c64b2 : (9223372036854775807 < ((((((⟨#[123]⟩ : ByteArray) ++ t332) ++ (⟨#[58]⟩ : ByteArray)) ++ t329) ++ (⟨#[44]⟩ : ByteArray)) ++ t333).size + 1) = False := eq_false (Nat.not_lt.2 c64)
                                              have c64b3 : (9223372036854775807 < 1 + t332.size + 1 + t329.size + 1 + t333.size + 1) = False := eq_false (by have q_ := c64; simp only [ByteArray.size_append, show (⟨#[123]⟩ : ByteArray).size = 1 from rfl, show (⟨#[44]⟩ : ByteArray).size = 1 from rfl, show (⟨#[58]⟩ : ByteArray).size = 1 from rfl] at q_; omega)
                                              by_cases c65 : (((((((⟨#[123]⟩ : ByteArray) ++ t332) ++ (⟨#[58]⟩ : ByteArray)) ++ t329) ++ (⟨#[44]⟩ : ByteArray)) ++ t333) ++ (⟨#[58]⟩ : ByteArray)).size + t330.size ≤ 9223372036854775807
                                              · rw [if_pos c65] at H
                                                have c65b0 := eq_true c65
                                                have c65b1 : decide ((((((((⟨#[123]⟩ : ByteArray) ++ t332) ++ (⟨#[58]⟩ : ByteArray)) ++ t329) ++ (⟨#[44]⟩ : ByteArray)) ++ t333) ++ (⟨#[58]⟩ : ByteArray)).size + t330.size ≤ 9223372036854775807) = true := decide_eq_true c65
                                                try have c65b2 : (9223372036854775807 < (((((((⟨#[123]⟩ : ByteArray) ++ t332) ++ (⟨#[58]⟩ : ByteArray)) ++ t329) ++ (⟨#[44]⟩ : ByteArray)) ++ t333) ++ (⟨#[58]⟩ : ByteArray)).size + t330.size) = False := eq_false (Nat.not_lt.2 c65)
                                                have c65b3 : (9223372036854775807 < 1 + t332.size + 1 + t329.size + 1 + t333.size + 1 + t330.size) = False := eq_false (by have q_ := c65; simp only [ByteArray.size_append, show (⟨#[123]⟩ : ByteArray).size = 1 from rfl, show (⟨#[44]⟩ : ByteArray).size = 1 from rfl, show (⟨#[58]⟩ : ByteArray).size = 1 from rfl] at q_; omega)
                                                by_cases c66 : ((((((((⟨#[123]⟩ : ByteArray) ++ t332) ++ (⟨#[58]⟩ : ByteArray)) ++ t329) ++ (⟨#[44]⟩ : ByteArray)) ++ t333) ++ (⟨#[58]⟩ : ByteArray)) ++ t330).size + 1 ≤ 9223372036854775807
                                                · rw [if_pos c66] at H
                                                  have c66b0 := eq_true c66
                                                  have c66b1 : decide (((((((((⟨#[123]⟩ : ByteArray) ++ t332) ++ (⟨#[58]⟩ : ByteArray)) ++ t329) ++ (⟨#[44]⟩ : ByteArray)) ++ t333) ++ (⟨#[58]⟩ : ByteArray)) ++ t330).size + 1 ≤ 9223372036854775807) = true := decide_eq_true c66
                                                  try have c66b2 : (9223372036854775807 < ((((((((⟨#[123]⟩ : ByteArray) ++ t332) ++ (⟨#[58]⟩ : ByteArray)) ++ t329) ++ (⟨#[44]⟩ : ByteArray)) ++ t333) ++ (⟨#[58]⟩ : ByteArray)) ++ t330).size + 1) = False := eq_false (Nat.not_lt.2 c66)
                                                  have c66b3 : (9223372036854775807 < 1 + t332.size + 1 + t329.size + 1 + t333.size + 1 + t330.size + 1) = False := eq_false (by have q_ := c66; simp only [ByteArray.size_append, show (⟨#[123]⟩ : ByteArray).size = 1 from rfl, show (⟨#[44]⟩ : ByteArray).size = 1 from rfl, show (⟨#[58]⟩ : ByteArray).size = 1 from rfl] at q_; omega)
                                                  obtain rfl := Option.some.inj H
                                                  go_wp2_with (first | ((with_reducible refine gate_callee (f := 16) rfl ?_); refine goesL_ (some 102) rfl rfl Try.func16 (by kernel_rfl) rfl #[.string a2] rfl (by (try simp only [List.map_toArray, List.map_cons, List.map_nil]); first | done | rfl | (simp only [List.length_drop, List.length_take]; rfl)) ?_; (with_reducible refine (spec_Quote.calls kj32 a2 t332 _ A49.out).mono ?_); rintro e w67 ⟨rfl, hb⟩; refine ⟨_, rfl, ?_⟩; have n0_ := Aside0.mk (Kd.R_below (by (with_reducible repeat (first | apply Kd.R_alloc | apply Kd.R_drewN | apply Kd.R_drew)); exact HO_316003.out) hb); have n1_ := Aside0.mk (Kd.R_below (by (with_reducible repeat (first | apply Kd.R_alloc | apply Kd.R_drewN | apply Kd.R_drew)); exact HO_316004.out) hb); have n2_ := Aside0.mk (Kd.R_below (by (with_reducible repeat (first | apply Kd.R_alloc | apply Kd.R_drewN | apply Kd.R_drew)); exact HO_327003.out) hb); have n3_ := Aside0.mk (Kd.R_below (by (with_reducible repeat (first | apply Kd.R_alloc | apply Kd.R_drewN | apply Kd.R_drew)); exact HO_327004.out) hb); have n4_ := Aside0.mk (blk_below (g := gb315) (o := .cells #[.int .i64 t305, .int .i64 t306, .int .i64 t307, .slice Ao16 t308.length co16, .slice Ao17 t311.length co17] 28 (0, 0)) (by (with_reducible repeat (first | refine blk_drewN ?_ _ | refine blk_drew ?_ | refine blk_alloc ?_ _)); exact BK315.out) hb); have n5_ := Aside0.mk (blk_below (g := gb326) (o := .cells #[.int .i64 t316, .int .i64 t317, .int .i64 t318, .slice Ao22 t319.length co22, .slice Ao23 t322.length co23] 28 (0, 0)) (by (with_reducible repeat (first | refine blk_drewN ?_ _ | refine blk_drew ?_ | refine blk_alloc ?_ _)); exact BK326.out) hb); have n6_ := Aside0.mk (below_step (by repeat (first | (with_reducible first | exact HB.out | apply below_alloc | apply pw_below_drewN | apply below_drew1 | refine below_set ?_ GE315.out | refine below_set ?_ GE326.out) | exact HB.out)) hb); clear HO_316003; clear HO_316004; clear HO_327003; clear HO_327004; clear BK315; clear BK326; clear HB; have HO_316003 := n0_; have HO_316004 := n1_; have HO_327003 := n2_; have HO_327004 := n3_; have BK315 := n4_; have BK326 := n5_; have HB := n6_; clear n0_ n1_ n2_ n3_ n4_ n5_ n6_; (try clear hb); (try clear hb2); (try clear hk); (try clear hi)) | ((with_reducible refine gate_callee (f := 16) rfl ?_); refine goesL_ (some 104) rfl rfl Try.func16 (by kernel_rfl) rfl #[.string a3] rfl (by (try simp only [List.map_toArray, List.map_cons, List.map_nil]); first | done | rfl | (simp only [List.length_drop, List.length_take]; rfl)) ?_; (with_reducible refine (spec_Quote.calls kj32 a3 t333 _ A50.out).mono ?_); rintro e w68 ⟨rfl, hb⟩; refine ⟨_, rfl, ?_⟩; have n0_ := Aside0.mk (Kd.R_below (by (with_reducible repeat (first | apply Kd.R_alloc | apply Kd.R_drewN | apply Kd.R_drew)); exact HO_316003.out) hb); have n1_ := Aside0.mk (Kd.R_below (by (with_reducible repeat (first | apply Kd.R_alloc | apply Kd.R_drewN | apply Kd.R_drew)); exact HO_316004.out) hb); have n2_ := Aside0.mk (Kd.R_below (by (with_reducible repeat (first | apply Kd.R_alloc | apply Kd.R_drewN | apply Kd.R_drew)); exact HO_327003.out) hb); have n3_ := Aside0.mk (Kd.R_below (by (with_reducible repeat (first | apply Kd.R_alloc | apply Kd.R_drewN | apply Kd.R_drew)); exact HO_327004.out) hb); have n4_ := Aside0.mk (blk_below (g := gb315) (o := .cells #[.int .i64 t305, .int .i64 t306, .int .i64 t307, .slice Ao16 t308.length co16, .slice Ao17 t311.length co17] 28 (0, 0)) (by (with_reducible repeat (first | refine blk_drewN ?_ _ | refine blk_drew ?_ | refine blk_alloc ?_ _)); exact BK315.out) hb); have n5_ := Aside0.mk (blk_below (g := gb326) (o := .cells #[.int .i64 t316, .int .i64 t317, .int .i64 t318, .slice Ao22 t319.length co22, .slice Ao23 t322.length co23] 28 (0, 0)) (by (with_reducible repeat (first | refine blk_drewN ?_ _ | refine blk_drew ?_ | refine blk_alloc ?_ _)); exact BK326.out) hb); have n6_ := Aside0.mk (below_step (by repeat (first | (with_reducible first | exact HB.out | apply below_alloc | apply pw_below_drewN | apply below_drew1 | refine below_set ?_ GE315.out | refine below_set ?_ GE326.out) | exact HB.out)) hb); clear HO_316003; clear HO_316004; clear HO_327003; clear HO_327004; clear BK315; clear BK326; clear HB; have HO_316003 := n0_; have HO_316004 := n1_; have HO_327003 := n2_; have HO_327004 := n3_; have BK315 := n4_; have BK326 := n5_; have HB := n6_; clear n0_ n1_ n2_ n3_ n4_ n5_ n6_; (try clear hb); (try clear hb2); (try clear hk); (try clear hi)) | ((with_reducible refine gate_callee (f := 15) rfl ?_); refine goesL_ (some 117) rfl rfl Try.func15 (by kernel_rfl) rfl #[.string (((((((((⟨#[123]⟩ : ByteArray) ++ t332) ++ (⟨#[32, 58, 32]⟩ : ByteArray)) ++ a0) ++ (⟨#[44, 9]⟩ : ByteArray)) ++ t333) ++ (⟨#[58]⟩ : ByteArray)) ++ a1) ++ (⟨#[13, 125]⟩ : ByteArray))] rfl (by (try simp only [List.map_toArray, List.map_cons, List.map_nil]); first | done | rfl | (simp only [List.length_drop, List.length_take]; rfl)) ?_; (with_reducible refine (impl_PrUgly.calls (((((((((⟨#[123]⟩ : ByteArray) ++ t332) ++ (⟨#[32, 58, 32]⟩ : ByteArray)) ++ a0) ++ (⟨#[44, 9]⟩ : ByteArray)) ++ t333) ++ (⟨#[58]⟩ : ByteArray)) ++ a1) ++ (⟨#[13, 125]⟩ : ByteArray)) t334 _ A59.out).mono ?_); rintro e w69 ⟨rfl, hb⟩; refine ⟨_, rfl, ?_⟩; have n0_ := Aside0.mk (Kd.R_below (by (with_reducible repeat (first | apply Kd.R_alloc | apply Kd.R_drewN | apply Kd.R_drew)); exact HO_316003.out) hb); have n1_ := Aside0.mk (Kd.R_below (by (with_reducible repeat (first | apply Kd.R_alloc | apply Kd.R_drewN | apply Kd.R_drew)); exact HO_316004.out) hb); have n2_ := Aside0.mk (Kd.R_below (by (with_reducible repeat (first | apply Kd.R_alloc | apply Kd.R_drewN | apply Kd.R_drew)); exact HO_327003.out) hb); have n3_ := Aside0.mk (Kd.R_below (by (with_reducible repeat (first | apply Kd.R_alloc | apply Kd.R_drewN | apply Kd.R_drew)); exact HO_327004.out) hb); have n4_ := Aside0.mk (blk_below (g := gb315) (o := .cells #[.int .i64 t305, .int .i64 t306, .int .i64 t307, .slice Ao16 t308.length co16, .slice Ao17 t311.length co17] 28 (0, 0)) (by (with_reducible repeat (first | refine blk_drewN ?_ _ | refine blk_drew ?_ | refine blk_alloc ?_ _)); exact BK315.out) hb); have n5_ := Aside0.mk (blk_below (g := gb326) (o := .cells #[.int .i64 t316, .int .i64 t317, .int .i64 t318, .slice Ao22 t319.length co22, .slice Ao23 t322.length co23] 28 (0, 0)) (by (with_reducible repeat (first | refine blk_drewN ?_ _ | refine blk_drew ?_ | refine blk_alloc ?_ _)); exact BK326.out) hb); have n6_ := Aside0.mk (below_step (by repeat (first | (with_reducible first | exact HB.out | apply below_alloc | apply pw_below_drewN | apply below_drew1 | refine below_set ?_ GE315.out | refine below_set ?_ GE326.out) | exact HB.out)) hb); clear HO_316003; clear HO_316004; clear HO_327003; clear HO_327004; clear BK315; clear BK326; clear HB; have HO_316003 := n0_; have HO_316004 := n1_; have HO_327003 := n2_; have HO_327004 := n3_; have BK315 := n4_; have BK326 := n5_; have HB := n6_; clear n0_ n1_ n2_ n3_ n4_ n5_ n6_; (try clear hb); (try clear hb2); (try clear hk); (try clear hi)))
                                                  go_ret
                                                  exact ⟨by first | rfl | (simp [errW_none, errW_some] <;> rfl) | (simp [*, errW_none, errW_some] <;> rfl), by repeat (first | (with_reducible first | exact HB.out | apply below_alloc | apply pw_below_drewN | apply below_drew1 | refine below_set ?_ GE315.out | refine below_set ?_ GE326.out) | exact HB.out)⟩
                                                · rw [if_neg c66] at H
                                                  exact absurd H (by simp)
                                              · rw [if_neg c65] at H
                                                exact absurd H (by simp)
                                            · rw [if_neg c64] at H
                                              exact absurd H (by simp)
                                          · rw [if_neg c63] at H
                                            exact absurd H (by simp)
                                        · rw [if_neg c62] at H
                                          exact absurd H (by simp)
                                      · rw [if_neg c61] at H
                                        exact absurd H (by simp)
                                    · rw [if_neg c60] at H
                                      exact absurd H (by simp)
                                  · rw [if_neg c58] at H
                                    exact absurd H (by simp)
                                · rw [if_neg c57] at H
                                  exact absurd H (by simp)
                              · rw [if_neg c56] at H
                                exact absurd H (by simp)
                            · rw [if_neg c55] at H
                              exact absurd H (by simp)
                          · rw [if_neg c54] at H
                            exact absurd H (by simp)
                        · rw [if_neg c53] at H
                          exact absurd H (by simp)
                      · rw [if_neg c52] at H
                        exact absurd H (by simp)
                    · rw [if_neg c51] at H
                      exact absurd H (by simp)

/-- THE ONE PURE STATEMENT of laws_FnPrUglyJoin: yours. -/
def laws_FnPrUglyJoin.Pure : Prop := ∀ (a0 : ByteArray) (a1 : ByteArray) (a2 : ByteArray) (a3 : ByteArray), a0.size ≤ 140737488351232 → a1.size ≤ 140737488351232 → a2.size ≤ 140737488351232 → a3.size ≤ 140737488351232 → ∃ k, laws_FnPrUglyJoin.f k a0 a1 a2 a3 = some true
theorem laws_FnPrUglyJoin.walk (P : laws_FnPrUglyJoin.Pure) (a0 : ByteArray) (a1 : ByteArray) (a2 : ByteArray) (a3 : ByteArray) (w : World) (w0 : a0.size ≤ 140737488351232) (w1 : a1.size ≤ 140737488351232) (w2 : a2.size ≤ 140737488351232) (w3 : a3.size ≤ 140737488351232) :
    Calls Try.prog 6 #[.string a0, .string a1, .string a2, .string a3] w fun e w' => e = .returned (.bool true) ∧ Below w.heap.size w w' := by
  obtain ⟨k, h⟩ := P a0 a1 a2 a3 w0 w1 w2 w3
  refine (laws_FnPrUglyJoin.calls k a0 a1 a2 a3 true w h).mono ?_
  rintro e w' ⟨rfl, hd⟩
  exact ⟨rfl, hd⟩

end Go.Proofs.Ytbppoiedaojjmaa.PFnPrUglyJoin
