-- PRINTED BY print.sh 35421559b90ae4d0a3588c463048766b98c2df88dd9212a6774a882060cdf62d: not written by this session
import Derived.Test.YtbppoiedaojjmaaPFnGjLiteralAtAnyx0
namespace Go.Proofs.Ytbppoiedaojjmaa.PFnGjLiteralAtAny
open Go.RowKit Go.Proofs.YtbppoiedaojjmaaW.PrintWords Go.Proofs.YtbppoiedaojjmaaW.PrintLast Go.Proofs.YtbppoiedaojjmaaW.PrintMore
attribute [local go_sem] max2_int min2_int max_two min_two max_three min_three max_four min_four   -- for this text's walks alone
set_option linter.unusedVariables false
set_option linter.unusedSimpArgs false

/-! ### gjson_parseLiteral: function 31 -/
def gjson_parseLiteral.l0 : Nat → ByteArray → Int → Int → Option (Int × ByteArray)
  | 0, _, _, _ => none
  | k + 1, x0, x1, x6 => if x1 < (x0.size : Int) then (if 0 ≤ x1 then (if (bt x0 x1) < 97 then (if 0 ≤ x6 then (if x6 ≤ x1 then (if x1 ≤ (x0.size : Int) then (some (x1, x0.extract (x6 : Int).toNat (x1 : Int).toNat)) else (none)) else (none)) else (none)) else (if (bt x0 x1) > 122 then (if 0 ≤ x6 then (if x6 ≤ x1 then (if x1 ≤ (x0.size : Int) then (some (x1, x0.extract (x6 : Int).toNat (x1 : Int).toNat)) else (none)) else (none)) else (none)) else (gjson_parseLiteral.l0 k x0 (wrap64 (x1 + 1)) x6))) else (none)) else (if 0 ≤ x6 then (if x6 ≤ (x0.size : Int) then (some (x1, x0.extract (x6 : Int).toNat x0.size)) else (none)) else (none))
def gjson_parseLiteral.f (k : Nat) (a0 : ByteArray) (a1 : Int) : Option (Int × ByteArray) := gjson_parseLiteral.l0 k a0 (wrap64 (a1 + 1)) a1
theorem gjson_parseLiteral.mono_l : ∀ k, (∀ y0 y1 y2, LeO (gjson_parseLiteral.l0 k y0 y1 y2) (gjson_parseLiteral.l0 (k + 1) y0 y1 y2))
  | 0 => fun _ _ _ r h => by simp [gjson_parseLiteral.l0] at h
  | k + 1 => by
    have ih0 := gjson_parseLiteral.mono_l k
    · intro y0 y1 y2
      unfold gjson_parseLiteral.l0
      repeat' first
      | (with_reducible exact ih0 _ _ _)
      | (with_reducible exact LeO.refl _)
      | (with_reducible exact LeO.none _)
      | (with_reducible refine LeO.ite ?_ ?_)
      | (with_reducible refine LeO.bind ?_ (fun _ => ?_))
      | exact ih0 _ _ _
      | exact LeO.none _
      | refine LeO.ite ?_ ?_
      | refine LeO.bind ?_ (fun _ => ?_)
theorem gjson_parseLiteral.mono : ∀ a0 a1 k, LeO (gjson_parseLiteral.f k a0 a1) (gjson_parseLiteral.f (k + 1) a0 a1) := by
  intro a0 a1 k
  have ih0 := gjson_parseLiteral.mono_l k
  unfold gjson_parseLiteral.f
  repeat' first
      | (with_reducible exact ih0 _ _ _)
      | (with_reducible exact LeO.refl _)
      | (with_reducible exact LeO.none _)
      | (with_reducible refine LeO.ite ?_ ?_)
      | (with_reducible refine LeO.bind ?_ (fun _ => ?_))
      | exact ih0 _ _ _
      | exact LeO.none _
      | refine LeO.ite ?_ ?_
      | refine LeO.bind ?_ (fun _ => ?_)
set_option maxHeartbeats 8000000 in
set_option maxRecDepth 100000 in
theorem gjson_parseLiteral.calls (k : Nat) (a0 : ByteArray) (a1 : Int) (r1 : Int) (r2 : ByteArray) (w : World) (h : gjson_parseLiteral.f k a0 a1 = some (r1, r2)) :
    Calls Try.prog 31 #[.string a0, .int .i64 a1] w fun e w' => e = .returned (.tuple #[.int .i64 r1, .string r2]) ∧ Drawn0 w w' := by
  have H : (gjson_parseLiteral.l0 k a0 (wrap64 (a1 + 1)) a1) = some (r1, r2) := h
  clear h
  have H' := Aside0.mk H
  clear H
  go_enter Try.func31, Try.ntmps31
  go_wp2
  repeat (go_quiet (fail); try go_wp2)
  go_loopg [1] k (fun kq v1 w' => ∃ (x1_1 : Int), v1 = .int .i64 x1_1 ∧ Aside0 (gjson_parseLiteral.l0 kq a0 x1_1 a1 = some (r1, r2)) ∧ Aside0 (kq ≤ k) ∧ Drawn0 w w')
  case atStart => exact ⟨(wrap64 (a1 + 1)), (by first | rfl | (simp; done) | (simp [*]; done)), H', ⟨Nat.le_refl _⟩, by repeat (first | exact Drawn0.refl _ | apply Drawn0.step)⟩
  case round =>
    clear H'
    try clear p2
    obtain ⟨x1_1, rfl, HA, HK1, ⟨m1, rfl⟩⟩ := hrel
    cases gk with
    | zero => exact absurd HA.out (by simp [gjson_parseLiteral.l0])
    | succ k1 =>
      have H := HA.out
      clear HA
      simp only [gjson_parseLiteral.l0] at H
      by_cases c3 : x1_1 < (a0.size : Int)
      · rw [if_pos c3] at H
        have c3b0 : decide (x1_1 < (a0.size : Int)) = true := decide_eq_true c3
        clear c3
        by_cases c4 : 0 ≤ x1_1
        · rw [if_pos c4] at H
          have c4b0 : decide (0 ≤ x1_1) = true := decide_eq_true c4
          clear c4
          by_cases c6 : (bt a0 x1_1) < 97
          · rw [if_pos c6] at H
            have c6b0 : decide ((bt a0 x1_1) < 97) = true := decide_eq_true c6
            clear c6
            by_cases c7 : 0 ≤ a1
            · rw [if_pos c7] at H
              have c7b0 := eq_true c7
              have c7b1 : decide (0 ≤ a1) = true := decide_eq_true c7
              clear c7
              by_cases c8 : a1 ≤ x1_1
              · rw [if_pos c8] at H
                have c8b0 := eq_true c8
                have c8b1 : decide (a1 ≤ x1_1) = true := decide_eq_true c8
                clear c8
                by_cases c9 : x1_1 ≤ (a0.size : Int)
                · rw [if_pos c9] at H
                  have c9b0 := eq_true c9
                  have c9b1 : decide (x1_1 ≤ (a0.size : Int)) = true := decide_eq_true c9
                  clear c9
                  simp only [Option.some.injEq, Prod.mk.injEq] at H
                  obtain ⟨rfl, rfl⟩ := H
                  have p5 : 0 ≤ (x1_1 : Int) := of_decide_eq_true (by first | (with_reducible assumption) | assumption)
                  have q5 : x1_1 < (a0.size : Int) := of_decide_eq_true (by first | (with_reducible assumption) | assumption)
                  have hx5 := bt_at a0 x1_1
                  replace p5 := eq_true p5
                  replace q5 := eq_true q5
                  go_wp2
                  repeat (go_quiet (fail); try go_wp2)
                  go_ret2
                  exact ⟨by first | rfl | (simp; done) | (simp [*]; done), by repeat (first | exact Drawn0.refl _ | apply Drawn0.step)⟩
                · rw [if_neg c9] at H
                  exact absurd H (by simp)
              · rw [if_neg c8] at H
                exact absurd H (by simp)
            · rw [if_neg c7] at H
              exact absurd H (by simp)
          · rw [if_neg c6] at H
            have c6b0 : decide ((bt a0 x1_1) < 97) = false := decide_eq_false c6
            clear c6
            by_cases c11 : (bt a0 x1_1) > 122
            · rw [if_pos c11] at H
              have c11b0 : decide (122 < (bt a0 x1_1)) = true := decide_eq_true c11
              clear c11
              by_cases c12 : 0 ≤ a1
              · rw [if_pos c12] at H
                have c12b0 := eq_true c12
                have c12b1 : decide (0 ≤ a1) = true := decide_eq_true c12
                clear c12
                by_cases c13 : a1 ≤ x1_1
                · rw [if_pos c13] at H
                  have c13b0 := eq_true c13
                  have c13b1 : decide (a1 ≤ x1_1) = true := decide_eq_true c13
                  clear c13
                  by_cases c14 : x1_1 ≤ (a0.size : Int)
                  · rw [if_pos c14] at H
                    have c14b0 := eq_true c14
                    have c14b1 : decide (x1_1 ≤ (a0.size : Int)) = true := decide_eq_true c14
                    clear c14
                    simp only [Option.some.injEq, Prod.mk.injEq] at H
                    obtain ⟨rfl, rfl⟩ := H
                    have p5 : 0 ≤ (x1_1 : Int) := of_decide_eq_true (by first | (with_reducible assumption) | assumption)
                    have q5 : x1_1 < (a0.size : Int) := of_decide_eq_true (by first | (with_reducible assumption) | assumption)
                    have hx5 := bt_at a0 x1_1
                    replace p5 := eq_true p5
                    replace q5 := eq_true q5
                    have p10 : 0 ≤ (x1_1 : Int) := of_decide_eq_true (by first | (with_reducible assumption) | assumption)
                    have q10 : x1_1 < (a0.size : Int) := of_decide_eq_true (by first | (with_reducible assumption) | assumption)
                    have hx10 := bt_at a0 x1_1
                    replace p10 := eq_true p10
                    replace q10 := eq_true q10
                    go_wp2
                    repeat (go_quiet (fail); try go_wp2)
                    go_ret2
                    exact ⟨by first | rfl | (simp; done) | (simp [*]; done), by repeat (first | exact Drawn0.refl _ | apply Drawn0.step)⟩
                  · rw [if_neg c14] at H
                    exact absurd H (by simp)
                · rw [if_neg c13] at H
                  exact absurd H (by simp)
              · rw [if_neg c12] at H
                exact absurd H (by simp)
            · rw [if_neg c11] at H
              have c11b0 : decide (122 < (bt a0 x1_1)) = false := decide_eq_false c11
              clear c11
              have H' := Aside0.mk H
              clear H
              have p5 : 0 ≤ (x1_1 : Int) := of_decide_eq_true (by first | (with_reducible assumption) | assumption)
              have q5 : x1_1 < (a0.size : Int) := of_decide_eq_true (by first | (with_reducible assumption) | assumption)
              have hx5 := bt_at a0 x1_1
              replace p5 := eq_true p5
              replace q5 := eq_true q5
              have p10 : 0 ≤ (x1_1 : Int) := of_decide_eq_true (by first | (with_reducible assumption) | assumption)
              have q10 : x1_1 < (a0.size : Int) := of_decide_eq_true (by first | (with_reducible assumption) | assumption)
              have hx10 := bt_at a0 x1_1
              replace p10 := eq_true p10
              replace q10 := eq_true q10
              go_wp2
              repeat (go_quiet (fail); try go_wp2)
              go_roundg k1
              case measure => have := HK1.out; omega
              case rel => exact ⟨(wrap64 (x1_1 + 1)), (by first | rfl | (simp; done) | (simp [*]; done)), H', ⟨by have := HK1.out; omega⟩, by repeat (first | exact Drawn0.refl _ | apply Drawn0.step)⟩
        · rw [if_neg c4] at H
          exact absurd H (by simp)
      · rw [if_neg c3] at H
        have c3b0 : decide (x1_1 < (a0.size : Int)) = false := decide_eq_false c3
        clear c3
        by_cases c15 : 0 ≤ a1
        · rw [if_pos c15] at H
          have c15b0 := eq_true c15
          have c15b1 : decide (0 ≤ a1) = true := decide_eq_true c15
          clear c15
          by_cases c16 : a1 ≤ (a0.size : Int)
          · rw [if_pos c16] at H
            have c16b0 := eq_true c16
            have c16b1 : decide (a1 ≤ (a0.size : Int)) = true := decide_eq_true c16
            clear c16
            simp only [Option.some.injEq, Prod.mk.injEq] at H
            obtain ⟨rfl, rfl⟩ := H
            go_wp2
            repeat (go_quiet (fail); try go_wp2)
            go_ret2
            exact ⟨by first | rfl | (simp; done) | (simp [*]; done), by repeat (first | exact Drawn0.refl _ | apply Drawn0.step)⟩
          · rw [if_neg c16] at H
            exact absurd H (by simp)
        · rw [if_neg c15] at H
          exact absurd H (by simp)

/-! ### gjson_DoorLiteral: function 20 -/
def gjson_DoorLiteral.f (k : Nat) (a0 : ByteArray) (a1 : Int) : Option (Int × ByteArray) := (gjson_parseLiteral.f k a0 a1).bind fun bt101 => (some (bt101.1, bt101.2))
theorem gjson_DoorLiteral.mono : ∀ a0 a1 k, LeO (gjson_DoorLiteral.f k a0 a1) (gjson_DoorLiteral.f (k + 1) a0 a1) := by
  intro a0 a1 k
  unfold gjson_DoorLiteral.f
  repeat' first
      | (with_reducible exact gjson_parseLiteral.mono _ _ _)
      | (with_reducible exact LeO.refl _)
      | (with_reducible exact LeO.none _)
      | (with_reducible refine LeO.ite ?_ ?_)
      | (with_reducible refine LeO.bind ?_ (fun _ => ?_))
      | exact gjson_parseLiteral.mono _ _ _
      | exact LeO.none _
      | refine LeO.ite ?_ ?_
      | refine LeO.bind ?_ (fun _ => ?_)
set_option maxHeartbeats 8000000 in
set_option maxRecDepth 100000 in
theorem gjson_DoorLiteral.calls (k : Nat) (a0 : ByteArray) (a1 : Int) (r1 : Int) (r2 : ByteArray) (w : World) (h : gjson_DoorLiteral.f k a0 a1 = some (r1, r2)) :
    Calls Try.prog 20 #[.string a0, .int .i64 a1] w fun e w' => e = .returned (.tuple #[.int .i64 r1, .string r2]) ∧ Drawn0 w w' := by
  have H : ((gjson_parseLiteral.f k a0 a1).bind fun bt101 => (some (bt101.1, bt101.2))) = some (r1, r2) := h
  clear h
  replace H := Option.bind_eq_some_iff.mp H
  obtain ⟨⟨t101, t102⟩, A30, H⟩ := H
  replace H : (some (t101, t102)) = some (r1, r2) := H
  have A3 := Aside0.mk A30
  clear A30
  simp only [Option.some.injEq, Prod.mk.injEq] at H
  obtain ⟨rfl, rfl⟩ := H
  go_enter Try.func20, Try.ntmps20
  go_wp2_with (first | ((with_reducible refine gate_callee (f := 31) rfl ?_); refine goesL_ (some 8) rfl rfl Try.func31 (by kernel_rfl) rfl #[.string a0, .int .i64 a1] rfl (by (try simp only [List.map_toArray, List.map_cons, List.map_nil]); first | done | rfl | (simp only [List.length_drop, List.length_take]; rfl)) ?_; (with_reducible refine (gjson_parseLiteral.calls k a0 a1 t101 t102 _ A3.out).mono ?_); rintro e w' ⟨rfl, ⟨nd, rfl⟩⟩; refine ⟨_, rfl, ?_⟩))
  go_ret2
  exact ⟨by first | rfl | (simp; done) | (simp [*]; done), by repeat (first | exact Drawn0.refl _ | apply Drawn0.step)⟩

/-! ### impl_GjLiteralAt: function 9 -/
def impl_GjLiteralAt.f (k : Nat) (a0 : ByteArray) (a1 : Int) : Option (Int × ByteArray) := (gjson_DoorLiteral.f k a0 a1).bind fun bt103 => (some (bt103.1, bt103.2))
theorem impl_GjLiteralAt.mono : ∀ a0 a1 k, LeO (impl_GjLiteralAt.f k a0 a1) (impl_GjLiteralAt.f (k + 1) a0 a1) := by
  intro a0 a1 k
  unfold impl_GjLiteralAt.f
  repeat' first
      | (with_reducible exact gjson_DoorLiteral.mono _ _ _)
      | (with_reducible exact LeO.refl _)
      | (with_reducible exact LeO.none _)
      | (with_reducible refine LeO.ite ?_ ?_)
      | (with_reducible refine LeO.bind ?_ (fun _ => ?_))
      | exact gjson_DoorLiteral.mono _ _ _
      | exact LeO.none _
      | refine LeO.ite ?_ ?_
      | refine LeO.bind ?_ (fun _ => ?_)
set_option maxHeartbeats 8000000 in
set_option maxRecDepth 100000 in
theorem impl_GjLiteralAt.calls (k : Nat) (a0 : ByteArray) (a1 : Int) (r1 : Int) (r2 : ByteArray) (w : World) (h : impl_GjLiteralAt.f k a0 a1 = some (r1, r2)) :
    Calls Try.prog 9 #[.string a0, .int .i64 a1] w fun e w' => e = .returned (.tuple #[.int .i64 r1, .string r2]) ∧ Drawn0 w w' := by
  have H : ((gjson_DoorLiteral.f k a0 a1).bind fun bt103 => (some (bt103.1, bt103.2))) = some (r1, r2) := h
  clear h
  replace H := Option.bind_eq_some_iff.mp H
  obtain ⟨⟨t103, t104⟩, A30, H⟩ := H
  replace H : (some (t103, t104)) = some (r1, r2) := H
  have A3 := Aside0.mk A30
  clear A30
  simp only [Option.some.injEq, Prod.mk.injEq] at H
  obtain ⟨rfl, rfl⟩ := H
  go_enter Try.func9, Try.ntmps9
  go_wp2_with (first | ((with_reducible refine gate_callee (f := 20) rfl ?_); refine goesL_ (some 8) rfl rfl Try.func20 (by kernel_rfl) rfl #[.string a0, .int .i64 a1] rfl (by (try simp only [List.map_toArray, List.map_cons, List.map_nil]); first | done | rfl | (simp only [List.length_drop, List.length_take]; rfl)) ?_; (with_reducible refine (gjson_DoorLiteral.calls k a0 a1 t103 t104 _ A3.out).mono ?_); rintro e w' ⟨rfl, ⟨nd, rfl⟩⟩; refine ⟨_, rfl, ?_⟩))
  go_ret2
  exact ⟨by first | rfl | (simp; done) | (simp [*]; done), by repeat (first | exact Drawn0.refl _ | apply Drawn0.step)⟩

/-! ### laws_FnGjLiteralAtAny: function 3 -/
mutual
def laws_FnGjLiteralAtAny.j0 : Nat → ByteArray → Int → Bool → Option (Bool)
  | 0, _, _, _ => none
  | k + 1, x0, x1, x35 => if x35 = true then (some true) else (laws_FnGjLiteralAtAny.l0 k x0 x1 x1)
def laws_FnGjLiteralAtAny.l0 : Nat → ByteArray → Int → Int → Option (Bool)
  | 0, _, _, _ => none
  | k + 1, x0, x1, x5 => if x5 < (x0.size : Int) then (if 0 ≤ x5 then (if 97 ≤ (bt x0 x5) then (if (bt x0 x5) ≤ 122 then (laws_FnGjLiteralAtAny.l0 k x0 x1 (wrap64 (x5 + 1))) else ((impl_GjLiteralAt.f k x0 x1).bind fun bt105 => (if bt105.1 = x5 then (if 0 ≤ x1 then (if x1 ≤ x5 then (if x5 ≤ (x0.size : Int) then (some (bt105.2.toList == (x0.extract (x1 : Int).toNat (x5 : Int).toNat).toList)) else (none)) else (none)) else (none)) else (some false)))) else ((impl_GjLiteralAt.f k x0 x1).bind fun bt107 => (if bt107.1 = x5 then (if 0 ≤ x1 then (if x1 ≤ x5 then (if x5 ≤ (x0.size : Int) then (some (bt107.2.toList == (x0.extract (x1 : Int).toNat (x5 : Int).toNat).toList)) else (none)) else (none)) else (none)) else (some false)))) else (none)) else ((impl_GjLiteralAt.f k x0 x1).bind fun bt109 => (if bt109.1 = x5 then (if 0 ≤ x1 then (if x1 ≤ x5 then (if x5 ≤ (x0.size : Int) then (some (bt109.2.toList == (x0.extract (x1 : Int).toNat (x5 : Int).toNat).toList)) else (none)) else (none)) else (none)) else (some false)))
end
def laws_FnGjLiteralAtAny.f (k : Nat) (a0 : ByteArray) (a1 : Int) : Option (Bool) := if (a0.size : Int) > 2147483647 then (some true) else (if (a0.size : Int) > 4096 then (laws_FnGjLiteralAtAny.j0 k a0 a1 true) else (if a1 < 0 then (laws_FnGjLiteralAtAny.j0 k a0 a1 true) else (if a1 ≥ (a0.size : Int) then (laws_FnGjLiteralAtAny.j0 k a0 a1 true) else (if 0 ≤ a1 then (if a1 < (a0.size : Int) then (if (bt a0 a1) < 97 then (laws_FnGjLiteralAtAny.j0 k a0 a1 true) else (laws_FnGjLiteralAtAny.j0 k a0 a1 (decide ((bt a0 a1) > 122)))) else (none)) else (none)))))
theorem laws_FnGjLiteralAtAny.mono_l : ∀ k, (∀ y0 y1 y2, LeO (laws_FnGjLiteralAtAny.j0 k y0 y1 y2) (laws_FnGjLiteralAtAny.j0 (k + 1) y0 y1 y2)) ∧ (∀ y0 y1 y2, LeO (laws_FnGjLiteralAtAny.l0 k y0 y1 y2) (laws_FnGjLiteralAtAny.l0 (k + 1) y0 y1 y2))
  | 0 => ⟨fun _ _ _ r h => by simp [laws_FnGjLiteralAtAny.j0] at h, fun _ _ _ r h => by simp [laws_FnGjLiteralAtAny.l0] at h⟩
  | k + 1 => by
    obtain ⟨ih0, ih1⟩ := laws_FnGjLiteralAtAny.mono_l k
    refine ⟨?_, ?_⟩
    · intro y0 y1 y2
      unfold laws_FnGjLiteralAtAny.j0
      repeat' first
      | (with_reducible exact ih0 _ _ _)
      | (with_reducible exact ih1 _ _ _)
      | (with_reducible exact impl_GjLiteralAt.mono _ _ _)
      | (with_reducible exact LeO.refl _)
      | (with_reducible exact LeO.none _)
      | (with_reducible refine LeO.ite ?_ ?_)
      | (with_reducible refine LeO.bind ?_ (fun _ => ?_))
      | exact ih0 _ _ _
      | exact ih1 _ _ _
      | exact impl_GjLiteralAt.mono _ _ _
      | exact LeO.none _
      | refine LeO.ite ?_ ?_
      | refine LeO.bind ?_ (fun _ => ?_)
    · intro y0 y1 y2
      unfold laws_FnGjLiteralAtAny.l0
      repeat' first
      | (with_reducible exact ih0 _ _ _)
      | (with_reducible exact ih1 _ _ _)
      | (with_reducible exact impl_GjLiteralAt.mono _ _ _)
      | (with_reducible exact LeO.refl _)
      | (with_reducible exact LeO.none _)
      | (with_reducible refine LeO.ite ?_ ?_)
      | (with_reducible refine LeO.bind ?_ (fun _ => ?_))
      | exact ih0 _ _ _
      | exact ih1 _ _ _
      | exact impl_GjLiteralAt.mono _ _ _
      | exact LeO.none _
      | refine LeO.ite ?_ ?_
      | refine LeO.bind ?_ (fun _ => ?_)
theorem laws_FnGjLiteralAtAny.mono : ∀ a0 a1 k, LeO (laws_FnGjLiteralAtAny.f k a0 a1) (laws_FnGjLiteralAtAny.f (k + 1) a0 a1) := by
  intro a0 a1 k
  obtain ⟨ih0, ih1⟩ := laws_FnGjLiteralAtAny.mono_l k
  unfold laws_FnGjLiteralAtAny.f
  repeat' first
      | (with_reducible exact ih0 _ _ _)
      | (with_reducible exact ih1 _ _ _)
      | (with_reducible exact impl_GjLiteralAt.mono _ _ _)
      | (with_reducible exact LeO.refl _)
      | (with_reducible exact LeO.none _)
      | (with_reducible refine LeO.ite ?_ ?_)
      | (with_reducible refine LeO.bind ?_ (fun _ => ?_))
      | exact ih0 _ _ _
      | exact ih1 _ _ _
      | exact impl_GjLiteralAt.mono _ _ _
      | exact LeO.none _
      | refine LeO.ite ?_ ?_
      | refine LeO.bind ?_ (fun _ => ?_)
set_option maxHeartbeats 8000000 in
set_option maxRecDepth 100000 in
theorem laws_FnGjLiteralAtAny.calls (k : Nat) (a0 : ByteArray) (a1 : Int) (r : Bool) (w : World) (h : laws_FnGjLiteralAtAny.f k a0 a1 = some r) :
    Calls Try.prog 3 #[.string a0, .int .i64 a1] w fun e w' => e = .returned (.bool r) ∧ Drawn0 w w' := by
  have H : (if (a0.size : Int) > 2147483647 then (some true) else (if (a0.size : Int) > 4096 then (laws_FnGjLiteralAtAny.j0 k a0 a1 true) else (if a1 < 0 then (laws_FnGjLiteralAtAny.j0 k a0 a1 true) else (if a1 ≥ (a0.size : Int) then (laws_FnGjLiteralAtAny.j0 k a0 a1 true) else (if 0 ≤ a1 then (if a1 < (a0.size : Int) then (if (bt a0 a1) < 97 then (laws_FnGjLiteralAtAny.j0 k a0 a1 true) else (laws_FnGjLiteralAtAny.j0 k a0 a1 (decide ((bt a0 a1) > 122)))) else (none)) else (none)))))) = some r := h
  clear h
  by_cases c3 : (a0.size : Int) > 2147483647
  · rw [if_pos c3] at H
    have c3b0 : decide (2147483647 < (a0.size : Int)) = true := decide_eq_true c3
    have c3b1 : decide (2147483647 < a0.size) = true := decide_eq_true (by omega)
    clear c3
    obtain rfl := Option.some.inj H
    go_enter Try.func3, Try.ntmps3
    go_wp2
    go_ret
    exact ⟨by first | rfl | (simp; done) | (simp [*]; done), by repeat (first | exact Drawn0.refl _ | apply Drawn0.step)⟩
  · rw [if_neg c3] at H
    have c3b0 : decide (2147483647 < (a0.size : Int)) = false := decide_eq_false c3
    have c3b1 : decide (2147483647 < a0.size) = false := decide_eq_false (by omega)
    clear c3
    have HC4 := Aside0.mk H
    clear H
    go_enter Try.func3, Try.ntmps3
    go_upto_region 3 with (fail)
    go_cut [35] (fun v35 wc => ∃ (kq : Nat) (x35_3 : Bool), v35 = .bool x35_3 ∧ Aside0 (laws_FnGjLiteralAtAny.j0 kq a0 a1 x35_3 = some r) ∧ Aside0 (kq ≤ k) ∧ Drawn0 w wc)
    case first =>
      have H := HC4.out
      clear HC4
      by_cases c5 : (a0.size : Int) > 4096
      · rw [if_pos c5] at H
        have c5b0 : decide (4096 < (a0.size : Int)) = true := decide_eq_true c5
        have c5b1 : decide (4096 < a0.size) = true := decide_eq_true (by omega)
        clear c5
        (first | rw [c5b0] | (simp only [i64_w, i32_w]; rw [c5b0]) | skip)
        have H' := Aside0.mk H
        clear H
        go_wp2
        go_meet
        case rel => exact ⟨_, (true), (by first | rfl | (simp; done) | (simp [*]; done)), H', ⟨by first | omega | exact Nat.le_refl _⟩, by repeat (first | exact Drawn0.refl _ | apply Drawn0.step)⟩
      · rw [if_neg c5] at H
        have c5b0 : decide (4096 < (a0.size : Int)) = false := decide_eq_false c5
        have c5b1 : decide (4096 < a0.size) = false := decide_eq_false (by omega)
        clear c5
        (first | rw [c5b0] | (simp only [i64_w, i32_w]; rw [c5b0]) | skip)
        by_cases c6 : a1 < 0
        · rw [if_pos c6] at H
          have c6b0 : decide (a1 < 0) = true := decide_eq_true c6
          clear c6
          have H' := Aside0.mk H
          clear H
          go_wp2
          go_meet
          case rel => exact ⟨_, (true), (by first | rfl | (simp; done) | (simp [*]; done)), H', ⟨by first | omega | exact Nat.le_refl _⟩, by repeat (first | exact Drawn0.refl _ | apply Drawn0.step)⟩
        · rw [if_neg c6] at H
          have c6b0 : decide (a1 < 0) = false := decide_eq_false c6
          clear c6
          by_cases c7 : a1 ≥ (a0.size : Int)
          · rw [if_pos c7] at H
            have c7b0 : decide ((a0.size : Int) ≤ a1) = true := decide_eq_true c7
            clear c7
            have H' := Aside0.mk H
            clear H
            go_wp2
            go_meet
            case rel => exact ⟨_, (true), (by first | rfl | (simp; done) | (simp [*]; done)), H', ⟨by first | omega | exact Nat.le_refl _⟩, by repeat (first | exact Drawn0.refl _ | apply Drawn0.step)⟩
          · rw [if_neg c7] at H
            have c7b0 : decide ((a0.size : Int) ≤ a1) = false := decide_eq_false c7
            clear c7
            by_cases c8 : 0 ≤ a1
            · rw [if_pos c8] at H
              have c8b0 : decide (0 ≤ a1) = true := decide_eq_true c8
              clear c8
              by_cases c9 : a1 < (a0.size : Int)
              · rw [if_pos c9] at H
                have c9b0 : decide (a1 < (a0.size : Int)) = true := decide_eq_true c9
                clear c9
                by_cases c11 : (bt a0 a1) < 97
                · rw [if_pos c11] at H
                  have c11b0 : decide ((bt a0 a1) < 97) = true := decide_eq_true c11
                  clear c11
                  have H' := Aside0.mk H
                  clear H
                  have p10 : 0 ≤ (a1 : Int) := of_decide_eq_true (by first | (with_reducible assumption) | assumption)
                  have q10 : a1 < (a0.size : Int) := of_decide_eq_true (by first | (with_reducible assumption) | assumption)
                  have hx10 := bt_at a0 a1
                  replace p10 := eq_true p10
                  replace q10 := eq_true q10
                  go_wp2
                  go_meet
                  case rel => exact ⟨_, (true), (by first | rfl | (simp; done) | (simp [*]; done)), H', ⟨by first | omega | exact Nat.le_refl _⟩, by repeat (first | exact Drawn0.refl _ | apply Drawn0.step)⟩
                · rw [if_neg c11] at H
                  have c11b0 : decide ((bt a0 a1) < 97) = false := decide_eq_false c11
                  clear c11
                  have H' := Aside0.mk H
                  clear H
                  have p10 : 0 ≤ (a1 : Int) := of_decide_eq_true (by first | (with_reducible assumption) | assumption)
                  have q10 : a1 < (a0.size : Int) := of_decide_eq_true (by first | (with_reducible assumption) | assumption)
                  have hx10 := bt_at a0 a1
                  replace p10 := eq_true p10
                  replace q10 := eq_true q10
                  have p12 : 0 ≤ (a1 : Int) := of_decide_eq_true (by first | (with_reducible assumption) | assumption)
                  have q12 : a1 < (a0.size : Int) := of_decide_eq_true (by first | (with_reducible assumption) | assumption)
                  have hx12 := bt_at a0 a1
                  replace p12 := eq_true p12
                  replace q12 := eq_true q12
                  go_wp2
                  go_meet
                  case rel => exact ⟨_, (decide ((bt a0 a1) > 122)), (by first | rfl | (simp; done) | (simp [*]; done)), H', ⟨by first | omega | exact Nat.le_refl _⟩, by repeat (first | exact Drawn0.refl _ | apply Drawn0.step)⟩
              · rw [if_neg c9] at H
                exact absurd H (by simp)
            · rw [if_neg c8] at H
              exact absurd H (by simp)
    case rest =>
      clear HC4
      try clear c1
      try clear p1
      try clear q1
      try clear hx1
      try clear p2
      try clear c3
      try clear c3b0
      try clear c3b1
      try clear c5
      try clear c5b0
      try clear c5b1
      try clear c6
      try clear c6b0
      try clear c7
      try clear c7b0
      try clear c8
      try clear c8b0
      try clear c9
      try clear c9b0
      try clear p10
      try clear q10
      try clear hx10
      try clear c11
      try clear c11b0
      try clear p12
      try clear q12
      try clear hx12
      try clear p10
      try clear p12
      try clear q10
      try clear q12
      obtain ⟨kq, x35_3, rfl, HA, HJ3, ⟨mc3, rfl⟩⟩ := hcut
      cases kq with
      | zero => exact absurd HA.out (by simp [laws_FnGjLiteralAtAny.j0])
      | succ kj3 =>
        have H := HA.out
        clear HA
        simp only [laws_FnGjLiteralAtAny.j0] at H
        by_cases c13 : x35_3 = true
        · subst c13
          have H1 : (some true) = some r := by rw [if_pos rfl] at H; exact H
          clear H
          have H := H1
          clear H1
          obtain rfl := Option.some.inj H
          go_wp2
          go_ret
          exact ⟨by first | rfl | (simp; done) | (simp [*]; done), by repeat (first | exact Drawn0.refl _ | apply Drawn0.step)⟩
        · replace c13 := Bool.eq_false_iff.mpr c13
          subst c13
          have H1 : (laws_FnGjLiteralAtAny.l0 kj3 a0 a1 a1) = some r := by rw [if_neg (show ¬ (false = true) by decide)] at H; exact H
          clear H
          have H := H1
          clear H1
          have H' := Aside0.mk H
          clear H
          go_wp2
          go_loopg [5] kj3 (fun kq v5 w' => ∃ (x5_2 : Int), v5 = .int .i64 x5_2 ∧ Aside0 (laws_FnGjLiteralAtAny.l0 kq a0 a1 x5_2 = some r) ∧ Aside0 (kq ≤ kj3) ∧ Drawn0 w w')
          case atStart => exact ⟨(a1), (by first | rfl | (simp; done) | (simp [*]; done)), H', ⟨Nat.le_refl _⟩, by repeat (first | exact Drawn0.refl _ | apply Drawn0.step)⟩
          case round =>
            clear H'
            try clear c1
            try clear p1
            try clear q1
            try clear hx1
            try clear p2
            try clear c3
            try clear c3b0
            try clear c3b1
            try clear c5
            try clear c5b0
            try clear c5b1
            try clear c6
            try clear c6b0
            try clear c7
            try clear c7b0
            try clear c8
            try clear c8b0
            try clear c9
            try clear c9b0
            try clear p10
            try clear q10
            try clear hx10
            try clear c11
            try clear c11b0
            try clear p12
            try clear q12
            try clear hx12
            try clear c13
            try clear p1
            try clear p10
            try clear p12
            try clear p2
            try clear q1
            try clear q10
            try clear q12
            obtain ⟨x5_2, rfl, HA, HK2, ⟨m2, rfl⟩⟩ := hrel
            cases gk with
            | zero => exact absurd HA.out (by simp [laws_FnGjLiteralAtAny.l0])
            | succ k2 =>
              have H := HA.out
              clear HA
              simp only [laws_FnGjLiteralAtAny.l0] at H
              by_cases c14 : x5_2 < (a0.size : Int)
              · rw [if_pos c14] at H
                have c14b0 : decide (x5_2 < (a0.size : Int)) = true := decide_eq_true c14
                clear c14
                by_cases c15 : 0 ≤ x5_2
                · rw [if_pos c15] at H
                  have c15b0 : decide (0 ≤ x5_2) = true := decide_eq_true c15
                  clear c15
                  by_cases c17 : 97 ≤ (bt a0 x5_2)
                  · rw [if_pos c17] at H
                    have c17b0 : decide (97 ≤ (bt a0 x5_2)) = true := decide_eq_true c17
                    clear c17
                    by_cases c19 : (bt a0 x5_2) ≤ 122
                    · rw [if_pos c19] at H
                      have c19b0 : decide ((bt a0 x5_2) ≤ 122) = true := decide_eq_true c19
                      clear c19
                      have H' := Aside0.mk H
                      clear H
                      have p16 : 0 ≤ (x5_2 : Int) := of_decide_eq_true (by first | (with_reducible assumption) | assumption)
                      have q16 : x5_2 < (a0.size : Int) := of_decide_eq_true (by first | (with_reducible assumption) | assumption)
                      have hx16 := bt_at a0 x5_2
                      replace p16 := eq_true p16
                      replace q16 := eq_true q16
                      have p18 : 0 ≤ (x5_2 : Int) := of_decide_eq_true (by first | (with_reducible assumption) | assumption)
                      have q18 : x5_2 < (a0.size : Int) := of_decide_eq_true (by first | (with_reducible assumption) | assumption)
                      have hx18 := bt_at a0 x5_2
                      replace p18 := eq_true p18
                      replace q18 := eq_true q18
                      go_wp2
                      go_roundg k2
                      case measure => have := HJ3.out; have := HK2.out; omega
                      case rel => exact ⟨(wrap64 (x5_2 + 1)), (by first | rfl | (simp; done) | (simp [*]; done)), H', ⟨by have := HJ3.out; have := HK2.out; omega⟩, by repeat (first | exact Drawn0.refl _ | apply Drawn0.step)⟩
                    · rw [if_neg c19] at H
                      have c19b0 : decide ((bt a0 x5_2) ≤ 122) = false := decide_eq_false c19
                      clear c19
                      replace H := Option.bind_eq_some_iff.mp H
                      obtain ⟨⟨t105, t106⟩, A200, H⟩ := H
                      replace H : (if t105 = x5_2 then (if 0 ≤ a1 then (if a1 ≤ x5_2 then (if x5_2 ≤ (a0.size : Int) then (some (t106.toList == (a0.extract (a1 : Int).toNat (x5_2 : Int).toNat).toList)) else (none)) else (none)) else (none)) else (some false)) = some r := H
                      have A20 := Aside0.mk A200
                      clear A200
                      by_cases c21 : t105 = x5_2
                      · rw [if_pos c21] at H
                        have c21b0 : (t105 == x5_2) = true := beq_iff_eq.mpr c21
                        have c21b1 : (t105 != x5_2) = false := bne_eq_false_iff_eq.mpr c21
                        clear c21
                        by_cases c22 : 0 ≤ a1
                        · rw [if_pos c22] at H
                          have c22b0 := eq_true c22
                          have c22b1 : decide (0 ≤ a1) = true := decide_eq_true c22
                          clear c22
                          by_cases c23 : a1 ≤ x5_2
                          · rw [if_pos c23] at H
                            have c23b0 := eq_true c23
                            have c23b1 : decide (a1 ≤ x5_2) = true := decide_eq_true c23
                            clear c23
                            by_cases c24 : x5_2 ≤ (a0.size : Int)
                            · rw [if_pos c24] at H
                              have c24b0 := eq_true c24
                              have c24b1 : decide (x5_2 ≤ (a0.size : Int)) = true := decide_eq_true c24
                              clear c24
                              obtain rfl := Option.some.inj H
                              have p16 : 0 ≤ (x5_2 : Int) := of_decide_eq_true (by first | (with_reducible assumption) | assumption)
                              have q16 : x5_2 < (a0.size : Int) := of_decide_eq_true (by first | (with_reducible assumption) | assumption)
                              have hx16 := bt_at a0 x5_2
                              replace p16 := eq_true p16
                              replace q16 := eq_true q16
                              have p18 : 0 ≤ (x5_2 : Int) := of_decide_eq_true (by first | (with_reducible assumption) | assumption)
                              have q18 : x5_2 < (a0.size : Int) := of_decide_eq_true (by first | (with_reducible assumption) | assumption)
                              have hx18 := bt_at a0 x5_2
                              replace p18 := eq_true p18
                              replace q18 := eq_true q18
                              go_wp2_with (first | ((with_reducible refine gate_callee (f := 9) rfl ?_); refine goesL_ (some 58) rfl rfl Try.func9 (by kernel_rfl) rfl #[.string a0, .int .i64 a1] rfl (by (try simp only [List.map_toArray, List.map_cons, List.map_nil]); first | done | rfl | (simp only [List.length_drop, List.length_take]; rfl)) ?_; (with_reducible refine (impl_GjLiteralAt.calls k2 a0 a1 t105 t106 _ A20.out).mono ?_); rintro e w' ⟨rfl, ⟨nd, rfl⟩⟩; refine ⟨_, rfl, ?_⟩))
                              go_ret
                              exact ⟨by first | rfl | (simp; done) | (simp [*]; done), by repeat (first | exact Drawn0.refl _ | apply Drawn0.step)⟩
                            · rw [if_neg c24] at H
                              exact absurd H (by simp)
                          · rw [if_neg c23] at H
                            exact absurd H (by simp)
                        · rw [if_neg c22] at H
                          exact absurd H (by simp)
                      · rw [if_neg c21] at H
                        have c21b0 : (t105 == x5_2) = false := beq_eq_false_iff_ne.mpr c21
                        have c21b1 : (t105 != x5_2) = true := bne_iff_ne.mpr c21
                        obtain rfl := Option.some.inj H
                        have p16 : 0 ≤ (x5_2 : Int) := of_decide_eq_true (by first | (with_reducible assumption) | assumption)
                        have q16 : x5_2 < (a0.size : Int) := of_decide_eq_true (by first | (with_reducible assumption) | assumption)
                        have hx16 := bt_at a0 x5_2
                        replace p16 := eq_true p16
                        replace q16 := eq_true q16
                        have p18 : 0 ≤ (x5_2 : Int) := of_decide_eq_true (by first | (with_reducible assumption) | assumption)
                        have q18 : x5_2 < (a0.size : Int) := of_decide_eq_true (by first | (with_reducible assumption) | assumption)
                        have hx18 := bt_at a0 x5_2
                        replace p18 := eq_true p18
                        replace q18 := eq_true q18
                        go_wp2_with (first | ((with_reducible refine gate_callee (f := 9) rfl ?_); refine goesL_ (some 58) rfl rfl Try.func9 (by kernel_rfl) rfl #[.string a0, .int .i64 a1] rfl (by (try simp only [List.map_toArray, List.map_cons, List.map_nil]); first | done | rfl | (simp only [List.length_drop, List.length_take]; rfl)) ?_; (with_reducible refine (impl_GjLiteralAt.calls k2 a0 a1 t105 t106 _ A20.out).mono ?_); rintro e w' ⟨rfl, ⟨nd, rfl⟩⟩; refine ⟨_, rfl, ?_⟩))
                        go_ret
                        exact ⟨by first | rfl | (simp; done) | (simp [*]; done), by repeat (first | exact Drawn0.refl _ | apply Drawn0.step)⟩
                  · rw [if_neg c17] at H
                    have c17b0 : decide (97 ≤ (bt a0 x5_2)) = false := decide_eq_false c17
                    clear c17
                    replace H := Option.bind_eq_some_iff.mp H
                    obtain ⟨⟨t107, t108⟩, A250, H⟩ := H
                    replace H : (if t107 = x5_2 then (if 0 ≤ a1 then (if a1 ≤ x5_2 then (if x5_2 ≤ (a0.size : Int) then (some (t108.toList == (a0.extract (a1 : Int).toNat (x5_2 : Int).toNat).toList)) else (none)) else (none)) else (none)) else (some false)) = some r := H
                    have A25 := Aside0.mk A250
                    clear A250
                    by_cases c26 : t107 = x5_2
                    · rw [if_pos c26] at H
                      have c26b0 : (t107 == x5_2) = true := beq_iff_eq.mpr c26
                      have c26b1 : (t107 != x5_2) = false := bne_eq_false_iff_eq.mpr c26
                      clear c26
                      by_cases c27 : 0 ≤ a1
                      · rw [if_pos c27] at H
                        have c27b0 := eq_true c27
                        have c27b1 : decide (0 ≤ a1) = true := decide_eq_true c27
                        clear c27
                        by_cases c28 : a1 ≤ x5_2
                        · rw [if_pos c28] at H
                          have c28b0 := eq_true c28
                          have c28b1 : decide (a1 ≤ x5_2) = true := decide_eq_true c28
                          clear c28
                          by_cases c29 : x5_2 ≤ (a0.size : Int)
                          · rw [if_pos c29] at H
                            have c29b0 := eq_true c29
                            have c29b1 : decide (x5_2 ≤ (a0.size : Int)) = true := decide_eq_true c29
                            clear c29
                            obtain rfl := Option.some.inj H
                            have p16 : 0 ≤ (x5_2 : Int) := of_decide_eq_true (by first | (with_reducible assumption) | assumption)
                            have q16 : x5_2 < (a0.size : Int) := of_decide_eq_true (by first | (with_reducible assumption) | assumption)
                            have hx16 := bt_at a0 x5_2
                            replace p16 := eq_true p16
                            replace q16 := eq_true q16
                            go_wp2_with (first | ((with_reducible refine gate_callee (f := 9) rfl ?_); refine goesL_ (some 58) rfl rfl Try.func9 (by kernel_rfl) rfl #[.string a0, .int .i64 a1] rfl (by (try simp only [List.map_toArray, List.map_cons, List.map_nil]); first | done | rfl | (simp only [List.length_drop, List.length_take]; rfl)) ?_; (with_reducible refine (impl_GjLiteralAt.calls k2 a0 a1 t107 t108 _ A25.out).mono ?_); rintro e w' ⟨rfl, ⟨nd, rfl⟩⟩; refine ⟨_, rfl, ?_⟩))
                            go_ret
                            exact ⟨by first | rfl | (simp; done) | (simp [*]; done), by repeat (first | exact Drawn0.refl _ | apply Drawn0.step)⟩
                          · rw [if_neg c29] at H
                            exact absurd H (by simp)
                        · rw [if_neg c28] at H
                          exact absurd H (by simp)
                      · rw [if_neg c27] at H
                        exact absurd H (by simp)
                    · rw [if_neg c26] at H
                      have c26b0 : (t107 == x5_2) = false := beq_eq_false_iff_ne.mpr c26
                      have c26b1 : (t107 != x5_2) = true := bne_iff_ne.mpr c26
                      obtain rfl := Option.some.inj H
                      have p16 : 0 ≤ (x5_2 : Int) := of_decide_eq_true (by first | (with_reducible assumption) | assumption)
                      have q16 : x5_2 < (a0.size : Int) := of_decide_eq_true (by first | (with_reducible assumption) | assumption)
                      have hx16 := bt_at a0 x5_2
                      replace p16 := eq_true p16
                      replace q16 := eq_true q16
                      go_wp2_with (first | ((with_reducible refine gate_callee (f := 9) rfl ?_); refine goesL_ (some 58) rfl rfl Try.func9 (by kernel_rfl) rfl #[.string a0, .int .i64 a1] rfl (by (try simp only [List.map_toArray, List.map_cons, List.map_nil]); first | done | rfl | (simp only [List.length_drop, List.length_take]; rfl)) ?_; (with_reducible refine (impl_GjLiteralAt.calls k2 a0 a1 t107 t108 _ A25.out).mono ?_); rintro e w' ⟨rfl, ⟨nd, rfl⟩⟩; refine ⟨_, rfl, ?_⟩))
                      go_ret
                      exact ⟨by first | rfl | (simp; done) | (simp [*]; done), by repeat (first | exact Drawn0.refl _ | apply Drawn0.step)⟩
                · rw [if_neg c15] at H
                  exact absurd H (by simp)
              · rw [if_neg c14] at H
                have c14b0 : decide (x5_2 < (a0.size : Int)) = false := decide_eq_false c14
                clear c14
                replace H := Option.bind_eq_some_iff.mp H
                obtain ⟨⟨t109, t110⟩, A300, H⟩ := H
                replace H : (if t109 = x5_2 then (if 0 ≤ a1 then (if a1 ≤ x5_2 then (if x5_2 ≤ (a0.size : Int) then (some (t110.toList == (a0.extract (a1 : Int).toNat (x5_2 : Int).toNat).toList)) else (none)) else (none)) else (none)) else (some false)) = some r := H
                have A30 := Aside0.mk A300
                clear A300
                by_cases c31 : t109 = x5_2
                · rw [if_pos c31] at H
                  have c31b0 : (t109 == x5_2) = true := beq_iff_eq.mpr c31
                  have c31b1 : (t109 != x5_2) = false := bne_eq_false_iff_eq.mpr c31
                  clear c31
                  by_cases c32 : 0 ≤ a1
                  · rw [if_pos c32] at H
                    have c32b0 := eq_true c32
                    have c32b1 : decide (0 ≤ a1) = true := decide_eq_true c32
                    clear c32
                    by_cases c33 : a1 ≤ x5_2
                    · rw [if_pos c33] at H
                      have c33b0 := eq_true c33
                      have c33b1 : decide (a1 ≤ x5_2) = true := decide_eq_true c33
                      clear c33
                      by_cases c34 : x5_2 ≤ (a0.size : Int)
                      · rw [if_pos c34] at H
                        have c34b0 := eq_true c34
                        have c34b1 : decide (x5_2 ≤ (a0.size : Int)) = true := decide_eq_true c34
                        clear c34
                        obtain rfl := Option.some.inj H
                        go_wp2_with (first | ((with_reducible refine gate_callee (f := 9) rfl ?_); refine goesL_ (some 58) rfl rfl Try.func9 (by kernel_rfl) rfl #[.string a0, .int .i64 a1] rfl (by (try simp only [List.map_toArray, List.map_cons, List.map_nil]); first | done | rfl | (simp only [List.length_drop, List.length_take]; rfl)) ?_; (with_reducible refine (impl_GjLiteralAt.calls k2 a0 a1 t109 t110 _ A30.out).mono ?_); rintro e w' ⟨rfl, ⟨nd, rfl⟩⟩; refine ⟨_, rfl, ?_⟩))
                        go_ret
                        exact ⟨by first | rfl | (simp; done) | (simp [*]; done), by repeat (first | exact Drawn0.refl _ | apply Drawn0.step)⟩
                      · rw [if_neg c34] at H
                        exact absurd H (by simp)
                    · rw [if_neg c33] at H
                      exact absurd H (by simp)
                  · rw [if_neg c32] at H
                    exact absurd H (by simp)
                · rw [if_neg c31] at H
                  have c31b0 : (t109 == x5_2) = false := beq_eq_false_iff_ne.mpr c31
                  have c31b1 : (t109 != x5_2) = true := bne_iff_ne.mpr c31
                  obtain rfl := Option.some.inj H
                  go_wp2_with (first | ((with_reducible refine gate_callee (f := 9) rfl ?_); refine goesL_ (some 58) rfl rfl Try.func9 (by kernel_rfl) rfl #[.string a0, .int .i64 a1] rfl (by (try simp only [List.map_toArray, List.map_cons, List.map_nil]); first | done | rfl | (simp only [List.length_drop, List.length_take]; rfl)) ?_; (with_reducible refine (impl_GjLiteralAt.calls k2 a0 a1 t109 t110 _ A30.out).mono ?_); rintro e w' ⟨rfl, ⟨nd, rfl⟩⟩; refine ⟨_, rfl, ?_⟩))
                  go_ret
                  exact ⟨by first | rfl | (simp; done) | (simp [*]; done), by repeat (first | exact Drawn0.refl _ | apply Drawn0.step)⟩

/-- THE ONE PURE STATEMENT of laws_FnGjLiteralAtAny: yours. -/
def laws_FnGjLiteralAtAny.Pure : Prop := ∀ (a0 : ByteArray) (a1 : Int), a0.size ≤ 140737488351232 → (Lit.int .i64 a1).wf = true → ∃ k, laws_FnGjLiteralAtAny.f k a0 a1 = some true
theorem laws_FnGjLiteralAtAny.walk (P : laws_FnGjLiteralAtAny.Pure) (a0 : ByteArray) (a1 : Int) (w : World) (w0 : a0.size ≤ 140737488351232) (w1 : (Lit.int .i64 a1).wf = true) :
    Calls Try.prog 3 #[.string a0, .int .i64 a1] w fun e w' => e = .returned (.bool true) ∧ Below w.heap.size w w' := by
  obtain ⟨k, h⟩ := P a0 a1 w0 w1
  refine (laws_FnGjLiteralAtAny.calls k a0 a1 true w h).mono ?_
  rintro e w' ⟨rfl, hd⟩
  exact ⟨rfl, hd.below⟩

end Go.Proofs.Ytbppoiedaojjmaa.PFnGjLiteralAtAny
