/- Written by a program of this session (a turned copy of the print) out of the translation. -/
import Derived.Test.YtgbliniamkpocaaDoorPEscx0
namespace Go.Proofs.YtgbliniamkpocaaDoor.PEsc
open Go.RowKit Go.Proofs.YtgbliniamkpocaaDoorW.PrintWords Go.Proofs.YtgbliniamkpocaaDoorW.PrintLast Go.Proofs.YtgbliniamkpocaaDoorW.PrintMore
attribute [local go_sem] max2_int min2_int max_two min_two max_three min_three max_four min_four   -- for this text's walks alone
set_option linter.unusedVariables false
set_option linter.unusedSimpArgs false

/-! ### jsonparser_nextTokenConfig: function 70 -/
def jsonparser_nextTokenConfig.l0 : Nat → List Int → Int → Int → Option (Int)
  | 0, _, _, _ => none
  | k + 1, x7, x8, x9 => if x9 < x8 then (if 0 ≤ x9 then (if x9 < (x7.length : Int) then (if (rd x7 x9) = 32 then (jsonparser_nextTokenConfig.l0 k x7 x8 (wrap64 (x9 + 1))) else (if (rd x7 x9) = 10 then (jsonparser_nextTokenConfig.l0 k x7 x8 (wrap64 (x9 + 1))) else (if (rd x7 x9) = 13 then (jsonparser_nextTokenConfig.l0 k x7 x8 (wrap64 (x9 + 1))) else (if (rd x7 x9) = 9 then (jsonparser_nextTokenConfig.l0 k x7 x8 (wrap64 (x9 + 1))) else (some x9))))) else (none)) else (none)) else (some (-1))
def jsonparser_nextTokenConfig.f (k : Nat) (a0_0 : Bool) (a0_1 : Bool) (a0_2 : Int) (l1 : List Int) : Option (Int) := jsonparser_nextTokenConfig.l0 k l1 (l1.length : Int) 0
theorem jsonparser_nextTokenConfig.mono_l : ∀ k, (∀ y0 y1 y2, LeO (jsonparser_nextTokenConfig.l0 k y0 y1 y2) (jsonparser_nextTokenConfig.l0 (k + 1) y0 y1 y2))
  | 0 => fun _ _ _ r h => by simp [jsonparser_nextTokenConfig.l0] at h
  | k + 1 => by
    have ih0 := jsonparser_nextTokenConfig.mono_l k
    · intro y0 y1 y2
      unfold jsonparser_nextTokenConfig.l0
      repeat' first
      | (with_reducible exact ih0 _ _ _)
      | (with_reducible exact LeO.refl _)
      | (with_reducible exact LeO.none _)
      | (with_reducible refine LeO.ite ?_ ?_)
      | (with_reducible refine LeO.bind ?_ (fun _ => ?_))
      | exact ih0 _ _ _
      | exact LeO.none _
      | refine LeO.ite ?_ ?_
      | refine LeO.bind ?_ (fun _ => ?_)
theorem jsonparser_nextTokenConfig.mono : ∀ a0 a1 a2 a3 k, LeO (jsonparser_nextTokenConfig.f k a0 a1 a2 a3) (jsonparser_nextTokenConfig.f (k + 1) a0 a1 a2 a3) := by
  intro a0 a1 a2 a3 k
  have ih0 := jsonparser_nextTokenConfig.mono_l k
  unfold jsonparser_nextTokenConfig.f
  repeat' first
      | (with_reducible exact ih0 _ _ _)
      | (with_reducible exact LeO.refl _)
      | (with_reducible exact LeO.none _)
      | (with_reducible refine LeO.ite ?_ ?_)
      | (with_reducible refine LeO.bind ?_ (fun _ => ?_))
      | exact ih0 _ _ _
      | exact LeO.none _
      | refine LeO.ite ?_ ?_
      | refine LeO.bind ?_ (fun _ => ?_)
set_option maxHeartbeats 8000000 in
set_option maxRecDepth 100000 in
theorem jsonparser_nextTokenConfig.calls (k : Nat) (a0_0 : Bool) (a0_1 : Bool) (a0_2 : Int) (A1 : Option Addr) (c1 : Nat) (l1 : List Int) (r : Int) (w : World) (hr1 : Kd.C (Kd.int .u8) w A1 l1.length l1) (hc1 : l1.length ≤ c1) (h : jsonparser_nextTokenConfig.f k a0_0 a0_1 a0_2 l1 = some r) :
    Calls Tryd.prog 70 #[.agg #[.bool a0_0, .bool a0_1, .int .i64 a0_2], .slice A1 l1.length c1] w fun e w' => e = .returned (.int .i64 r) ∧ Below w.heap.size w w' := by
  have hu80 := Tryd.underlying80
  have HR1 := Aside0.mk hr1
  have HC1 := Aside0.mk hc1
  clear hr1 hc1
  have HB := Aside0.mk (Below.refl w.heap.size w)
  have H : (jsonparser_nextTokenConfig.l0 k l1 (l1.length : Int) 0) = some r := h
  clear h
  have H' := Aside0.mk H
  clear H
  go_enter Tryd.func70, Tryd.ntmps70
  go_wp2_with (first | ((with_reducible refine gate_dst (N := 2) rfl ?_); refine box_event ?hg (N := 2) ?hd (cs := #[.bool a0_0, .bool a0_1, .int .i64 a0_2]) (t := 80) ?hr ?_; (case hd => rfl); (case hg => rfl); (case hr => first | (go_simp; done) | (go_simp; rfl)); intro gb118 hg w3 hbox hb; have n0_ := Aside0.mk (below_step (by repeat (first | (with_reducible first | exact HB.out | apply below_alloc | apply pw_below_drewN | apply below_drew1) | exact HB.out)) hb); have n1_ := Aside0.mk (hbox); have n2_ := Aside0.mk ((by rw [hg]; exact (below_size (by repeat (first | (with_reducible first | exact HB.out | apply below_alloc | apply pw_below_drewN | apply below_drew1) | exact HB.out))) : w.heap.size ≤ gb118)); have n3_ := Aside0.mk ((by rw [hg]; exact (below_size (by repeat (first | (with_reducible first | exact HB.out | apply below_alloc | apply pw_below_drewN | apply below_drew1) | exact HB.out))) : w.heap.size ≤ gb118)); clear HB; have HB := n0_; have BK118 := n1_; have GW118 := n2_; have GE118 := n3_; clear n0_ n1_ n2_ n3_; clear hb hbox hg))
  (try simp only [Act.put, List.setIfInBounds_toArray, List.set_cons_succ, List.set_cons_zero])
  go_loopg [9] k (fun kq v9 w' => ∃ (x9_1 : Int), v9 = .int .i64 x9_1 ∧ Aside0 (jsonparser_nextTokenConfig.l0 kq l1 (l1.length : Int) x9_1 = some r) ∧ Aside0 (kq ≤ k) ∧ Aside0 (w'.heap[gb118]? = some (.cells #[.bool a0_0, .bool a0_1, .int .i64 a0_2] 80 (0, 0))) ∧ Aside0 (Below w.heap.size w w'))
  case atStart => exact ⟨(0), (by first | rfl | (simp; done) | (simp [*]; done)), H', ⟨Nat.le_refl _⟩, ⟨by (with_reducible repeat (first | refine blk_drewN ?_ _ | refine blk_drew ?_ | refine blk_alloc ?_ _)); exact BK118.out⟩, ⟨by repeat (first | (with_reducible first | exact HB.out | apply below_alloc | apply pw_below_drewN | apply below_drew1 | refine below_set ?_ GE118.out) | exact HB.out)⟩⟩
  case round =>
    clear H'
    try clear c1
    try clear p2
    obtain ⟨x9_1, rfl, HA, HK1, BK118, HB⟩ := hrel
    cases gk with
    | zero => exact absurd HA.out (by simp [jsonparser_nextTokenConfig.l0])
    | succ k1 =>
      have H := HA.out
      clear HA
      simp only [jsonparser_nextTokenConfig.l0] at H
      by_cases c4 : x9_1 < (l1.length : Int)
      · rw [if_pos c4] at H
        have c4b0 : decide (x9_1 < (l1.length : Int)) = true := decide_eq_true c4
        clear c4
        by_cases c5 : 0 ≤ x9_1
        · rw [if_pos c5] at H
          have c5b0 : decide (0 ≤ x9_1) = true := decide_eq_true c5
          clear c5
          by_cases c6 : x9_1 < (l1.length : Int)
          · rw [if_pos c6] at H
            have c6b0 : decide (x9_1 < (l1.length : Int)) = true := decide_eq_true c6
            clear c6
            by_cases c7 : (rd l1 x9_1) = 32
            · rw [if_pos c7] at H
              have c7b0 : ((rd l1 x9_1) == 32) = true := beq_iff_eq.mpr c7
              have c7b1 : ((rd l1 x9_1) != 32) = false := bne_eq_false_iff_eq.mpr c7
              clear c7
              have H' := Aside0.mk H
              clear H
              have p119 : 0 ≤ (x9_1 : Int) := of_decide_eq_true (by first | (with_reducible assumption) | assumption)
              have q119 : x9_1 < (l1.length : Int) := of_decide_eq_true (by first | (with_reducible assumption) | assumption)
              obtain ⟨ad119, e119, hx119_0⟩ := Kd.at_int HR1.out x9_1 p119 q119
              cases e119
              replace hx119_0 := (HB.out.cell (World.block_lt_of_cell? w _ hx119_0)).trans hx119_0
              replace p119 := eq_true p119
              replace q119 := eq_true q119
              go_wp2
              go_roundg k1
              case measure => have := HK1.out; omega
              case rel => exact ⟨(wrap64 (x9_1 + 1)), (by first | rfl | (simp; done) | (simp [*]; done)), H', ⟨by have := HK1.out; omega⟩, ⟨by (with_reducible repeat (first | refine blk_drewN ?_ _ | refine blk_drew ?_ | refine blk_alloc ?_ _)); exact BK118.out⟩, ⟨by repeat (first | (with_reducible first | exact HB.out | apply below_alloc | apply pw_below_drewN | apply below_drew1 | refine below_set ?_ GE118.out) | exact HB.out)⟩⟩
            · rw [if_neg c7] at H
              have c7b0 : ((rd l1 x9_1) == 32) = false := beq_eq_false_iff_ne.mpr c7
              have c7b1 : ((rd l1 x9_1) != 32) = true := bne_iff_ne.mpr c7
              by_cases c8 : (rd l1 x9_1) = 10
              · rw [if_pos c8] at H
                have c8b0 : ((rd l1 x9_1) == 10) = true := beq_iff_eq.mpr c8
                have c8b1 : ((rd l1 x9_1) != 10) = false := bne_eq_false_iff_eq.mpr c8
                clear c8
                have H' := Aside0.mk H
                clear H
                have p119 : 0 ≤ (x9_1 : Int) := of_decide_eq_true (by first | (with_reducible assumption) | assumption)
                have q119 : x9_1 < (l1.length : Int) := of_decide_eq_true (by first | (with_reducible assumption) | assumption)
                obtain ⟨ad119, e119, hx119_0⟩ := Kd.at_int HR1.out x9_1 p119 q119
                cases e119
                replace hx119_0 := (HB.out.cell (World.block_lt_of_cell? w _ hx119_0)).trans hx119_0
                replace p119 := eq_true p119
                replace q119 := eq_true q119
                go_wp2
                go_roundg k1
                case measure => have := HK1.out; omega
                case rel => exact ⟨(wrap64 (x9_1 + 1)), (by first | rfl | (simp; done) | (simp [*]; done)), H', ⟨by have := HK1.out; omega⟩, ⟨by (with_reducible repeat (first | refine blk_drewN ?_ _ | refine blk_drew ?_ | refine blk_alloc ?_ _)); exact BK118.out⟩, ⟨by repeat (first | (with_reducible first | exact HB.out | apply below_alloc | apply pw_below_drewN | apply below_drew1 | refine below_set ?_ GE118.out) | exact HB.out)⟩⟩
              · rw [if_neg c8] at H
                have c8b0 : ((rd l1 x9_1) == 10) = false := beq_eq_false_iff_ne.mpr c8
                have c8b1 : ((rd l1 x9_1) != 10) = true := bne_iff_ne.mpr c8
                by_cases c9 : (rd l1 x9_1) = 13
                · rw [if_pos c9] at H
                  have c9b0 : ((rd l1 x9_1) == 13) = true := beq_iff_eq.mpr c9
                  have c9b1 : ((rd l1 x9_1) != 13) = false := bne_eq_false_iff_eq.mpr c9
                  clear c9
                  have H' := Aside0.mk H
                  clear H
                  have p119 : 0 ≤ (x9_1 : Int) := of_decide_eq_true (by first | (with_reducible assumption) | assumption)
                  have q119 : x9_1 < (l1.length : Int) := of_decide_eq_true (by first | (with_reducible assumption) | assumption)
                  obtain ⟨ad119, e119, hx119_0⟩ := Kd.at_int HR1.out x9_1 p119 q119
                  cases e119
                  replace hx119_0 := (HB.out.cell (World.block_lt_of_cell? w _ hx119_0)).trans hx119_0
                  replace p119 := eq_true p119
                  replace q119 := eq_true q119
                  go_wp2
                  go_roundg k1
                  case measure => have := HK1.out; omega
                  case rel => exact ⟨(wrap64 (x9_1 + 1)), (by first | rfl | (simp; done) | (simp [*]; done)), H', ⟨by have := HK1.out; omega⟩, ⟨by (with_reducible repeat (first | refine blk_drewN ?_ _ | refine blk_drew ?_ | refine blk_alloc ?_ _)); exact BK118.out⟩, ⟨by repeat (first | (with_reducible first | exact HB.out | apply below_alloc | apply pw_below_drewN | apply below_drew1 | refine below_set ?_ GE118.out) | exact HB.out)⟩⟩
                · rw [if_neg c9] at H
                  have c9b0 : ((rd l1 x9_1) == 13) = false := beq_eq_false_iff_ne.mpr c9
                  have c9b1 : ((rd l1 x9_1) != 13) = true := bne_iff_ne.mpr c9
                  by_cases c10 : (rd l1 x9_1) = 9
                  · rw [if_pos c10] at H
                    have c10b0 : ((rd l1 x9_1) == 9) = true := beq_iff_eq.mpr c10
                    have c10b1 : ((rd l1 x9_1) != 9) = false := bne_eq_false_iff_eq.mpr c10
                    clear c10
                    have H' := Aside0.mk H
                    clear H
                    have p119 : 0 ≤ (x9_1 : Int) := of_decide_eq_true (by first | (with_reducible assumption) | assumption)
                    have q119 : x9_1 < (l1.length : Int) := of_decide_eq_true (by first | (with_reducible assumption) | assumption)
                    obtain ⟨ad119, e119, hx119_0⟩ := Kd.at_int HR1.out x9_1 p119 q119
                    cases e119
                    replace hx119_0 := (HB.out.cell (World.block_lt_of_cell? w _ hx119_0)).trans hx119_0
                    replace p119 := eq_true p119
                    replace q119 := eq_true q119
                    go_wp2
                    go_roundg k1
                    case measure => have := HK1.out; omega
                    case rel => exact ⟨(wrap64 (x9_1 + 1)), (by first | rfl | (simp; done) | (simp [*]; done)), H', ⟨by have := HK1.out; omega⟩, ⟨by (with_reducible repeat (first | refine blk_drewN ?_ _ | refine blk_drew ?_ | refine blk_alloc ?_ _)); exact BK118.out⟩, ⟨by repeat (first | (with_reducible first | exact HB.out | apply below_alloc | apply pw_below_drewN | apply below_drew1 | refine below_set ?_ GE118.out) | exact HB.out)⟩⟩
                  · rw [if_neg c10] at H
                    have c10b0 : ((rd l1 x9_1) == 9) = false := beq_eq_false_iff_ne.mpr c10
                    have c10b1 : ((rd l1 x9_1) != 9) = true := bne_iff_ne.mpr c10
                    obtain rfl := Option.some.inj H
                    have p119 : 0 ≤ (x9_1 : Int) := of_decide_eq_true (by first | (with_reducible assumption) | assumption)
                    have q119 : x9_1 < (l1.length : Int) := of_decide_eq_true (by first | (with_reducible assumption) | assumption)
                    obtain ⟨ad119, e119, hx119_0⟩ := Kd.at_int HR1.out x9_1 p119 q119
                    cases e119
                    replace hx119_0 := (HB.out.cell (World.block_lt_of_cell? w _ hx119_0)).trans hx119_0
                    replace p119 := eq_true p119
                    replace q119 := eq_true q119
                    go_wp2
                    go_ret
                    exact ⟨by first | rfl | (simp [errW_none, errW_some] <;> rfl) | (simp [*, errW_none, errW_some] <;> rfl), by repeat (first | (with_reducible first | exact HB.out | apply below_alloc | apply pw_below_drewN | apply below_drew1 | refine below_set ?_ GE118.out) | exact HB.out)⟩
          · rw [if_neg c6] at H
            exact absurd H (by simp)
        · rw [if_neg c5] at H
          exact absurd H (by simp)
      · rw [if_neg c4] at H
        have c4b0 : decide (x9_1 < (l1.length : Int)) = false := decide_eq_false c4
        clear c4
        obtain rfl := Option.some.inj H
        go_wp2
        go_ret
        exact ⟨by first | rfl | (simp [errW_none, errW_some] <;> rfl) | (simp [*, errW_none, errW_some] <;> rfl), by repeat (first | (with_reducible first | exact HB.out | apply below_alloc | apply pw_below_drewN | apply below_drew1 | refine below_set ?_ GE118.out) | exact HB.out)⟩

/-! ### jsonparser_tokenEnd: function 95 -/
def jsonparser_tokenEnd.l0 : Nat → List Int → List Int → Int → Int → Option (Int)
  | 0, _, _, _, _ => none
  | k + 1, x0, x5, x6, x7 => if x7 < x6 then (if 0 ≤ x7 then (if x7 < (x5.length : Int) then (if (rd x5 x7) = 32 then (some x7) else (if (rd x5 x7) = 10 then (some x7) else (if (rd x5 x7) = 13 then (some x7) else (if (rd x5 x7) = 9 then (some x7) else (if (rd x5 x7) = 44 then (some x7) else (if (rd x5 x7) = 125 then (some x7) else (if (rd x5 x7) = 93 then (some x7) else (jsonparser_tokenEnd.l0 k x0 x5 x6 (wrap64 (x7 + 1)))))))))) else (none)) else (none)) else (some (x0.length : Int))
def jsonparser_tokenEnd.f (k : Nat) (l0 : List Int) : Option (Int) := jsonparser_tokenEnd.l0 k l0 l0 (l0.length : Int) 0
theorem jsonparser_tokenEnd.mono_l : ∀ k, (∀ y0 y1 y2 y3, LeO (jsonparser_tokenEnd.l0 k y0 y1 y2 y3) (jsonparser_tokenEnd.l0 (k + 1) y0 y1 y2 y3))
  | 0 => fun _ _ _ _ r h => by simp [jsonparser_tokenEnd.l0] at h
  | k + 1 => by
    have ih0 := jsonparser_tokenEnd.mono_l k
    · intro y0 y1 y2 y3
      unfold jsonparser_tokenEnd.l0
      repeat' first
      | (with_reducible exact ih0 _ _ _ _)
      | (with_reducible exact LeO.refl _)
      | (with_reducible exact LeO.none _)
      | (with_reducible refine LeO.ite ?_ ?_)
      | (with_reducible refine LeO.bind ?_ (fun _ => ?_))
      | exact ih0 _ _ _ _
      | exact LeO.none _
      | refine LeO.ite ?_ ?_
      | refine LeO.bind ?_ (fun _ => ?_)
theorem jsonparser_tokenEnd.mono : ∀ a0 k, LeO (jsonparser_tokenEnd.f k a0) (jsonparser_tokenEnd.f (k + 1) a0) := by
  intro a0 k
  have ih0 := jsonparser_tokenEnd.mono_l k
  unfold jsonparser_tokenEnd.f
  repeat' first
      | (with_reducible exact ih0 _ _ _ _)
      | (with_reducible exact LeO.refl _)
      | (with_reducible exact LeO.none _)
      | (with_reducible refine LeO.ite ?_ ?_)
      | (with_reducible refine LeO.bind ?_ (fun _ => ?_))
      | exact ih0 _ _ _ _
      | exact LeO.none _
      | refine LeO.ite ?_ ?_
      | refine LeO.bind ?_ (fun _ => ?_)
set_option maxHeartbeats 8000000 in
set_option maxRecDepth 100000 in
theorem jsonparser_tokenEnd.calls (k : Nat) (A0 : Option Addr) (c0 : Nat) (l0 : List Int) (r : Int) (w : World) (hr0 : Kd.C (Kd.int .u8) w A0 l0.length l0) (hc0 : l0.length ≤ c0) (h : jsonparser_tokenEnd.f k l0 = some r) :
    Calls Tryd.prog 95 #[.slice A0 l0.length c0] w fun e w' => e = .returned (.int .i64 r) ∧ Drawn0 w w' := by
  have HR0 := Aside0.mk hr0
  have HC0 := Aside0.mk hc0
  clear hr0 hc0
  have H : (jsonparser_tokenEnd.l0 k l0 l0 (l0.length : Int) 0) = some r := h
  clear h
  have H' := Aside0.mk H
  clear H
  go_enter Tryd.func95, Tryd.ntmps95
  go_wp2
  (try simp only [Act.put, List.setIfInBounds_toArray, List.set_cons_succ, List.set_cons_zero])
  go_loopg [7] k (fun kq v7 w' => ∃ (x7_1 : Int), v7 = .int .i64 x7_1 ∧ Aside0 (jsonparser_tokenEnd.l0 kq l0 l0 (l0.length : Int) x7_1 = some r) ∧ Aside0 (kq ≤ k) ∧ Drawn0 w w')
  case atStart => exact ⟨(0), (by first | rfl | (simp; done) | (simp [*]; done)), H', ⟨Nat.le_refl _⟩, by repeat (first | exact Drawn0.refl _ | apply Drawn0.step)⟩
  case round =>
    clear H'
    obtain ⟨x7_1, rfl, HA, HK1, ⟨m1, rfl⟩⟩ := hrel
    cases gk with
    | zero => exact absurd HA.out (by simp [jsonparser_tokenEnd.l0])
    | succ k1 =>
      have H := HA.out
      clear HA
      simp only [jsonparser_tokenEnd.l0] at H
      by_cases c2 : x7_1 < (l0.length : Int)
      · rw [if_pos c2] at H
        have c2b0 : decide (x7_1 < (l0.length : Int)) = true := decide_eq_true c2
        clear c2
        by_cases c3 : 0 ≤ x7_1
        · rw [if_pos c3] at H
          have c3b0 : decide (0 ≤ x7_1) = true := decide_eq_true c3
          clear c3
          by_cases c4 : x7_1 < (l0.length : Int)
          · rw [if_pos c4] at H
            have c4b0 : decide (x7_1 < (l0.length : Int)) = true := decide_eq_true c4
            clear c4
            by_cases c5 : (rd l0 x7_1) = 32
            · rw [if_pos c5] at H
              have c5b0 : ((rd l0 x7_1) == 32) = true := beq_iff_eq.mpr c5
              have c5b1 : ((rd l0 x7_1) != 32) = false := bne_eq_false_iff_eq.mpr c5
              clear c5
              obtain rfl := Option.some.inj H
              have p120 : 0 ≤ (x7_1 : Int) := of_decide_eq_true (by first | (with_reducible assumption) | assumption)
              have q120 : x7_1 < (l0.length : Int) := of_decide_eq_true (by first | (with_reducible assumption) | assumption)
              obtain ⟨ad120, e120, hx120_0⟩ := Kd.at_int HR0.out x7_1 p120 q120
              cases e120
              replace p120 := eq_true p120
              replace q120 := eq_true q120
              go_wp2
              go_ret
              exact ⟨by first | rfl | (simp; done) | (simp [*]; done), by repeat (first | exact Drawn0.refl _ | apply Drawn0.step)⟩
            · rw [if_neg c5] at H
              have c5b0 : ((rd l0 x7_1) == 32) = false := beq_eq_false_iff_ne.mpr c5
              have c5b1 : ((rd l0 x7_1) != 32) = true := bne_iff_ne.mpr c5
              by_cases c6 : (rd l0 x7_1) = 10
              · rw [if_pos c6] at H
                have c6b0 : ((rd l0 x7_1) == 10) = true := beq_iff_eq.mpr c6
                have c6b1 : ((rd l0 x7_1) != 10) = false := bne_eq_false_iff_eq.mpr c6
                clear c6
                obtain rfl := Option.some.inj H
                have p120 : 0 ≤ (x7_1 : Int) := of_decide_eq_true (by first | (with_reducible assumption) | assumption)
                have q120 : x7_1 < (l0.length : Int) := of_decide_eq_true (by first | (with_reducible assumption) | assumption)
                obtain ⟨ad120, e120, hx120_0⟩ := Kd.at_int HR0.out x7_1 p120 q120
                cases e120
                replace p120 := eq_true p120
                replace q120 := eq_true q120
                go_wp2
                go_ret
                exact ⟨by first | rfl | (simp; done) | (simp [*]; done), by repeat (first | exact Drawn0.refl _ | apply Drawn0.step)⟩
              · rw [if_neg c6] at H
                have c6b0 : ((rd l0 x7_1) == 10) = false := beq_eq_false_iff_ne.mpr c6
                have c6b1 : ((rd l0 x7_1) != 10) = true := bne_iff_ne.mpr c6
                by_cases c7 : (rd l0 x7_1) = 13
                · rw [if_pos c7] at H
                  have c7b0 : ((rd l0 x7_1) == 13) = true := beq_iff_eq.mpr c7
                  have c7b1 : ((rd l0 x7_1) != 13) = false := bne_eq_false_iff_eq.mpr c7
                  clear c7
                  obtain rfl := Option.some.inj H
                  have p120 : 0 ≤ (x7_1 : Int) := of_decide_eq_true (by first | (with_reducible assumption) | assumption)
                  have q120 : x7_1 < (l0.length : Int) := of_decide_eq_true (by first | (with_reducible assumption) | assumption)
                  obtain ⟨ad120, e120, hx120_0⟩ := Kd.at_int HR0.out x7_1 p120 q120
                  cases e120
                  replace p120 := eq_true p120
                  replace q120 := eq_true q120
                  go_wp2
                  go_ret
                  exact ⟨by first | rfl | (simp; done) | (simp [*]; done), by repeat (first | exact Drawn0.refl _ | apply Drawn0.step)⟩
                · rw [if_neg c7] at H
                  have c7b0 : ((rd l0 x7_1) == 13) = false := beq_eq_false_iff_ne.mpr c7
                  have c7b1 : ((rd l0 x7_1) != 13) = true := bne_iff_ne.mpr c7
                  by_cases c8 : (rd l0 x7_1) = 9
                  · rw [if_pos c8] at H
                    have c8b0 : ((rd l0 x7_1) == 9) = true := beq_iff_eq.mpr c8
                    have c8b1 : ((rd l0 x7_1) != 9) = false := bne_eq_false_iff_eq.mpr c8
                    clear c8
                    obtain rfl := Option.some.inj H
                    have p120 : 0 ≤ (x7_1 : Int) := of_decide_eq_true (by first | (with_reducible assumption) | assumption)
                    have q120 : x7_1 < (l0.length : Int) := of_decide_eq_true (by first | (with_reducible assumption) | assumption)
                    obtain ⟨ad120, e120, hx120_0⟩ := Kd.at_int HR0.out x7_1 p120 q120
                    cases e120
                    replace p120 := eq_true p120
                    replace q120 := eq_true q120
                    go_wp2
                    go_ret
                    exact ⟨by first | rfl | (simp; done) | (simp [*]; done), by repeat (first | exact Drawn0.refl _ | apply Drawn0.step)⟩
                  · rw [if_neg c8] at H
                    have c8b0 : ((rd l0 x7_1) == 9) = false := beq_eq_false_iff_ne.mpr c8
                    have c8b1 : ((rd l0 x7_1) != 9) = true := bne_iff_ne.mpr c8
                    by_cases c9 : (rd l0 x7_1) = 44
                    · rw [if_pos c9] at H
                      have c9b0 : ((rd l0 x7_1) == 44) = true := beq_iff_eq.mpr c9
                      have c9b1 : ((rd l0 x7_1) != 44) = false := bne_eq_false_iff_eq.mpr c9
                      clear c9
                      obtain rfl := Option.some.inj H
                      have p120 : 0 ≤ (x7_1 : Int) := of_decide_eq_true (by first | (with_reducible assumption) | assumption)
                      have q120 : x7_1 < (l0.length : Int) := of_decide_eq_true (by first | (with_reducible assumption) | assumption)
                      obtain ⟨ad120, e120, hx120_0⟩ := Kd.at_int HR0.out x7_1 p120 q120
                      cases e120
                      replace p120 := eq_true p120
                      replace q120 := eq_true q120
                      go_wp2
                      go_ret
                      exact ⟨by first | rfl | (simp; done) | (simp [*]; done), by repeat (first | exact Drawn0.refl _ | apply Drawn0.step)⟩
                    · rw [if_neg c9] at H
                      have c9b0 : ((rd l0 x7_1) == 44) = false := beq_eq_false_iff_ne.mpr c9
                      have c9b1 : ((rd l0 x7_1) != 44) = true := bne_iff_ne.mpr c9
                      by_cases c10 : (rd l0 x7_1) = 125
                      · rw [if_pos c10] at H
                        have c10b0 : ((rd l0 x7_1) == 125) = true := beq_iff_eq.mpr c10
                        have c10b1 : ((rd l0 x7_1) != 125) = false := bne_eq_false_iff_eq.mpr c10
                        clear c10
                        obtain rfl := Option.some.inj H
                        have p120 : 0 ≤ (x7_1 : Int) := of_decide_eq_true (by first | (with_reducible assumption) | assumption)
                        have q120 : x7_1 < (l0.length : Int) := of_decide_eq_true (by first | (with_reducible assumption) | assumption)
                        obtain ⟨ad120, e120, hx120_0⟩ := Kd.at_int HR0.out x7_1 p120 q120
                        cases e120
                        replace p120 := eq_true p120
                        replace q120 := eq_true q120
                        go_wp2
                        go_ret
                        exact ⟨by first | rfl | (simp; done) | (simp [*]; done), by repeat (first | exact Drawn0.refl _ | apply Drawn0.step)⟩
                      · rw [if_neg c10] at H
                        have c10b0 : ((rd l0 x7_1) == 125) = false := beq_eq_false_iff_ne.mpr c10
                        have c10b1 : ((rd l0 x7_1) != 125) = true := bne_iff_ne.mpr c10
                        by_cases c11 : (rd l0 x7_1) = 93
                        · rw [if_pos c11] at H
                          have c11b0 : ((rd l0 x7_1) == 93) = true := beq_iff_eq.mpr c11
                          have c11b1 : ((rd l0 x7_1) != 93) = false := bne_eq_false_iff_eq.mpr c11
                          clear c11
                          obtain rfl := Option.some.inj H
                          have p120 : 0 ≤ (x7_1 : Int) := of_decide_eq_true (by first | (with_reducible assumption) | assumption)
                          have q120 : x7_1 < (l0.length : Int) := of_decide_eq_true (by first | (with_reducible assumption) | assumption)
                          obtain ⟨ad120, e120, hx120_0⟩ := Kd.at_int HR0.out x7_1 p120 q120
                          cases e120
                          replace p120 := eq_true p120
                          replace q120 := eq_true q120
                          go_wp2
                          go_ret
                          exact ⟨by first | rfl | (simp; done) | (simp [*]; done), by repeat (first | exact Drawn0.refl _ | apply Drawn0.step)⟩
                        · rw [if_neg c11] at H
                          have c11b0 : ((rd l0 x7_1) == 93) = false := beq_eq_false_iff_ne.mpr c11
                          have c11b1 : ((rd l0 x7_1) != 93) = true := bne_iff_ne.mpr c11
                          have H' := Aside0.mk H
                          clear H
                          have p120 : 0 ≤ (x7_1 : Int) := of_decide_eq_true (by first | (with_reducible assumption) | assumption)
                          have q120 : x7_1 < (l0.length : Int) := of_decide_eq_true (by first | (with_reducible assumption) | assumption)
                          obtain ⟨ad120, e120, hx120_0⟩ := Kd.at_int HR0.out x7_1 p120 q120
                          cases e120
                          replace p120 := eq_true p120
                          replace q120 := eq_true q120
                          go_wp2
                          go_roundg k1
                          case measure => have := HK1.out; omega
                          case rel => exact ⟨(wrap64 (x7_1 + 1)), (by first | rfl | (simp; done) | (simp [*]; done)), H', ⟨by have := HK1.out; omega⟩, by repeat (first | exact Drawn0.refl _ | apply Drawn0.step)⟩
          · rw [if_neg c4] at H
            exact absurd H (by simp)
        · rw [if_neg c3] at H
          exact absurd H (by simp)
      · rw [if_neg c2] at H
        have c2b0 : decide (x7_1 < (l0.length : Int)) = false := decide_eq_false c2
        clear c2
        obtain rfl := Option.some.inj H
        go_wp2
        go_ret
        exact ⟨by first | rfl | (simp; done) | (simp [*]; done), by repeat (first | exact Drawn0.refl _ | apply Drawn0.step)⟩

end Go.Proofs.YtgbliniamkpocaaDoor.PEsc
