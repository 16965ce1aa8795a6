/- Written by a program of this session (a turned copy of the print) out of the translation. -/
import Derived.Test.YtphpjboljlkdkaaPFnGjValidCutx0
import Derived.Test.YtphpjboljlkdkaaPFnGjValidCutx4
import Derived.Test.YtphpjboljlkdkaaPFnGjValidCutx11
namespace Go.Proofs.Ytphpjboljlkdkaa.PFnGjValidCut
open Go.RowKit Go.Proofs.YtphpjboljlkdkaaW.PrintWords Go.Proofs.YtphpjboljlkdkaaW.PrintLast Go.Proofs.YtphpjboljlkdkaaW.PrintMore
attribute [local go_sem] max2_int min2_int max_two min_two max_three min_three max_four min_four   -- for this text's walks alone
set_option linter.unusedVariables false
set_option linter.unusedSimpArgs false
/-! ### laws_FnGjValidCut: function 4 -/
def laws_FnGjValidCut.j0 : Nat → ByteArray → Int → Int → Int → Bool → Int → Int → Int → List (S51) → List (S25) → Option (Bool)
  | 0, _, _, _, _, _, _, _, _, _, _ => none
  | k + 1, x0, x1, x2, x3, x26, x320000, x320001, x320002, x320003, x320004 => if x26 = true then (some true) else (if 0 ≤ (Int.tmod x2 4) then (if (Int.tmod x2 4) ≤ (IntKind.u64.wrap ((Int.tmod x2 4) + 1)) then (if (IntKind.u64.wrap ((Int.tmod x2 4) + 1)) ≤ 4 then (if ((⟨#[32, 9, 10, 13]⟩ : ByteArray).extract ((Int.tmod x2 4) : Int).toNat ((IntKind.u64.wrap ((Int.tmod x2 4) + 1)) : Int).toNat).size + x0.size ≤ 9223372036854775807 then (if 0 ≤ (Int.tmod x3 4) then (if (Int.tmod x3 4) ≤ (IntKind.u64.wrap ((Int.tmod x3 4) + 1)) then (if (IntKind.u64.wrap ((Int.tmod x3 4) + 1)) ≤ 4 then (if (((⟨#[32, 9, 10, 13]⟩ : ByteArray).extract ((Int.tmod x2 4) : Int).toNat ((IntKind.u64.wrap ((Int.tmod x2 4) + 1)) : Int).toNat) ++ x0).size + ((⟨#[32, 9, 10, 13]⟩ : ByteArray).extract ((Int.tmod x3 4) : Int).toNat ((IntKind.u64.wrap ((Int.tmod x3 4) + 1)) : Int).toNat).size ≤ 9223372036854775807 then ((impl_GjValid.f k ((((⟨#[32, 9, 10, 13]⟩ : ByteArray).extract ((Int.tmod x2 4) : Int).toNat ((IntKind.u64.wrap ((Int.tmod x2 4) + 1)) : Int).toNat) ++ x0) ++ ((⟨#[32, 9, 10, 13]⟩ : ByteArray).extract ((Int.tmod x3 4) : Int).toNat ((IntKind.u64.wrap ((Int.tmod x3 4) + 1)) : Int).toNat))).bind fun t320 => (if t320 = true then (if x320000 < 4 then (some true) else (if x1 < 0 then (some true) else (if x1 ≥ x320002 then (some true) else (if 0 ≤ x1 then (if x1 ≤ (x0.size : Int) then ((impl_GjValid.f k (x0.extract 0 (x1 : Int).toNat)).bind fun t321 => (some (!t321))) else (none)) else (none))))) else (some false))) else (none)) else (none)) else (none)) else (none)) else (none)) else (none)) else (none)) else (none))
def laws_FnGjValidCut.f (k : Nat) (a0 : ByteArray) (a1 : Int) (a2 : Int) (a3 : Int) : Option (Bool) := if (a0.size : Int) > 2147483647 then (some true) else ((spec_Places.f k a0).bind fun bt309 => (if bt309.2.2.2.2.2 = true then (laws_FnGjValidCut.j0 k a0 a1 a2 a3 (decide ((a0.size : Int) > 65536)) bt309.1 bt309.2.1 bt309.2.2.1 bt309.2.2.2.1 bt309.2.2.2.2.1) else (laws_FnGjValidCut.j0 k a0 a1 a2 a3 true bt309.1 bt309.2.1 bt309.2.2.1 bt309.2.2.2.1 bt309.2.2.2.2.1)))
theorem laws_FnGjValidCut.mono_l : ∀ k, (∀ y0 y1 y2 y3 y4 y5 y6 y7 y8 y9, LeO (laws_FnGjValidCut.j0 k y0 y1 y2 y3 y4 y5 y6 y7 y8 y9) (laws_FnGjValidCut.j0 (k + 1) y0 y1 y2 y3 y4 y5 y6 y7 y8 y9))
  | 0 => fun _ _ _ _ _ _ _ _ _ _ r h => by simp [laws_FnGjValidCut.j0] at h
  | k + 1 => by
    have ih0 := laws_FnGjValidCut.mono_l k
    · intro y0 y1 y2 y3 y4 y5 y6 y7 y8 y9
      unfold laws_FnGjValidCut.j0
      repeat' first
      | (with_reducible exact ih0 _ _ _ _ _ _ _ _ _ _)
      | (with_reducible exact impl_GjValid.mono _ _)
      | (with_reducible exact spec_Places.mono _ _)
      | (with_reducible exact LeO.refl _)
      | (with_reducible exact LeO.none _)
      | (with_reducible refine LeO.ite ?_ ?_)
      | (with_reducible refine LeO.bind ?_ (fun _ => ?_))
      | exact ih0 _ _ _ _ _ _ _ _ _ _
      | exact impl_GjValid.mono _ _
      | exact spec_Places.mono _ _
      | exact LeO.none _
      | refine LeO.ite ?_ ?_
      | refine LeO.bind ?_ (fun _ => ?_)
theorem laws_FnGjValidCut.mono : ∀ a0 a1 a2 a3 k, LeO (laws_FnGjValidCut.f k a0 a1 a2 a3) (laws_FnGjValidCut.f (k + 1) a0 a1 a2 a3) := by
  intro a0 a1 a2 a3 k
  have ih0 := laws_FnGjValidCut.mono_l k
  unfold laws_FnGjValidCut.f
  repeat' first
      | (with_reducible exact ih0 _ _ _ _ _ _ _ _ _ _)
      | (with_reducible exact impl_GjValid.mono _ _)
      | (with_reducible exact spec_Places.mono _ _)
      | (with_reducible exact LeO.refl _)
      | (with_reducible exact LeO.none _)
      | (with_reducible refine LeO.ite ?_ ?_)
      | (with_reducible refine LeO.bind ?_ (fun _ => ?_))
      | exact ih0 _ _ _ _ _ _ _ _ _ _
      | exact impl_GjValid.mono _ _
      | exact spec_Places.mono _ _
      | exact LeO.none _
      | refine LeO.ite ?_ ?_
      | refine LeO.bind ?_ (fun _ => ?_)
def laws_FnGjValidCut.T7 : Bool × List (List Nat × List Nat) := (true, [([], []), ([], []), ([1], [1]), ([], []), ([3], [3]), ([4], [4]), ([0, 2, 5], [0, 2, 5]), ([], []), ([6, 7], [6, 7]), ([], []), ([], []), ([10], [10]), ([], []), ([12], [12]), ([13], [13]), ([9, 11, 14], [9, 11, 14]), ([8, 15], [8, 15]), ([16], [16]), ([17], [17])])
def laws_FnGjValidCut.B7 : List Nat := [0, 0, 2, 0, 8, 24, 63, 0, 255, 0, 0, 1024, 0, 4096, 12288, 32256, 65535, 131071, 262143]
theorem laws_FnGjValidCut.tab7 : rtab .any (opsOf Try.f4 7) = laws_FnGjValidCut.T7 := by kernel_rfl
theorem laws_FnGjValidCut.bits7 : waitsOk laws_FnGjValidCut.T7.2 laws_FnGjValidCut.B7 = true := by kernel_rfl
set_option maxHeartbeats 8000000 in
set_option maxRecDepth 100000 in
theorem laws_FnGjValidCut.calls (k : Nat) (a0 : ByteArray) (a1 : Int) (a2 : Int) (a3 : Int) (r : Bool) (w : World) (h : laws_FnGjValidCut.f k a0 a1 a2 a3 = some r) :
    Calls Try.prog 4 #[.string a0, .int .i64 a1, .int .u64 a2, .int .u64 a3] w fun e w' => e = .returned (.bool r) ∧ Below w.heap.size w w' := by
  have hu25 := Try.underlying25
  have HB := Aside0.mk (Below.refl w.heap.size w)
  have H : (if (a0.size : Int) > 2147483647 then (some true) else ((spec_Places.f k a0).bind fun bt309 => (if bt309.2.2.2.2.2 = true then (laws_FnGjValidCut.j0 k a0 a1 a2 a3 (decide ((a0.size : Int) > 65536)) bt309.1 bt309.2.1 bt309.2.2.1 bt309.2.2.2.1 bt309.2.2.2.2.1) else (laws_FnGjValidCut.j0 k a0 a1 a2 a3 true bt309.1 bt309.2.1 bt309.2.2.1 bt309.2.2.2.1 bt309.2.2.2.2.1)))) = some r := h
  clear h
  by_cases c5 : (a0.size : Int) > 2147483647
  · rw [if_pos c5] at H
    have c5b0 : decide (2147483647 < (a0.size : Int)) = true := decide_eq_true c5
    have c5b1 : decide (2147483647 < a0.size) = true := decide_eq_true (by omega)
    clear c5
    obtain rfl := Option.some.inj H
    go_enter Try.func4, Try.ntmps4
    go_wp2
    go_ret
    exact ⟨by first | rfl | (simp [errW_none, errW_some] <;> rfl) | (simp [*, errW_none, errW_some] <;> rfl), by repeat (first | (with_reducible first | exact HB.out | apply below_alloc | apply pw_below_drewN | apply below_drew1) | exact HB.out)⟩
  · rw [if_neg c5] at H
    have c5b0 : decide (2147483647 < (a0.size : Int)) = false := decide_eq_false c5
    have c5b1 : decide (2147483647 < a0.size) = false := decide_eq_false (by omega)
    clear c5
    replace H := Option.bind_eq_some_iff.mp H
    obtain ⟨⟨t309, t310, t311, t312, t315, t318⟩, A60, H⟩ := H
    replace H : (if t318 = true then (laws_FnGjValidCut.j0 k a0 a1 a2 a3 (decide ((a0.size : Int) > 65536)) t309 t310 t311 t312 t315) else (laws_FnGjValidCut.j0 k a0 a1 a2 a3 true t309 t310 t311 t312 t315)) = some r := H
    have A6 := Aside0.mk A60
    clear A60
    have HC7 := Aside0.mk H
    clear H
    go_enter Try.func4, Try.ntmps4
    go_upto_region 4 with (first | ((with_reducible refine gate_callee (f := 8) rfl ?_); refine goesL_ (some 17) rfl rfl Try.func8 (by kernel_rfl) rfl #[.string a0] rfl (by (try simp only [List.map_toArray, List.map_cons, List.map_nil]); first | done | rfl | (simp only [List.length_drop, List.length_take]; rfl)) ?_; (with_reducible refine (spec_Places.calls k a0 t309 t310 t311 t312 t315 t318 _ A6.out).mono ?_); rintro e w8 ⟨v313, v316, rfl, ho0, ho1, hb⟩; refine ⟨_, rfl, ?_⟩; have n0_ := Aside0.mk (Kd.R_lower ho0 (below_size (by repeat (first | (with_reducible first | exact HB.out | apply below_alloc | apply pw_below_drewN | apply below_drew1) | exact HB.out)))); have n1_ := Aside0.mk (Kd.R_lower ho1 (below_size (by repeat (first | (with_reducible first | exact HB.out | apply below_alloc | apply pw_below_drewN | apply below_drew1) | exact HB.out)))); have n2_ := Aside0.mk (below_step (by repeat (first | (with_reducible first | exact HB.out | apply below_alloc | apply pw_below_drewN | apply below_drew1) | exact HB.out)) hb); clear HB; have HO314 := n0_; have HO317 := n1_; have HB := n2_; clear n0_ n1_ n2_; (try clear hb); (try clear hb2); (try clear hk); (try clear hi); (try clear ho0); (try clear ho1)) | ((with_reducible refine gate_dst (N := 9) rfl ?_); (try (refine gate_guard (by rfl) ?_; dsimp only)); refine box_event ?hg (N := 9) ?hd (cs := #[.int .i64 0, .int .i64 0, .int .i64 0, .slice none 0 0, .slice none 0 0]) (t := 25) ?hr ?_; (case hd => rfl); (case hg => rfl); (case hr => first | (go_simp; done) | (go_simp; rfl)); intro gb319 hg w9 hbox hb; have n0_ := Aside0.mk (Kd.R_below (by (with_reducible repeat (first | apply Kd.R_alloc | apply Kd.R_drewN | apply Kd.R_drew)); exact HO314.out) hb); have n1_ := Aside0.mk (Kd.R_below (Kd.R_elderB (by (with_reducible repeat (first | apply Kd.R_alloc | apply Kd.R_drewN | apply Kd.R_drew)); exact HO317.out) gb319 (Nat.le_of_eq hg.symm)) hb); have n2_ := Aside0.mk (below_step (by repeat (first | (with_reducible first | exact HB.out | apply below_alloc | apply pw_below_drewN | apply below_drew1) | exact HB.out)) hb); have n3_ := Aside0.mk (hbox); have n4_ := Aside0.mk ((by rw [hg]; exact (below_size (by repeat (first | (with_reducible first | exact HB.out | apply below_alloc | apply pw_below_drewN | apply below_drew1) | exact HB.out))) : w.heap.size ≤ gb319)); have n5_ := Aside0.mk ((by rw [hg]; exact (below_size (by repeat (first | (with_reducible first | exact HB.out | apply below_alloc | apply pw_below_drewN | apply below_drew1) | exact HB.out))) : w.heap.size ≤ gb319)); clear HO314; clear HO317; clear HB; have HO314 := n0_; have HO317 := n1_; have HB := n2_; have BK319 := n3_; have GW319 := n4_; have GE319 := n5_; clear n0_ n1_ n2_ n3_ n4_ n5_; clear hb hbox hg; have hcz10_0 : w9.cell? ⟨gb319, 0, none⟩ = some (.int .i64 0) := (blk_cell BK319.out 0).trans rfl; have hcz10_1 : w9.cell? ⟨gb319, 1, none⟩ = some (.int .i64 0) := (blk_cell BK319.out 1).trans rfl; have hcz10_2 : w9.cell? ⟨gb319, 2, none⟩ = some (.int .i64 0) := (blk_cell BK319.out 2).trans rfl; have hcz10_3 : w9.cell? ⟨gb319, 3, none⟩ = some (.slice none 0 0) := (blk_cell BK319.out 3).trans rfl; have hcz10_4 : w9.cell? ⟨gb319, 4, none⟩ = some (.slice none 0 0) := (blk_cell BK319.out 4).trans rfl; have hfz10_0 := blk_frozen BK319.out 0; have hfz10_1 := blk_frozen BK319.out 1; have hfz10_2 := blk_frozen BK319.out 2; have hfz10_3 := blk_frozen BK319.out 3; have hfz10_4 := blk_frozen BK319.out 4; obtain ⟨Ao11, co11, eo11⟩ := Kd.R_slice HO314.out; subst eo11; obtain ⟨Ao12, co12, eo12⟩ := Kd.R_slice HO317.out; subst eo12))
    (try simp only [Act.put, List.setIfInBounds_toArray, List.set_cons_zero, List.set_cons_succ])
    go_cut [26] (fun v26 wc => ∃ (kq : Nat) (x26_6 : Bool), v26 = .bool x26_6 ∧ Aside0 (laws_FnGjValidCut.j0 kq a0 a1 a2 a3 x26_6 t309 t310 t311 t312 t315 = some r) ∧ Aside0 (kq ≤ k) ∧ Aside0 (Kd.R k51 51 wc w.heap.size (fun _ => True) (.slice Ao11 t312.length co11) t312) ∧ Aside0 (Kd.R k25 25 wc w.heap.size (fun k_ => some k_ ≠ ((.slice Ao11 t312.length co11) : Value).ownBlock ∧ k_ ≠ gb319) (.slice Ao12 t315.length co12) t315) ∧ Aside0 (wc.heap[gb319]? = some (.cells #[.int .i64 t309, .int .i64 t310, .int .i64 t311, (.slice Ao11 t312.length co11), (.slice Ao12 t315.length co12)] 25 (0, 0))) ∧ Aside0 (Below w.heap.size w wc))
    case first =>
      have H := HC7.out
      clear HC7
      by_cases c13 : t318 = true
      · subst c13
        have H1 : (laws_FnGjValidCut.j0 k a0 a1 a2 a3 (decide ((a0.size : Int) > 65536)) t309 t310 t311 t312 t315) = some r := by rw [if_pos rfl] at H; exact H
        clear H
        have H := H1
        clear H1
        have H' := Aside0.mk H
        clear H
        go_wp2
        go_meet
        case rel => exact ⟨_, (decide ((a0.size : Int) > 65536)), (by first | rfl | (simp; done) | (simp [*]; done)), H', ⟨by first | omega | exact Nat.le_refl _⟩, ⟨by (with_reducible repeat (first | apply Kd.R_alloc | apply Kd.R_drewN | apply Kd.R_drew)); exact Kd.R_mono (Kd.R_far (p := ⟨gb319, 4, none⟩) (Kd.R_far (p := ⟨gb319, 3, none⟩) (Kd.R_far (p := ⟨gb319, 2, none⟩) (Kd.R_far (p := ⟨gb319, 1, none⟩) (Kd.R_far (p := ⟨gb319, 0, none⟩) (Kd.R_types HO314.out BK319.out (by decide)) (fun _ hk => hk.2) (.int .i64 t309)) (fun _ hk => hk.2) (.int .i64 t310)) (fun _ hk => hk.2) (.int .i64 t311)) (fun _ hk => hk.2) (.slice Ao11 t312.length co11)) (fun _ hk => hk.2) (.slice Ao12 t315.length co12)) (fun _ hk => trivial)⟩, ⟨by (with_reducible repeat (first | apply Kd.R_alloc | apply Kd.R_drewN | apply Kd.R_drew)); exact Kd.R_mono (Kd.R_far (p := ⟨gb319, 4, none⟩) (Kd.R_far (p := ⟨gb319, 3, none⟩) (Kd.R_far (p := ⟨gb319, 2, none⟩) (Kd.R_far (p := ⟨gb319, 1, none⟩) (Kd.R_far (p := ⟨gb319, 0, none⟩) (Kd.R_mono HO317.out (fun k_ hk => (⟨hk, hk.2⟩ : _ ∧ k_ ≠ gb319))) (fun _ hk => hk.2) (.int .i64 t309)) (fun _ hk => hk.2) (.int .i64 t310)) (fun _ hk => hk.2) (.int .i64 t311)) (fun _ hk => hk.2) (.slice Ao11 t312.length co11)) (fun _ hk => hk.2) (.slice Ao12 t315.length co12)) (fun _ hk => ⟨hk.1.1, hk.1.2⟩)⟩, ⟨by (with_reducible repeat (first | refine blk_drewN ?_ _ | refine blk_drew ?_ | refine blk_alloc ?_ _)); refine blk_put (cs := #[.int .i64 t309, .int .i64 t310, .int .i64 t311, .slice Ao11 t312.length co11, .slice none 0 0]) ?_ 4 _ rfl; (with_reducible repeat (first | refine blk_drewN ?_ _ | refine blk_drew ?_ | refine blk_alloc ?_ _)); refine blk_put (cs := #[.int .i64 t309, .int .i64 t310, .int .i64 t311, .slice none 0 0, .slice none 0 0]) ?_ 3 _ rfl; (with_reducible repeat (first | refine blk_drewN ?_ _ | refine blk_drew ?_ | refine blk_alloc ?_ _)); refine blk_put (cs := #[.int .i64 t309, .int .i64 t310, .int .i64 0, .slice none 0 0, .slice none 0 0]) ?_ 2 _ rfl; (with_reducible repeat (first | refine blk_drewN ?_ _ | refine blk_drew ?_ | refine blk_alloc ?_ _)); refine blk_put (cs := #[.int .i64 t309, .int .i64 0, .int .i64 0, .slice none 0 0, .slice none 0 0]) ?_ 1 _ rfl; (with_reducible repeat (first | refine blk_drewN ?_ _ | refine blk_drew ?_ | refine blk_alloc ?_ _)); refine blk_put (cs := #[.int .i64 0, .int .i64 0, .int .i64 0, .slice none 0 0, .slice none 0 0]) ?_ 0 _ rfl; (with_reducible repeat (first | refine blk_drewN ?_ _ | refine blk_drew ?_ | refine blk_alloc ?_ _)); exact BK319.out⟩, ⟨by repeat (first | (with_reducible first | exact HB.out | apply below_alloc | apply pw_below_drewN | apply below_drew1 | refine below_set ?_ GE319.out) | exact HB.out)⟩⟩
      · replace c13 := Bool.eq_false_iff.mpr c13
        subst c13
        have H1 : (laws_FnGjValidCut.j0 k a0 a1 a2 a3 true t309 t310 t311 t312 t315) = some r := by rw [if_neg (show ¬ (false = true) by decide)] at H; exact H
        clear H
        have H := H1
        clear H1
        have H' := Aside0.mk H
        clear H
        go_wp2
        go_meet
        case rel => exact ⟨_, (true), (by first | rfl | (simp; done) | (simp [*]; done)), H', ⟨by first | omega | exact Nat.le_refl _⟩, ⟨by (with_reducible repeat (first | apply Kd.R_alloc | apply Kd.R_drewN | apply Kd.R_drew)); exact Kd.R_mono (Kd.R_far (p := ⟨gb319, 4, none⟩) (Kd.R_far (p := ⟨gb319, 3, none⟩) (Kd.R_far (p := ⟨gb319, 2, none⟩) (Kd.R_far (p := ⟨gb319, 1, none⟩) (Kd.R_far (p := ⟨gb319, 0, none⟩) (Kd.R_types HO314.out BK319.out (by decide)) (fun _ hk => hk.2) (.int .i64 t309)) (fun _ hk => hk.2) (.int .i64 t310)) (fun _ hk => hk.2) (.int .i64 t311)) (fun _ hk => hk.2) (.slice Ao11 t312.length co11)) (fun _ hk => hk.2) (.slice Ao12 t315.length co12)) (fun _ hk => trivial)⟩, ⟨by (with_reducible repeat (first | apply Kd.R_alloc | apply Kd.R_drewN | apply Kd.R_drew)); exact Kd.R_mono (Kd.R_far (p := ⟨gb319, 4, none⟩) (Kd.R_far (p := ⟨gb319, 3, none⟩) (Kd.R_far (p := ⟨gb319, 2, none⟩) (Kd.R_far (p := ⟨gb319, 1, none⟩) (Kd.R_far (p := ⟨gb319, 0, none⟩) (Kd.R_mono HO317.out (fun k_ hk => (⟨hk, hk.2⟩ : _ ∧ k_ ≠ gb319))) (fun _ hk => hk.2) (.int .i64 t309)) (fun _ hk => hk.2) (.int .i64 t310)) (fun _ hk => hk.2) (.int .i64 t311)) (fun _ hk => hk.2) (.slice Ao11 t312.length co11)) (fun _ hk => hk.2) (.slice Ao12 t315.length co12)) (fun _ hk => ⟨hk.1.1, hk.1.2⟩)⟩, ⟨by (with_reducible repeat (first | refine blk_drewN ?_ _ | refine blk_drew ?_ | refine blk_alloc ?_ _)); refine blk_put (cs := #[.int .i64 t309, .int .i64 t310, .int .i64 t311, .slice Ao11 t312.length co11, .slice none 0 0]) ?_ 4 _ rfl; (with_reducible repeat (first | refine blk_drewN ?_ _ | refine blk_drew ?_ | refine blk_alloc ?_ _)); refine blk_put (cs := #[.int .i64 t309, .int .i64 t310, .int .i64 t311, .slice none 0 0, .slice none 0 0]) ?_ 3 _ rfl; (with_reducible repeat (first | refine blk_drewN ?_ _ | refine blk_drew ?_ | refine blk_alloc ?_ _)); refine blk_put (cs := #[.int .i64 t309, .int .i64 t310, .int .i64 0, .slice none 0 0, .slice none 0 0]) ?_ 2 _ rfl; (with_reducible repeat (first | refine blk_drewN ?_ _ | refine blk_drew ?_ | refine blk_alloc ?_ _)); refine blk_put (cs := #[.int .i64 t309, .int .i64 0, .int .i64 0, .slice none 0 0, .slice none 0 0]) ?_ 1 _ rfl; (with_reducible repeat (first | refine blk_drewN ?_ _ | refine blk_drew ?_ | refine blk_alloc ?_ _)); refine blk_put (cs := #[.int .i64 0, .int .i64 0, .int .i64 0, .slice none 0 0, .slice none 0 0]) ?_ 0 _ rfl; (with_reducible repeat (first | refine blk_drewN ?_ _ | refine blk_drew ?_ | refine blk_alloc ?_ _)); exact BK319.out⟩, ⟨by repeat (first | (with_reducible first | exact HB.out | apply below_alloc | apply pw_below_drewN | apply below_drew1 | refine below_set ?_ GE319.out) | exact HB.out)⟩⟩
    case rest =>
      clear HC7
      try clear c1
      try clear p2
      try clear c4
      try clear c5
      try clear c5b0
      try clear c5b1
      try clear c8
      try clear c13
      try clear hcz10_0
      try clear hcz10_1
      try clear hcz10_2
      try clear hcz10_3
      try clear hcz10_4
      try clear hfz10_0
      try clear hfz10_1
      try clear hfz10_2
      try clear hfz10_3
      try clear hfz10_4
      obtain ⟨kq, x26_6, rfl, HA, HJ6, HO_320003, HO_320004, BK319, HB⟩ := hcut
      cases kq with
      | zero => exact absurd HA.out (by simp [laws_FnGjValidCut.j0])
      | succ kj6 =>
        have H := HA.out
        clear HA
        simp only [laws_FnGjValidCut.j0] at H
        by_cases c14 : x26_6 = true
        · subst c14
          have H1 : (some true) = some r := by rw [if_pos rfl] at H; exact H
          clear H
          have H := H1
          clear H1
          obtain rfl := Option.some.inj H
          go_wp2
          go_ret
          exact ⟨by first | rfl | (simp [errW_none, errW_some] <;> rfl) | (simp [*, errW_none, errW_some] <;> rfl), by repeat (first | (with_reducible first | exact HB.out | apply below_alloc | apply pw_below_drewN | apply below_drew1 | refine below_set ?_ GE319.out) | exact HB.out)⟩
        · replace c14 := Bool.eq_false_iff.mpr c14
          subst c14
          have H1 : (if 0 ≤ (Int.tmod a2 4) then (if (Int.tmod a2 4) ≤ (IntKind.u64.wrap ((Int.tmod a2 4) + 1)) then (if (IntKind.u64.wrap ((Int.tmod a2 4) + 1)) ≤ 4 then (if ((⟨#[32, 9, 10, 13]⟩ : ByteArray).extract ((Int.tmod a2 4) : Int).toNat ((IntKind.u64.wrap ((Int.tmod a2 4) + 1)) : Int).toNat).size + a0.size ≤ 9223372036854775807 then (if 0 ≤ (Int.tmod a3 4) then (if (Int.tmod a3 4) ≤ (IntKind.u64.wrap ((Int.tmod a3 4) + 1)) then (if (IntKind.u64.wrap ((Int.tmod a3 4) + 1)) ≤ 4 then (if (((⟨#[32, 9, 10, 13]⟩ : ByteArray).extract ((Int.tmod a2 4) : Int).toNat ((IntKind.u64.wrap ((Int.tmod a2 4) + 1)) : Int).toNat) ++ a0).size + ((⟨#[32, 9, 10, 13]⟩ : ByteArray).extract ((Int.tmod a3 4) : Int).toNat ((IntKind.u64.wrap ((Int.tmod a3 4) + 1)) : Int).toNat).size ≤ 9223372036854775807 then ((impl_GjValid.f kj6 ((((⟨#[32, 9, 10, 13]⟩ : ByteArray).extract ((Int.tmod a2 4) : Int).toNat ((IntKind.u64.wrap ((Int.tmod a2 4) + 1)) : Int).toNat) ++ a0) ++ ((⟨#[32, 9, 10, 13]⟩ : ByteArray).extract ((Int.tmod a3 4) : Int).toNat ((IntKind.u64.wrap ((Int.tmod a3 4) + 1)) : Int).toNat))).bind fun t320 => (if t320 = true then (if t309 < 4 then (some true) else (if a1 < 0 then (some true) else (if a1 ≥ t311 then (some true) else (if 0 ≤ a1 then (if a1 ≤ (a0.size : Int) then ((impl_GjValid.f kj6 (a0.extract 0 (a1 : Int).toNat)).bind fun t321 => (some (!t321))) else (none)) else (none))))) else (some false))) else (none)) else (none)) else (none)) else (none)) else (none)) else (none)) else (none)) else (none)) = some r := by rw [if_neg (show ¬ (false = true) by decide)] at H; exact H
          clear H
          have H := H1
          clear H1
          obtain ⟨ji15, hji15⟩ : ∃ j_ : Int, (Int.tmod a2 4) = j_ := ⟨_, rfl⟩
          replace H : (if 0 ≤ (ji15) then (if (ji15) ≤ (IntKind.u64.wrap ((ji15) + 1)) then (if (IntKind.u64.wrap ((ji15) + 1)) ≤ 4 then (if ((⟨#[32, 9, 10, 13]⟩ : ByteArray).extract ((ji15) : Int).toNat ((IntKind.u64.wrap ((ji15) + 1)) : Int).toNat).size + a0.size ≤ 9223372036854775807 then (if 0 ≤ (Int.tmod a3 4) then (if (Int.tmod a3 4) ≤ (IntKind.u64.wrap ((Int.tmod a3 4) + 1)) then (if (IntKind.u64.wrap ((Int.tmod a3 4) + 1)) ≤ 4 then (if (((⟨#[32, 9, 10, 13]⟩ : ByteArray).extract ((ji15) : Int).toNat ((IntKind.u64.wrap ((ji15) + 1)) : Int).toNat) ++ a0).size + ((⟨#[32, 9, 10, 13]⟩ : ByteArray).extract ((Int.tmod a3 4) : Int).toNat ((IntKind.u64.wrap ((Int.tmod a3 4) + 1)) : Int).toNat).size ≤ 9223372036854775807 then ((impl_GjValid.f kj6 ((((⟨#[32, 9, 10, 13]⟩ : ByteArray).extract ((ji15) : Int).toNat ((IntKind.u64.wrap ((ji15) + 1)) : Int).toNat) ++ a0) ++ ((⟨#[32, 9, 10, 13]⟩ : ByteArray).extract ((Int.tmod a3 4) : Int).toNat ((IntKind.u64.wrap ((Int.tmod a3 4) + 1)) : Int).toNat))).bind fun t320 => (if t320 = true then (if t309 < 4 then (some true) else (if a1 < 0 then (some true) else (if a1 ≥ t311 then (some true) else (if 0 ≤ a1 then (if a1 ≤ (a0.size : Int) then ((impl_GjValid.f kj6 (a0.extract 0 (a1 : Int).toNat)).bind fun t321 => (some (!t321))) else (none)) else (none))))) else (some false))) else (none)) else (none)) else (none)) else (none)) else (none)) else (none)) else (none)) else (none)) = some r := by first | (rw [hji15] at H; exact H) | (simp only [hji15] at H ⊢; exact H)
          by_cases c16 : 0 ≤ (ji15)
          · rw [if_pos c16] at H
            have c16b0 := eq_true c16
            have c16b1 : decide (0 ≤ (ji15)) = true := decide_eq_true c16
            clear c16
            by_cases c17 : (ji15) ≤ (IntKind.u64.wrap ((ji15) + 1))
            · rw [if_pos c17] at H
              have c17b0 := eq_true c17
              have c17b1 : decide ((ji15) ≤ (IntKind.u64.wrap ((ji15) + 1))) = true := decide_eq_true c17
              by_cases c18 : (IntKind.u64.wrap ((ji15) + 1)) ≤ 4
              · rw [if_pos c18] at H
                have c18b0 := eq_true c18
                have c18b1 : decide ((IntKind.u64.wrap ((ji15) + 1)) ≤ 4) = true := decide_eq_true c18
                by_cases c19 : ((⟨#[32, 9, 10, 13]⟩ : ByteArray).extract ((ji15) : Int).toNat ((IntKind.u64.wrap ((ji15) + 1)) : Int).toNat).size + a0.size ≤ 9223372036854775807
                · rw [if_pos c19] at H
                  have c19b0 := eq_true c19
                  have c19b1 : decide (((⟨#[32, 9, 10, 13]⟩ : ByteArray).extract ((ji15) : Int).toNat ((IntKind.u64.wrap ((ji15) + 1)) : Int).toNat).size + a0.size ≤ 9223372036854775807) = true := decide_eq_true c19
                  try have c19b2 : (9223372036854775807 < ((⟨#[32, 9, 10, 13]⟩ : ByteArray).extract ((ji15) : Int).toNat ((IntKind.u64.wrap ((ji15) + 1)) : Int).toNat).size + a0.size) = False := eq_false (Nat.not_lt.2 c19)
                  have c19b3 : (9223372036854775807 < (IntKind.u64.wrap (ji15 + 1)).toNat - ji15.toNat + a0.size) = False := eq_false (by have z0_ : IntKind.u64.wrap (ji15 + 1) ≤ 4 := of_decide_eq_true (by assumption); have q_ := c19; simp only [ByteArray.size_append, ByteArray.size_extract, show (⟨#[32, 9, 10, 13]⟩ : ByteArray).size = 4 from rfl] at q_; omega)
                  obtain ⟨ji20, hji20⟩ : ∃ j_ : Int, (Int.tmod a3 4) = j_ := ⟨_, rfl⟩
                  replace H : (if 0 ≤ (ji20) then (if (ji20) ≤ (IntKind.u64.wrap ((ji20) + 1)) then (if (IntKind.u64.wrap ((ji20) + 1)) ≤ 4 then (if (((⟨#[32, 9, 10, 13]⟩ : ByteArray).extract ((ji15) : Int).toNat ((IntKind.u64.wrap ((ji15) + 1)) : Int).toNat) ++ a0).size + ((⟨#[32, 9, 10, 13]⟩ : ByteArray).extract ((ji20) : Int).toNat ((IntKind.u64.wrap ((ji20) + 1)) : Int).toNat).size ≤ 9223372036854775807 then ((impl_GjValid.f kj6 ((((⟨#[32, 9, 10, 13]⟩ : ByteArray).extract ((ji15) : Int).toNat ((IntKind.u64.wrap ((ji15) + 1)) : Int).toNat) ++ a0) ++ ((⟨#[32, 9, 10, 13]⟩ : ByteArray).extract ((ji20) : Int).toNat ((IntKind.u64.wrap ((ji20) + 1)) : Int).toNat))).bind fun t320 => (if t320 = true then (if t309 < 4 then (some true) else (if a1 < 0 then (some true) else (if a1 ≥ t311 then (some true) else (if 0 ≤ a1 then (if a1 ≤ (a0.size : Int) then ((impl_GjValid.f kj6 (a0.extract 0 (a1 : Int).toNat)).bind fun t321 => (some (!t321))) else (none)) else (none))))) else (some false))) else (none)) else (none)) else (none)) else (none)) = some r := by first | (rw [hji20] at H; exact H) | (simp only [hji20] at H ⊢; exact H)
                  by_cases c21 : 0 ≤ (ji20)
                  · rw [if_pos c21] at H
                    have c21b0 := eq_true c21
                    have c21b1 : decide (0 ≤ (ji20)) = true := decide_eq_true c21
                    clear c21
                    by_cases c22 : (ji20) ≤ (IntKind.u64.wrap ((ji20) + 1))
                    · rw [if_pos c22] at H
                      have c22b0 := eq_true c22
                      have c22b1 : decide ((ji20) ≤ (IntKind.u64.wrap ((ji20) + 1))) = true := decide_eq_true c22
                      by_cases c23 : (IntKind.u64.wrap ((ji20) + 1)) ≤ 4
                      · rw [if_pos c23] at H
                        have c23b0 := eq_true c23
                        have c23b1 : decide ((IntKind.u64.wrap ((ji20) + 1)) ≤ 4) = true := decide_eq_true c23
                        by_cases c24 : (((⟨#[32, 9, 10, 13]⟩ : ByteArray).extract ((ji15) : Int).toNat ((IntKind.u64.wrap ((ji15) + 1)) : Int).toNat) ++ a0).size + ((⟨#[32, 9, 10, 13]⟩ : ByteArray).extract ((ji20) : Int).toNat ((IntKind.u64.wrap ((ji20) + 1)) : Int).toNat).size ≤ 9223372036854775807
                        · rw [if_pos c24] at H
                          have c24b0 := eq_true c24
                          have c24b1 : decide ((((⟨#[32, 9, 10, 13]⟩ : ByteArray).extract ((ji15) : Int).toNat ((IntKind.u64.wrap ((ji15) + 1)) : Int).toNat) ++ a0).size + ((⟨#[32, 9, 10, 13]⟩ : ByteArray).extract ((ji20) : Int).toNat ((IntKind.u64.wrap ((ji20) + 1)) : Int).toNat).size ≤ 9223372036854775807) = true := decide_eq_true c24
                          try have c24b2 : (9223372036854775807 < (((⟨#[32, 9, 10, 13]⟩ : ByteArray).extract ((ji15) : Int).toNat ((IntKind.u64.wrap ((ji15) + 1)) : Int).toNat) ++ a0).size + ((⟨#[32, 9, 10, 13]⟩ : ByteArray).extract ((ji20) : Int).toNat ((IntKind.u64.wrap ((ji20) + 1)) : Int).toNat).size) = False := eq_false (Nat.not_lt.2 c24)
                          have c24b3 : (9223372036854775807 < (IntKind.u64.wrap (ji15 + 1)).toNat - ji15.toNat + a0.size + ((IntKind.u64.wrap (ji20 + 1)).toNat - ji20.toNat)) = False := eq_false (by have z0_ : IntKind.u64.wrap (ji15 + 1) ≤ 4 := of_decide_eq_true (by assumption); have z1_ : IntKind.u64.wrap (ji20 + 1) ≤ 4 := of_decide_eq_true (by assumption); have q_ := c24; simp only [ByteArray.size_append, ByteArray.size_extract, show (⟨#[32, 9, 10, 13]⟩ : ByteArray).size = 4 from rfl] at q_; omega)
                          replace H := Option.bind_eq_some_iff.mp H
                          obtain ⟨t320, A250, H⟩ := H
                          replace H : (if t320 = true then (if t309 < 4 then (some true) else (if a1 < 0 then (some true) else (if a1 ≥ t311 then (some true) else (if 0 ≤ a1 then (if a1 ≤ (a0.size : Int) then ((impl_GjValid.f kj6 (a0.extract 0 (a1 : Int).toNat)).bind fun t321 => (some (!t321))) else (none)) else (none))))) else (some false)) = some r := H
                          have A25 := Aside0.mk A250
                          clear A250
                          by_cases c26 : t320 = true
                          · subst c26
                            have H1 : (if t309 < 4 then (some true) else (if a1 < 0 then (some true) else (if a1 ≥ t311 then (some true) else (if 0 ≤ a1 then (if a1 ≤ (a0.size : Int) then ((impl_GjValid.f kj6 (a0.extract 0 (a1 : Int).toNat)).bind fun t321 => (some (!t321))) else (none)) else (none))))) = some r := by rw [if_pos rfl] at H; exact H
                            clear H
                            have H := H1
                            clear H1
                            by_cases c27 : t309 < 4
                            · rw [if_pos c27] at H
                              have c27b0 : decide (t309 < 4) = true := decide_eq_true c27
                              clear c27
                              obtain rfl := Option.some.inj H
                              try go_wp2
                              have n0_ := Aside0.mk (Kd.R_drew HO_320003.out)
                              have n1_ := Aside0.mk (Kd.R_drew HO_320004.out)
                              have n2_ := Aside0.mk (blk_drew BK319.out)
                              have n3_ := Aside0.mk (below_drew1 HB.out)
                              clear HO_320003
                              clear HO_320004
                              clear BK319
                              clear HB
                              have HO_320003 := n0_
                              have HO_320004 := n1_
                              have BK319 := n2_
                              have HB := n3_
                              clear n0_ n1_ n2_ n3_
                              refine start_ (n := 19) (S := fun w' => True) (ds := []) #[false, false, false, false, false, false, false, false, false, false, false, false, false, false, false, false, false, false, false] (by kernel_rfl) rfl rfl trivial (fun hHeld => ?_); refine with_tabW laws_FnGjValidCut.tab7 laws_FnGjValidCut.bits7 (fun HT_ HW_ => ?_)
                              generalize wc.drew = w28 at HO_320003 HO_320004 BK319 HB hHeld ⊢
                              refine pure_ (i := 0) (N := some 27) (v := ?_) (a' := ?_) #[true, false, false, false, false, false, false, false, false, false, false, false, false, false, false, false, false, false, false] rfl rfl (any_of HT_.out (by kernel_rfl)) (fun _ _ _ h => h) (Or.inl ⟨by rfl, ?_⟩) ?_ ?_
                              rotate_left
                              · intro w'
                                go_simp
                                with_reducible rfl
                              rotate_left
                              · simp only [Act.put, List.setIfInBounds_toArray, List.set_cons_zero, List.set_cons_succ, i64_w, i32_w]
                                rfl
                              refine pure_ (i := 1) (N := some 28) (v := ?_) (a' := ?_) #[true, true, false, false, false, false, false, false, false, false, false, false, false, false, false, false, false, false, false] rfl rfl (any_of HT_.out (by kernel_rfl)) (fun _ _ _ h => h) (Or.inl ⟨by rfl, ?_⟩) ?_ ?_
                              rotate_left
                              · intro w'
                                go_simp
                                with_reducible rfl
                              rotate_left
                              · simp only [Act.put, List.setIfInBounds_toArray, List.set_cons_zero, List.set_cons_succ, i64_w, i32_w]
                                rfl
                              refine pure_ (i := 2) (N := some 29) (v := ?_) (a' := ?_) #[true, true, true, false, false, false, false, false, false, false, false, false, false, false, false, false, false, false, false] rfl rfl (any_of HT_.out (by kernel_rfl)) (fun _ _ _ h => h) (Or.inl ⟨by rfl, ?_⟩) ?_ ?_
                              rotate_left
                              · intro w'
                                go_simp
                                with_reducible rfl
                              rotate_left
                              · simp only [Act.put, List.setIfInBounds_toArray, List.set_cons_zero, List.set_cons_succ, i64_w, i32_w]
                                rfl
                              refine pure_ (i := 3) (N := some 30) (v := ?_) (a' := ?_) #[true, true, true, true, false, false, false, false, false, false, false, false, false, false, false, false, false, false, false] rfl rfl (any_of HT_.out (by kernel_rfl)) (fun _ _ _ h => h) (Or.inl ⟨by rfl, ?_⟩) ?_ ?_
                              rotate_left
                              · intro w'
                                go_simp
                                with_reducible rfl
                              rotate_left
                              · simp only [Act.put, List.setIfInBounds_toArray, List.set_cons_zero, List.set_cons_succ, i64_w, i32_w]
                                rfl
                              refine pure_ (i := 4) (N := some 31) (v := ?_) (a' := ?_) #[true, true, true, true, true, false, false, false, false, false, false, false, false, false, false, false, false, false, false] rfl rfl (any_of HT_.out (by kernel_rfl)) (fun _ _ _ h => h) (Or.inl ⟨by rfl, ?_⟩) ?_ ?_
                              rotate_left
                              · intro w'
                                go_simp
                                with_reducible rfl
                              rotate_left
                              · simp only [Act.put, List.setIfInBounds_toArray, List.set_cons_zero, List.set_cons_succ, i64_w, i32_w]
                                rfl
                              refine pure_ (i := 5) (N := some 32) (v := ?_) (a' := ?_) #[true, true, true, true, true, true, false, false, false, false, false, false, false, false, false, false, false, false, false] rfl rfl (any_of HT_.out (by kernel_rfl)) (fun _ _ _ h => h) (Or.inl ⟨by rfl, ?_⟩) ?_ ?_
                              rotate_left
                              · intro w'
                                go_simp
                                with_reducible rfl
                              rotate_left
                              · simp only [Act.put, List.setIfInBounds_toArray, List.set_cons_zero, List.set_cons_succ, i64_w, i32_w]
                                rfl
                              refine pure_ (i := 6) (N := some 33) (v := ?_) (a' := ?_) #[true, true, true, true, true, true, true, false, false, false, false, false, false, false, false, false, false, false, false] rfl rfl (any_of HT_.out (by kernel_rfl)) (fun _ _ _ h => h) (Or.inl ⟨by rfl, ?_⟩) ?_ ?_
                              rotate_left
                              · intro w'
                                go_simp
                                with_reducible rfl
                              rotate_left
                              · simp only [Act.put, List.setIfInBounds_toArray, List.set_cons_zero, List.set_cons_succ, i64_w, i32_w]
                                rfl
                              refine pure_ (i := 7) (N := some 34) (v := ?_) (a' := ?_) #[true, true, true, true, true, true, true, true, false, false, false, false, false, false, false, false, false, false, false] rfl rfl (any_of HT_.out (by kernel_rfl)) (fun _ _ _ h => h) (Or.inl ⟨by rfl, ?_⟩) ?_ ?_
                              rotate_left
                              · intro w'
                                go_simp
                                with_reducible rfl
                              rotate_left
                              · simp only [Act.put, List.setIfInBounds_toArray, List.set_cons_zero, List.set_cons_succ, i64_w, i32_w]
                                rfl
                              refine pure_ (i := 8) (N := some 35) (v := ?_) (a' := ?_) #[true, true, true, true, true, true, true, true, true, false, false, false, false, false, false, false, false, false, false] rfl rfl (any_of HT_.out (by kernel_rfl)) (fun _ _ _ h => h) (Or.inl ⟨by rfl, ?_⟩) ?_ ?_
                              rotate_left
                              · intro w'
                                go_simp
                                with_reducible rfl
                              rotate_left
                              · simp only [Act.put, List.setIfInBounds_toArray, List.set_cons_zero, List.set_cons_succ, i64_w, i32_w]
                                rfl
                              refine pure_ (i := 9) (N := some 36) (v := ?_) (a' := ?_) #[true, true, true, true, true, true, true, true, true, true, false, false, false, false, false, false, false, false, false] rfl rfl (any_of HT_.out (by kernel_rfl)) (fun _ _ _ h => h) (Or.inl ⟨by rfl, ?_⟩) ?_ ?_
                              rotate_left
                              · intro w'
                                go_simp
                                with_reducible rfl
                              rotate_left
                              · simp only [Act.put, List.setIfInBounds_toArray, List.set_cons_zero, List.set_cons_succ, i64_w, i32_w]
                                rfl
                              refine pure_ (i := 10) (N := some 37) (v := ?_) (a' := ?_) #[true, true, true, true, true, true, true, true, true, true, true, false, false, false, false, false, false, false, false] rfl rfl (any_of HT_.out (by kernel_rfl)) (fun _ _ _ h => h) (Or.inl ⟨by rfl, ?_⟩) ?_ ?_
                              rotate_left
                              · intro w'
                                go_simp
                                with_reducible rfl
                              rotate_left
                              · simp only [Act.put, List.setIfInBounds_toArray, List.set_cons_zero, List.set_cons_succ, i64_w, i32_w]
                                rfl
                              refine pure_ (i := 11) (N := some 38) (v := ?_) (a' := ?_) #[true, true, true, true, true, true, true, true, true, true, true, true, false, false, false, false, false, false, false] rfl rfl (any_of HT_.out (by kernel_rfl)) (fun _ _ _ h => h) (Or.inl ⟨by rfl, ?_⟩) ?_ ?_
                              rotate_left
                              · intro w'
                                go_simp
                                with_reducible rfl
                              rotate_left
                              · simp only [Act.put, List.setIfInBounds_toArray, List.set_cons_zero, List.set_cons_succ, i64_w, i32_w]
                                rfl
                              refine pure_ (i := 12) (N := some 39) (v := ?_) (a' := ?_) #[true, true, true, true, true, true, true, true, true, true, true, true, true, false, false, false, false, false, false] rfl rfl (any_of HT_.out (by kernel_rfl)) (fun _ _ _ h => h) (Or.inl ⟨by rfl, ?_⟩) ?_ ?_
                              rotate_left
                              · intro w'
                                go_simp
                                with_reducible rfl
                              rotate_left
                              · simp only [Act.put, List.setIfInBounds_toArray, List.set_cons_zero, List.set_cons_succ, i64_w, i32_w]
                                rfl
                              refine pure_ (i := 13) (N := some 40) (v := ?_) (a' := ?_) #[true, true, true, true, true, true, true, true, true, true, true, true, true, true, false, false, false, false, false] rfl rfl (any_of HT_.out (by kernel_rfl)) (fun _ _ _ h => h) (Or.inl ⟨by rfl, ?_⟩) ?_ ?_
                              rotate_left
                              · intro w'
                                go_simp
                                with_reducible rfl
                              rotate_left
                              · simp only [Act.put, List.setIfInBounds_toArray, List.set_cons_zero, List.set_cons_succ, i64_w, i32_w]
                                rfl
                              refine pure_ (i := 14) (N := some 41) (v := ?_) (a' := ?_) #[true, true, true, true, true, true, true, true, true, true, true, true, true, true, true, false, false, false, false] rfl rfl (any_of HT_.out (by kernel_rfl)) (fun _ _ _ h => h) (Or.inl ⟨by rfl, ?_⟩) ?_ ?_
                              rotate_left
                              · intro w'
                                go_simp
                                with_reducible rfl
                              rotate_left
                              · simp only [Act.put, List.setIfInBounds_toArray, List.set_cons_zero, List.set_cons_succ, i64_w, i32_w]
                                rfl
                              refine pure_ (i := 15) (N := some 42) (v := ?_) (a' := ?_) #[true, true, true, true, true, true, true, true, true, true, true, true, true, true, true, true, false, false, false] rfl rfl (any_of HT_.out (by kernel_rfl)) (fun _ _ _ h => h) (Or.inl ⟨by rfl, ?_⟩) ?_ ?_
                              rotate_left
                              · intro w'
                                go_simp
                                with_reducible rfl
                              rotate_left
                              · simp only [Act.put, List.setIfInBounds_toArray, List.set_cons_zero, List.set_cons_succ, i64_w, i32_w]
                                rfl
                              refine pure_ (i := 16) (N := some 43) (v := ?_) (a' := ?_) #[true, true, true, true, true, true, true, true, true, true, true, true, true, true, true, true, true, false, false] rfl rfl (any_of HT_.out (by kernel_rfl)) (fun _ _ _ h => h) (Or.inl ⟨by rfl, ?_⟩) ?_ ?_
                              rotate_left
                              · intro w'
                                go_simp
                                with_reducible rfl
                              rotate_left
                              · simp only [Act.put, List.setIfInBounds_toArray, List.set_cons_zero, List.set_cons_succ, i64_w, i32_w]
                                rfl
                              refine one_ (i := 17) (N := some 44) #[true, true, true, true, true, true, true, true, true, true, true, true, true, true, true, true, true, true, false] rfl rfl (one_of HT_.out (by kernel_rfl)) (by decide) (fun K hK => ?_)
                              refine goes_ Try.func9 (by kernel_rfl) rfl #[.string ((((⟨#[32, 9, 10, 13]⟩ : ByteArray).extract ((ji15) : Int).toNat ((IntKind.u64.wrap ((ji15) + 1)) : Int).toNat) ++ a0) ++ ((⟨#[32, 9, 10, 13]⟩ : ByteArray).extract ((ji20) : Int).toNat ((IntKind.u64.wrap ((ji20) + 1)) : Int).toNat))] (by rfl) rfl rfl (by (try simp only [List.map_toArray, List.map_cons, List.map_nil]); first | done | (simp only [hji15, hji20]; rfl) | rfl | (simp only [List.length_drop, List.length_take]; rfl)) ?_
                              with_reducible refine (impl_GjValid.calls kj6 ((((⟨#[32, 9, 10, 13]⟩ : ByteArray).extract ((ji15) : Int).toNat ((IntKind.u64.wrap ((ji15) + 1)) : Int).toNat) ++ a0) ++ ((⟨#[32, 9, 10, 13]⟩ : ByteArray).extract ((ji20) : Int).toNat ((IntKind.u64.wrap ((ji20) + 1)) : Int).toNat)) true _ A25.out).mono ?_
                              rintro e w29 ⟨rfl, hb⟩
                              refine ⟨_, rfl, ?_⟩
                              have n0_ := Aside0.mk (Kd.R_below (by (with_reducible repeat (first | apply Kd.R_alloc | apply Kd.R_drewN | apply Kd.R_drew)); exact HO_320003.out) hb)
                              have n1_ := Aside0.mk (Kd.R_below (by (with_reducible repeat (first | apply Kd.R_alloc | apply Kd.R_drewN | apply Kd.R_drew)); exact HO_320004.out) hb)
                              have n2_ := Aside0.mk (blk_below (g := gb319) (o := .cells #[.int .i64 t309, .int .i64 t310, .int .i64 t311, .slice Ao11 t312.length co11, .slice Ao12 t315.length co12] 25 (0, 0)) (by (with_reducible repeat (first | refine blk_drewN ?_ _ | refine blk_drew ?_ | refine blk_alloc ?_ _)); exact BK319.out) hb)
                              have n3_ := Aside0.mk (below_step (by repeat (first | (with_reducible first | exact HB.out | apply below_alloc | apply pw_below_drewN | apply below_drew1 | refine below_set ?_ GE319.out) | exact HB.out)) hb)
                              clear HO_320003
                              clear HO_320004
                              clear BK319
                              clear HB
                              have HO_320003 := n0_
                              have HO_320004 := n1_
                              have BK319 := n2_
                              have HB := n3_
                              clear n0_ n1_ n2_ n3_
                              (try clear hb)
                              (try clear hb2)
                              (try clear hk)
                              (try clear hi)
                              refine hK.out _ _ trivial (fun hHeld => ?_)
                              clear hK K
                              refine norm_ (a' := ?_) ?_ ?_
                              rotate_left
                              · show Act.put _ (some 44) _ = _
                                simp only [Act.put, List.setIfInBounds_toArray, List.set_cons_zero, List.set_cons_succ, i64_w, i32_w]
                                rfl
                              refine pure_ (i := 18) (N := some 45) (v := ?_) (a' := ?_) #[true, true, true, true, true, true, true, true, true, true, true, true, true, true, true, true, true, true, true] rfl rfl (any_of HT_.out (by kernel_rfl)) (fun _ _ _ h => h) (Or.inl ⟨by rfl, ?_⟩) ?_ ?_
                              rotate_left
                              · intro w'
                                go_simp
                                with_reducible rfl
                              rotate_left
                              · simp only [Act.put, List.setIfInBounds_toArray, List.set_cons_zero, List.set_cons_succ, i64_w, i32_w]
                                rfl
                              refine done_ (done_of HT_.out (by kernel_rfl)) ?_
                              have hcz30_0 : w29.cell? ⟨gb319, 0, none⟩ = some (.int .i64 t309) := (blk_cell BK319.out 0).trans rfl
                              have hcz30_1 : w29.cell? ⟨gb319, 1, none⟩ = some (.int .i64 t310) := (blk_cell BK319.out 1).trans rfl
                              have hcz30_2 : w29.cell? ⟨gb319, 2, none⟩ = some (.int .i64 t311) := (blk_cell BK319.out 2).trans rfl
                              have hcz30_3 : w29.cell? ⟨gb319, 3, none⟩ = some (.slice Ao11 t312.length co11) := (blk_cell BK319.out 3).trans rfl
                              have hcz30_4 : w29.cell? ⟨gb319, 4, none⟩ = some (.slice Ao12 t315.length co12) := (blk_cell BK319.out 4).trans rfl
                              have hfz30_0 := blk_frozen BK319.out 0
                              have hfz30_1 := blk_frozen BK319.out 1
                              have hfz30_2 := blk_frozen BK319.out 2
                              have hfz30_3 := blk_frozen BK319.out 3
                              have hfz30_4 := blk_frozen BK319.out 4
                              try go_wp2
                              go_ret
                              exact ⟨by first | rfl | (simp [errW_none, errW_some] <;> rfl) | (simp only [← hji15, ← hji20]; first | rfl | (simp [errW_none, errW_some] <;> rfl)) | (simp [*, errW_none, errW_some] <;> rfl), by repeat (first | (with_reducible first | exact HB.out | apply below_alloc | apply pw_below_drewN | apply below_drew1 | refine below_set ?_ GE319.out) | exact HB.out)⟩
                            · rw [if_neg c27] at H
                              have c27b0 : decide (t309 < 4) = false := decide_eq_false c27
                              clear c27
                              by_cases c31 : a1 < 0
                              · rw [if_pos c31] at H
                                have c31b0 : decide (a1 < 0) = true := decide_eq_true c31
                                clear c31
                                obtain rfl := Option.some.inj H
                                try go_wp2
                                have n0_ := Aside0.mk (Kd.R_drew HO_320003.out)
                                have n1_ := Aside0.mk (Kd.R_drew HO_320004.out)
                                have n2_ := Aside0.mk (blk_drew BK319.out)
                                have n3_ := Aside0.mk (below_drew1 HB.out)
                                clear HO_320003
                                clear HO_320004
                                clear BK319
                                clear HB
                                have HO_320003 := n0_
                                have HO_320004 := n1_
                                have BK319 := n2_
                                have HB := n3_
                                clear n0_ n1_ n2_ n3_
                                refine start_ (n := 19) (S := fun w' => True) (ds := []) #[false, false, false, false, false, false, false, false, false, false, false, false, false, false, false, false, false, false, false] (by kernel_rfl) rfl rfl trivial (fun hHeld => ?_); refine with_tabW laws_FnGjValidCut.tab7 laws_FnGjValidCut.bits7 (fun HT_ HW_ => ?_)
                                generalize wc.drew = w32 at HO_320003 HO_320004 BK319 HB hHeld ⊢
                                refine pure_ (i := 0) (N := some 27) (v := ?_) (a' := ?_) #[true, false, false, false, false, false, false, false, false, false, false, false, false, false, false, false, false, false, false] rfl rfl (any_of HT_.out (by kernel_rfl)) (fun _ _ _ h => h) (Or.inl ⟨by rfl, ?_⟩) ?_ ?_
                                rotate_left
                                · intro w'
                                  go_simp
                                  with_reducible rfl
                                rotate_left
                                · simp only [Act.put, List.setIfInBounds_toArray, List.set_cons_zero, List.set_cons_succ, i64_w, i32_w]
                                  rfl
                                refine pure_ (i := 1) (N := some 28) (v := ?_) (a' := ?_) #[true, true, false, false, false, false, false, false, false, false, false, false, false, false, false, false, false, false, false] rfl rfl (any_of HT_.out (by kernel_rfl)) (fun _ _ _ h => h) (Or.inl ⟨by rfl, ?_⟩) ?_ ?_
                                rotate_left
                                · intro w'
                                  go_simp
                                  with_reducible rfl
                                rotate_left
                                · simp only [Act.put, List.setIfInBounds_toArray, List.set_cons_zero, List.set_cons_succ, i64_w, i32_w]
                                  rfl
                                refine pure_ (i := 2) (N := some 29) (v := ?_) (a' := ?_) #[true, true, true, false, false, false, false, false, false, false, false, false, false, false, false, false, false, false, false] rfl rfl (any_of HT_.out (by kernel_rfl)) (fun _ _ _ h => h) (Or.inl ⟨by rfl, ?_⟩) ?_ ?_
                                rotate_left
                                · intro w'
                                  go_simp
                                  with_reducible rfl
                                rotate_left
                                · simp only [Act.put, List.setIfInBounds_toArray, List.set_cons_zero, List.set_cons_succ, i64_w, i32_w]
                                  rfl
                                refine pure_ (i := 3) (N := some 30) (v := ?_) (a' := ?_) #[true, true, true, true, false, false, false, false, false, false, false, false, false, false, false, false, false, false, false] rfl rfl (any_of HT_.out (by kernel_rfl)) (fun _ _ _ h => h) (Or.inl ⟨by rfl, ?_⟩) ?_ ?_
                                rotate_left
                                · intro w'
                                  go_simp
                                  with_reducible rfl
                                rotate_left
                                · simp only [Act.put, List.setIfInBounds_toArray, List.set_cons_zero, List.set_cons_succ, i64_w, i32_w]
                                  rfl
                                refine pure_ (i := 4) (N := some 31) (v := ?_) (a' := ?_) #[true, true, true, true, true, false, false, false, false, false, false, false, false, false, false, false, false, false, false] rfl rfl (any_of HT_.out (by kernel_rfl)) (fun _ _ _ h => h) (Or.inl ⟨by rfl, ?_⟩) ?_ ?_
                                rotate_left
                                · intro w'
                                  go_simp
                                  with_reducible rfl
                                rotate_left
                                · simp only [Act.put, List.setIfInBounds_toArray, List.set_cons_zero, List.set_cons_succ, i64_w, i32_w]
                                  rfl
                                refine pure_ (i := 5) (N := some 32) (v := ?_) (a' := ?_) #[true, true, true, true, true, true, false, false, false, false, false, false, false, false, false, false, false, false, false] rfl rfl (any_of HT_.out (by kernel_rfl)) (fun _ _ _ h => h) (Or.inl ⟨by rfl, ?_⟩) ?_ ?_
                                rotate_left
                                · intro w'
                                  go_simp
                                  with_reducible rfl
                                rotate_left
                                · simp only [Act.put, List.setIfInBounds_toArray, List.set_cons_zero, List.set_cons_succ, i64_w, i32_w]
                                  rfl
                                refine pure_ (i := 6) (N := some 33) (v := ?_) (a' := ?_) #[true, true, true, true, true, true, true, false, false, false, false, false, false, false, false, false, false, false, false] rfl rfl (any_of HT_.out (by kernel_rfl)) (fun _ _ _ h => h) (Or.inl ⟨by rfl, ?_⟩) ?_ ?_
                                rotate_left
                                · intro w'
                                  go_simp
                                  with_reducible rfl
                                rotate_left
                                · simp only [Act.put, List.setIfInBounds_toArray, List.set_cons_zero, List.set_cons_succ, i64_w, i32_w]
                                  rfl
                                refine pure_ (i := 7) (N := some 34) (v := ?_) (a' := ?_) #[true, true, true, true, true, true, true, true, false, false, false, false, false, false, false, false, false, false, false] rfl rfl (any_of HT_.out (by kernel_rfl)) (fun _ _ _ h => h) (Or.inl ⟨by rfl, ?_⟩) ?_ ?_
                                rotate_left
                                · intro w'
                                  go_simp
                                  with_reducible rfl
                                rotate_left
                                · simp only [Act.put, List.setIfInBounds_toArray, List.set_cons_zero, List.set_cons_succ, i64_w, i32_w]
                                  rfl
                                refine pure_ (i := 8) (N := some 35) (v := ?_) (a' := ?_) #[true, true, true, true, true, true, true, true, true, false, false, false, false, false, false, false, false, false, false] rfl rfl (any_of HT_.out (by kernel_rfl)) (fun _ _ _ h => h) (Or.inl ⟨by rfl, ?_⟩) ?_ ?_
                                rotate_left
                                · intro w'
                                  go_simp
                                  with_reducible rfl
                                rotate_left
                                · simp only [Act.put, List.setIfInBounds_toArray, List.set_cons_zero, List.set_cons_succ, i64_w, i32_w]
                                  rfl
                                refine pure_ (i := 9) (N := some 36) (v := ?_) (a' := ?_) #[true, true, true, true, true, true, true, true, true, true, false, false, false, false, false, false, false, false, false] rfl rfl (any_of HT_.out (by kernel_rfl)) (fun _ _ _ h => h) (Or.inl ⟨by rfl, ?_⟩) ?_ ?_
                                rotate_left
                                · intro w'
                                  go_simp
                                  with_reducible rfl
                                rotate_left
                                · simp only [Act.put, List.setIfInBounds_toArray, List.set_cons_zero, List.set_cons_succ, i64_w, i32_w]
                                  rfl
                                refine pure_ (i := 10) (N := some 37) (v := ?_) (a' := ?_) #[true, true, true, true, true, true, true, true, true, true, true, false, false, false, false, false, false, false, false] rfl rfl (any_of HT_.out (by kernel_rfl)) (fun _ _ _ h => h) (Or.inl ⟨by rfl, ?_⟩) ?_ ?_
                                rotate_left
                                · intro w'
                                  go_simp
                                  with_reducible rfl
                                rotate_left
                                · simp only [Act.put, List.setIfInBounds_toArray, List.set_cons_zero, List.set_cons_succ, i64_w, i32_w]
                                  rfl
                                refine pure_ (i := 11) (N := some 38) (v := ?_) (a' := ?_) #[true, true, true, true, true, true, true, true, true, true, true, true, false, false, false, false, false, false, false] rfl rfl (any_of HT_.out (by kernel_rfl)) (fun _ _ _ h => h) (Or.inl ⟨by rfl, ?_⟩) ?_ ?_
                                rotate_left
                                · intro w'
                                  go_simp
                                  with_reducible rfl
                                rotate_left
                                · simp only [Act.put, List.setIfInBounds_toArray, List.set_cons_zero, List.set_cons_succ, i64_w, i32_w]
                                  rfl
                                refine pure_ (i := 12) (N := some 39) (v := ?_) (a' := ?_) #[true, true, true, true, true, true, true, true, true, true, true, true, true, false, false, false, false, false, false] rfl rfl (any_of HT_.out (by kernel_rfl)) (fun _ _ _ h => h) (Or.inl ⟨by rfl, ?_⟩) ?_ ?_
                                rotate_left
                                · intro w'
                                  go_simp
                                  with_reducible rfl
                                rotate_left
                                · simp only [Act.put, List.setIfInBounds_toArray, List.set_cons_zero, List.set_cons_succ, i64_w, i32_w]
                                  rfl
                                refine pure_ (i := 13) (N := some 40) (v := ?_) (a' := ?_) #[true, true, true, true, true, true, true, true, true, true, true, true, true, true, false, false, false, false, false] rfl rfl (any_of HT_.out (by kernel_rfl)) (fun _ _ _ h => h) (Or.inl ⟨by rfl, ?_⟩) ?_ ?_
                                rotate_left
                                · intro w'
                                  go_simp
                                  with_reducible rfl
                                rotate_left
                                · simp only [Act.put, List.setIfInBounds_toArray, List.set_cons_zero, List.set_cons_succ, i64_w, i32_w]
                                  rfl
                                refine pure_ (i := 14) (N := some 41) (v := ?_) (a' := ?_) #[true, true, true, true, true, true, true, true, true, true, true, true, true, true, true, false, false, false, false] rfl rfl (any_of HT_.out (by kernel_rfl)) (fun _ _ _ h => h) (Or.inl ⟨by rfl, ?_⟩) ?_ ?_
                                rotate_left
                                · intro w'
                                  go_simp
                                  with_reducible rfl
                                rotate_left
                                · simp only [Act.put, List.setIfInBounds_toArray, List.set_cons_zero, List.set_cons_succ, i64_w, i32_w]
                                  rfl
                                refine pure_ (i := 15) (N := some 42) (v := ?_) (a' := ?_) #[true, true, true, true, true, true, true, true, true, true, true, true, true, true, true, true, false, false, false] rfl rfl (any_of HT_.out (by kernel_rfl)) (fun _ _ _ h => h) (Or.inl ⟨by rfl, ?_⟩) ?_ ?_
                                rotate_left
                                · intro w'
                                  go_simp
                                  with_reducible rfl
                                rotate_left
                                · simp only [Act.put, List.setIfInBounds_toArray, List.set_cons_zero, List.set_cons_succ, i64_w, i32_w]
                                  rfl
                                refine pure_ (i := 16) (N := some 43) (v := ?_) (a' := ?_) #[true, true, true, true, true, true, true, true, true, true, true, true, true, true, true, true, true, false, false] rfl rfl (any_of HT_.out (by kernel_rfl)) (fun _ _ _ h => h) (Or.inl ⟨by rfl, ?_⟩) ?_ ?_
                                rotate_left
                                · intro w'
                                  go_simp
                                  with_reducible rfl
                                rotate_left
                                · simp only [Act.put, List.setIfInBounds_toArray, List.set_cons_zero, List.set_cons_succ, i64_w, i32_w]
                                  rfl
                                refine one_ (i := 17) (N := some 44) #[true, true, true, true, true, true, true, true, true, true, true, true, true, true, true, true, true, true, false] rfl rfl (one_of HT_.out (by kernel_rfl)) (by decide) (fun K hK => ?_)
                                refine goes_ Try.func9 (by kernel_rfl) rfl #[.string ((((⟨#[32, 9, 10, 13]⟩ : ByteArray).extract ((ji15) : Int).toNat ((IntKind.u64.wrap ((ji15) + 1)) : Int).toNat) ++ a0) ++ ((⟨#[32, 9, 10, 13]⟩ : ByteArray).extract ((ji20) : Int).toNat ((IntKind.u64.wrap ((ji20) + 1)) : Int).toNat))] (by rfl) rfl rfl (by (try simp only [List.map_toArray, List.map_cons, List.map_nil]); first | done | (simp only [hji15, hji20]; rfl) | rfl | (simp only [List.length_drop, List.length_take]; rfl)) ?_
                                with_reducible refine (impl_GjValid.calls kj6 ((((⟨#[32, 9, 10, 13]⟩ : ByteArray).extract ((ji15) : Int).toNat ((IntKind.u64.wrap ((ji15) + 1)) : Int).toNat) ++ a0) ++ ((⟨#[32, 9, 10, 13]⟩ : ByteArray).extract ((ji20) : Int).toNat ((IntKind.u64.wrap ((ji20) + 1)) : Int).toNat)) true _ A25.out).mono ?_
                                rintro e w33 ⟨rfl, hb⟩
                                refine ⟨_, rfl, ?_⟩
                                have n0_ := Aside0.mk (Kd.R_below (by (with_reducible repeat (first | apply Kd.R_alloc | apply Kd.R_drewN | apply Kd.R_drew)); exact HO_320003.out) hb)
                                have n1_ := Aside0.mk (Kd.R_below (by (with_reducible repeat (first | apply Kd.R_alloc | apply Kd.R_drewN | apply Kd.R_drew)); exact HO_320004.out) hb)
                                have n2_ := Aside0.mk (blk_below (g := gb319) (o := .cells #[.int .i64 t309, .int .i64 t310, .int .i64 t311, .slice Ao11 t312.length co11, .slice Ao12 t315.length co12] 25 (0, 0)) (by (with_reducible repeat (first | refine blk_drewN ?_ _ | refine blk_drew ?_ | refine blk_alloc ?_ _)); exact BK319.out) hb)
                                have n3_ := Aside0.mk (below_step (by repeat (first | (with_reducible first | exact HB.out | apply below_alloc | apply pw_below_drewN | apply below_drew1 | refine below_set ?_ GE319.out) | exact HB.out)) hb)
                                clear HO_320003
                                clear HO_320004
                                clear BK319
                                clear HB
                                have HO_320003 := n0_
                                have HO_320004 := n1_
                                have BK319 := n2_
                                have HB := n3_
                                clear n0_ n1_ n2_ n3_
                                (try clear hb)
                                (try clear hb2)
                                (try clear hk)
                                (try clear hi)
                                refine hK.out _ _ trivial (fun hHeld => ?_)
                                clear hK K
                                refine norm_ (a' := ?_) ?_ ?_
                                rotate_left
                                · show Act.put _ (some 44) _ = _
                                  simp only [Act.put, List.setIfInBounds_toArray, List.set_cons_zero, List.set_cons_succ, i64_w, i32_w]
                                  rfl
                                refine pure_ (i := 18) (N := some 45) (v := ?_) (a' := ?_) #[true, true, true, true, true, true, true, true, true, true, true, true, true, true, true, true, true, true, true] rfl rfl (any_of HT_.out (by kernel_rfl)) (fun _ _ _ h => h) (Or.inl ⟨by rfl, ?_⟩) ?_ ?_
                                rotate_left
                                · intro w'
                                  go_simp
                                  with_reducible rfl
                                rotate_left
                                · simp only [Act.put, List.setIfInBounds_toArray, List.set_cons_zero, List.set_cons_succ, i64_w, i32_w]
                                  rfl
                                refine done_ (done_of HT_.out (by kernel_rfl)) ?_
                                have hcz34_0 : w33.cell? ⟨gb319, 0, none⟩ = some (.int .i64 t309) := (blk_cell BK319.out 0).trans rfl
                                have hcz34_1 : w33.cell? ⟨gb319, 1, none⟩ = some (.int .i64 t310) := (blk_cell BK319.out 1).trans rfl
                                have hcz34_2 : w33.cell? ⟨gb319, 2, none⟩ = some (.int .i64 t311) := (blk_cell BK319.out 2).trans rfl
                                have hcz34_3 : w33.cell? ⟨gb319, 3, none⟩ = some (.slice Ao11 t312.length co11) := (blk_cell BK319.out 3).trans rfl
                                have hcz34_4 : w33.cell? ⟨gb319, 4, none⟩ = some (.slice Ao12 t315.length co12) := (blk_cell BK319.out 4).trans rfl
                                have hfz34_0 := blk_frozen BK319.out 0
                                have hfz34_1 := blk_frozen BK319.out 1
                                have hfz34_2 := blk_frozen BK319.out 2
                                have hfz34_3 := blk_frozen BK319.out 3
                                have hfz34_4 := blk_frozen BK319.out 4
                                try go_wp2
                                go_ret
                                exact ⟨by first | rfl | (simp [errW_none, errW_some] <;> rfl) | (simp only [← hji15, ← hji20]; first | rfl | (simp [errW_none, errW_some] <;> rfl)) | (simp [*, errW_none, errW_some] <;> rfl), by repeat (first | (with_reducible first | exact HB.out | apply below_alloc | apply pw_below_drewN | apply below_drew1 | refine below_set ?_ GE319.out) | exact HB.out)⟩
                              · rw [if_neg c31] at H
                                have c31b0 : decide (a1 < 0) = false := decide_eq_false c31
                                clear c31
                                by_cases c35 : a1 ≥ t311
                                · rw [if_pos c35] at H
                                  have c35b0 : decide (t311 ≤ a1) = true := decide_eq_true c35
                                  clear c35
                                  obtain rfl := Option.some.inj H
                                  try go_wp2
                                  have n0_ := Aside0.mk (Kd.R_drew HO_320003.out)
                                  have n1_ := Aside0.mk (Kd.R_drew HO_320004.out)
                                  have n2_ := Aside0.mk (blk_drew BK319.out)
                                  have n3_ := Aside0.mk (below_drew1 HB.out)
                                  clear HO_320003
                                  clear HO_320004
                                  clear BK319
                                  clear HB
                                  have HO_320003 := n0_
                                  have HO_320004 := n1_
                                  have BK319 := n2_
                                  have HB := n3_
                                  clear n0_ n1_ n2_ n3_
                                  refine start_ (n := 19) (S := fun w' => True) (ds := []) #[false, false, false, false, false, false, false, false, false, false, false, false, false, false, false, false, false, false, false] (by kernel_rfl) rfl rfl trivial (fun hHeld => ?_); refine with_tabW laws_FnGjValidCut.tab7 laws_FnGjValidCut.bits7 (fun HT_ HW_ => ?_)
                                  generalize wc.drew = w36 at HO_320003 HO_320004 BK319 HB hHeld ⊢
                                  refine pure_ (i := 0) (N := some 27) (v := ?_) (a' := ?_) #[true, false, false, false, false, false, false, false, false, false, false, false, false, false, false, false, false, false, false] rfl rfl (any_of HT_.out (by kernel_rfl)) (fun _ _ _ h => h) (Or.inl ⟨by rfl, ?_⟩) ?_ ?_
                                  rotate_left
                                  · intro w'
                                    go_simp
                                    with_reducible rfl
                                  rotate_left
                                  · simp only [Act.put, List.setIfInBounds_toArray, List.set_cons_zero, List.set_cons_succ, i64_w, i32_w]
                                    rfl
                                  refine pure_ (i := 1) (N := some 28) (v := ?_) (a' := ?_) #[true, true, false, false, false, false, false, false, false, false, false, false, false, false, false, false, false, false, false] rfl rfl (any_of HT_.out (by kernel_rfl)) (fun _ _ _ h => h) (Or.inl ⟨by rfl, ?_⟩) ?_ ?_
                                  rotate_left
                                  · intro w'
                                    go_simp
                                    with_reducible rfl
                                  rotate_left
                                  · simp only [Act.put, List.setIfInBounds_toArray, List.set_cons_zero, List.set_cons_succ, i64_w, i32_w]
                                    rfl
                                  refine pure_ (i := 2) (N := some 29) (v := ?_) (a' := ?_) #[true, true, true, false, false, false, false, false, false, false, false, false, false, false, false, false, false, false, false] rfl rfl (any_of HT_.out (by kernel_rfl)) (fun _ _ _ h => h) (Or.inl ⟨by rfl, ?_⟩) ?_ ?_
                                  rotate_left
                                  · intro w'
                                    go_simp
                                    with_reducible rfl
                                  rotate_left
                                  · simp only [Act.put, List.setIfInBounds_toArray, List.set_cons_zero, List.set_cons_succ, i64_w, i32_w]
                                    rfl
                                  refine pure_ (i := 3) (N := some 30) (v := ?_) (a' := ?_) #[true, true, true, true, false, false, false, false, false, false, false, false, false, false, false, false, false, false, false] rfl rfl (any_of HT_.out (by kernel_rfl)) (fun _ _ _ h => h) (Or.inl ⟨by rfl, ?_⟩) ?_ ?_
                                  rotate_left
                                  · intro w'
                                    go_simp
                                    with_reducible rfl
                                  rotate_left
                                  · simp only [Act.put, List.setIfInBounds_toArray, List.set_cons_zero, List.set_cons_succ, i64_w, i32_w]
                                    rfl
                                  refine pure_ (i := 4) (N := some 31) (v := ?_) (a' := ?_) #[true, true, true, true, true, false, false, false, false, false, false, false, false, false, false, false, false, false, false] rfl rfl (any_of HT_.out (by kernel_rfl)) (fun _ _ _ h => h) (Or.inl ⟨by rfl, ?_⟩) ?_ ?_
                                  rotate_left
                                  · intro w'
                                    go_simp
                                    with_reducible rfl
                                  rotate_left
                                  · simp only [Act.put, List.setIfInBounds_toArray, List.set_cons_zero, List.set_cons_succ, i64_w, i32_w]
                                    rfl
                                  refine pure_ (i := 5) (N := some 32) (v := ?_) (a' := ?_) #[true, true, true, true, true, true, false, false, false, false, false, false, false, false, false, false, false, false, false] rfl rfl (any_of HT_.out (by kernel_rfl)) (fun _ _ _ h => h) (Or.inl ⟨by rfl, ?_⟩) ?_ ?_
                                  rotate_left
                                  · intro w'
                                    go_simp
                                    with_reducible rfl
                                  rotate_left
                                  · simp only [Act.put, List.setIfInBounds_toArray, List.set_cons_zero, List.set_cons_succ, i64_w, i32_w]
                                    rfl
                                  refine pure_ (i := 6) (N := some 33) (v := ?_) (a' := ?_) #[true, true, true, true, true, true, true, false, false, false, false, false, false, false, false, false, false, false, false] rfl rfl (any_of HT_.out (by kernel_rfl)) (fun _ _ _ h => h) (Or.inl ⟨by rfl, ?_⟩) ?_ ?_
                                  rotate_left
                                  · intro w'
                                    go_simp
                                    with_reducible rfl
                                  rotate_left
                                  · simp only [Act.put, List.setIfInBounds_toArray, List.set_cons_zero, List.set_cons_succ, i64_w, i32_w]
                                    rfl
                                  refine pure_ (i := 7) (N := some 34) (v := ?_) (a' := ?_) #[true, true, true, true, true, true, true, true, false, false, false, false, false, false, false, false, false, false, false] rfl rfl (any_of HT_.out (by kernel_rfl)) (fun _ _ _ h => h) (Or.inl ⟨by rfl, ?_⟩) ?_ ?_
                                  rotate_left
                                  · intro w'
                                    go_simp
                                    with_reducible rfl
                                  rotate_left
                                  · simp only [Act.put, List.setIfInBounds_toArray, List.set_cons_zero, List.set_cons_succ, i64_w, i32_w]
                                    rfl
                                  refine pure_ (i := 8) (N := some 35) (v := ?_) (a' := ?_) #[true, true, true, true, true, true, true, true, true, false, false, false, false, false, false, false, false, false, false] rfl rfl (any_of HT_.out (by kernel_rfl)) (fun _ _ _ h => h) (Or.inl ⟨by rfl, ?_⟩) ?_ ?_
                                  rotate_left
                                  · intro w'
                                    go_simp
                                    with_reducible rfl
                                  rotate_left
                                  · simp only [Act.put, List.setIfInBounds_toArray, List.set_cons_zero, List.set_cons_succ, i64_w, i32_w]
                                    rfl
                                  refine pure_ (i := 9) (N := some 36) (v := ?_) (a' := ?_) #[true, true, true, true, true, true, true, true, true, true, false, false, false, false, false, false, false, false, false] rfl rfl (any_of HT_.out (by kernel_rfl)) (fun _ _ _ h => h) (Or.inl ⟨by rfl, ?_⟩) ?_ ?_
                                  rotate_left
                                  · intro w'
                                    go_simp
                                    with_reducible rfl
                                  rotate_left
                                  · simp only [Act.put, List.setIfInBounds_toArray, List.set_cons_zero, List.set_cons_succ, i64_w, i32_w]
                                    rfl
                                  refine pure_ (i := 10) (N := some 37) (v := ?_) (a' := ?_) #[true, true, true, true, true, true, true, true, true, true, true, false, false, false, false, false, false, false, false] rfl rfl (any_of HT_.out (by kernel_rfl)) (fun _ _ _ h => h) (Or.inl ⟨by rfl, ?_⟩) ?_ ?_
                                  rotate_left
                                  · intro w'
                                    go_simp
                                    with_reducible rfl
                                  rotate_left
                                  · simp only [Act.put, List.setIfInBounds_toArray, List.set_cons_zero, List.set_cons_succ, i64_w, i32_w]
                                    rfl
                                  refine pure_ (i := 11) (N := some 38) (v := ?_) (a' := ?_) #[true, true, true, true, true, true, true, true, true, true, true, true, false, false, false, false, false, false, false] rfl rfl (any_of HT_.out (by kernel_rfl)) (fun _ _ _ h => h) (Or.inl ⟨by rfl, ?_⟩) ?_ ?_
                                  rotate_left
                                  · intro w'
                                    go_simp
                                    with_reducible rfl
                                  rotate_left
                                  · simp only [Act.put, List.setIfInBounds_toArray, List.set_cons_zero, List.set_cons_succ, i64_w, i32_w]
                                    rfl
                                  refine pure_ (i := 12) (N := some 39) (v := ?_) (a' := ?_) #[true, true, true, true, true, true, true, true, true, true, true, true, true, false, false, false, false, false, false] rfl rfl (any_of HT_.out (by kernel_rfl)) (fun _ _ _ h => h) (Or.inl ⟨by rfl, ?_⟩) ?_ ?_
                                  rotate_left
                                  · intro w'
                                    go_simp
                                    with_reducible rfl
                                  rotate_left
                                  · simp only [Act.put, List.setIfInBounds_toArray, List.set_cons_zero, List.set_cons_succ, i64_w, i32_w]
                                    rfl
                                  refine pure_ (i := 13) (N := some 40) (v := ?_) (a' := ?_) #[true, true, true, true, true, true, true, true, true, true, true, true, true, true, false, false, false, false, false] rfl rfl (any_of HT_.out (by kernel_rfl)) (fun _ _ _ h => h) (Or.inl ⟨by rfl, ?_⟩) ?_ ?_
                                  rotate_left
                                  · intro w'
                                    go_simp
                                    with_reducible rfl
                                  rotate_left
                                  · simp only [Act.put, List.setIfInBounds_toArray, List.set_cons_zero, List.set_cons_succ, i64_w, i32_w]
                                    rfl
                                  refine pure_ (i := 14) (N := some 41) (v := ?_) (a' := ?_) #[true, true, true, true, true, true, true, true, true, true, true, true, true, true, true, false, false, false, false] rfl rfl (any_of HT_.out (by kernel_rfl)) (fun _ _ _ h => h) (Or.inl ⟨by rfl, ?_⟩) ?_ ?_
                                  rotate_left
                                  · intro w'
                                    go_simp
                                    with_reducible rfl
                                  rotate_left
                                  · simp only [Act.put, List.setIfInBounds_toArray, List.set_cons_zero, List.set_cons_succ, i64_w, i32_w]
                                    rfl
                                  refine pure_ (i := 15) (N := some 42) (v := ?_) (a' := ?_) #[true, true, true, true, true, true, true, true, true, true, true, true, true, true, true, true, false, false, false] rfl rfl (any_of HT_.out (by kernel_rfl)) (fun _ _ _ h => h) (Or.inl ⟨by rfl, ?_⟩) ?_ ?_
                                  rotate_left
                                  · intro w'
                                    go_simp
                                    with_reducible rfl
                                  rotate_left
                                  · simp only [Act.put, List.setIfInBounds_toArray, List.set_cons_zero, List.set_cons_succ, i64_w, i32_w]
                                    rfl
                                  refine pure_ (i := 16) (N := some 43) (v := ?_) (a' := ?_) #[true, true, true, true, true, true, true, true, true, true, true, true, true, true, true, true, true, false, false] rfl rfl (any_of HT_.out (by kernel_rfl)) (fun _ _ _ h => h) (Or.inl ⟨by rfl, ?_⟩) ?_ ?_
                                  rotate_left
                                  · intro w'
                                    go_simp
                                    with_reducible rfl
                                  rotate_left
                                  · simp only [Act.put, List.setIfInBounds_toArray, List.set_cons_zero, List.set_cons_succ, i64_w, i32_w]
                                    rfl
                                  refine one_ (i := 17) (N := some 44) #[true, true, true, true, true, true, true, true, true, true, true, true, true, true, true, true, true, true, false] rfl rfl (one_of HT_.out (by kernel_rfl)) (by decide) (fun K hK => ?_)
                                  refine goes_ Try.func9 (by kernel_rfl) rfl #[.string ((((⟨#[32, 9, 10, 13]⟩ : ByteArray).extract ((ji15) : Int).toNat ((IntKind.u64.wrap ((ji15) + 1)) : Int).toNat) ++ a0) ++ ((⟨#[32, 9, 10, 13]⟩ : ByteArray).extract ((ji20) : Int).toNat ((IntKind.u64.wrap ((ji20) + 1)) : Int).toNat))] (by rfl) rfl rfl (by (try simp only [List.map_toArray, List.map_cons, List.map_nil]); first | done | (simp only [hji15, hji20]; rfl) | rfl | (simp only [List.length_drop, List.length_take]; rfl)) ?_
                                  with_reducible refine (impl_GjValid.calls kj6 ((((⟨#[32, 9, 10, 13]⟩ : ByteArray).extract ((ji15) : Int).toNat ((IntKind.u64.wrap ((ji15) + 1)) : Int).toNat) ++ a0) ++ ((⟨#[32, 9, 10, 13]⟩ : ByteArray).extract ((ji20) : Int).toNat ((IntKind.u64.wrap ((ji20) + 1)) : Int).toNat)) true _ A25.out).mono ?_
                                  rintro e w37 ⟨rfl, hb⟩
                                  refine ⟨_, rfl, ?_⟩
                                  have n0_ := Aside0.mk (Kd.R_below (by (with_reducible repeat (first | apply Kd.R_alloc | apply Kd.R_drewN | apply Kd.R_drew)); exact HO_320003.out) hb)
                                  have n1_ := Aside0.mk (Kd.R_below (by (with_reducible repeat (first | apply Kd.R_alloc | apply Kd.R_drewN | apply Kd.R_drew)); exact HO_320004.out) hb)
                                  have n2_ := Aside0.mk (blk_below (g := gb319) (o := .cells #[.int .i64 t309, .int .i64 t310, .int .i64 t311, .slice Ao11 t312.length co11, .slice Ao12 t315.length co12] 25 (0, 0)) (by (with_reducible repeat (first | refine blk_drewN ?_ _ | refine blk_drew ?_ | refine blk_alloc ?_ _)); exact BK319.out) hb)
                                  have n3_ := Aside0.mk (below_step (by repeat (first | (with_reducible first | exact HB.out | apply below_alloc | apply pw_below_drewN | apply below_drew1 | refine below_set ?_ GE319.out) | exact HB.out)) hb)
                                  clear HO_320003
                                  clear HO_320004
                                  clear BK319
                                  clear HB
                                  have HO_320003 := n0_
                                  have HO_320004 := n1_
                                  have BK319 := n2_
                                  have HB := n3_
                                  clear n0_ n1_ n2_ n3_
                                  (try clear hb)
                                  (try clear hb2)
                                  (try clear hk)
                                  (try clear hi)
                                  refine hK.out _ _ trivial (fun hHeld => ?_)
                                  clear hK K
                                  refine norm_ (a' := ?_) ?_ ?_
                                  rotate_left
                                  · show Act.put _ (some 44) _ = _
                                    simp only [Act.put, List.setIfInBounds_toArray, List.set_cons_zero, List.set_cons_succ, i64_w, i32_w]
                                    rfl
                                  refine pure_ (i := 18) (N := some 45) (v := ?_) (a' := ?_) #[true, true, true, true, true, true, true, true, true, true, true, true, true, true, true, true, true, true, true] rfl rfl (any_of HT_.out (by kernel_rfl)) (fun _ _ _ h => h) (Or.inl ⟨by rfl, ?_⟩) ?_ ?_
                                  rotate_left
                                  · intro w'
                                    go_simp
                                    with_reducible rfl
                                  rotate_left
                                  · simp only [Act.put, List.setIfInBounds_toArray, List.set_cons_zero, List.set_cons_succ, i64_w, i32_w]
                                    rfl
                                  refine done_ (done_of HT_.out (by kernel_rfl)) ?_
                                  have hcz38_0 : w37.cell? ⟨gb319, 0, none⟩ = some (.int .i64 t309) := (blk_cell BK319.out 0).trans rfl
                                  have hcz38_1 : w37.cell? ⟨gb319, 1, none⟩ = some (.int .i64 t310) := (blk_cell BK319.out 1).trans rfl
                                  have hcz38_2 : w37.cell? ⟨gb319, 2, none⟩ = some (.int .i64 t311) := (blk_cell BK319.out 2).trans rfl
                                  have hcz38_3 : w37.cell? ⟨gb319, 3, none⟩ = some (.slice Ao11 t312.length co11) := (blk_cell BK319.out 3).trans rfl
                                  have hcz38_4 : w37.cell? ⟨gb319, 4, none⟩ = some (.slice Ao12 t315.length co12) := (blk_cell BK319.out 4).trans rfl
                                  have hfz38_0 := blk_frozen BK319.out 0
                                  have hfz38_1 := blk_frozen BK319.out 1
                                  have hfz38_2 := blk_frozen BK319.out 2
                                  have hfz38_3 := blk_frozen BK319.out 3
                                  have hfz38_4 := blk_frozen BK319.out 4
                                  try go_wp2
                                  go_ret
                                  exact ⟨by first | rfl | (simp [errW_none, errW_some] <;> rfl) | (simp only [← hji15, ← hji20]; first | rfl | (simp [errW_none, errW_some] <;> rfl)) | (simp [*, errW_none, errW_some] <;> rfl), by repeat (first | (with_reducible first | exact HB.out | apply below_alloc | apply pw_below_drewN | apply below_drew1 | refine below_set ?_ GE319.out) | exact HB.out)⟩
                                · rw [if_neg c35] at H
                                  have c35b0 : decide (t311 ≤ a1) = false := decide_eq_false c35
                                  clear c35
                                  by_cases c39 : 0 ≤ a1
                                  · rw [if_pos c39] at H
                                    have c39b0 := eq_true c39
                                    have c39b1 : decide (0 ≤ a1) = true := decide_eq_true c39
                                    clear c39
                                    by_cases c40 : a1 ≤ (a0.size : Int)
                                    · rw [if_pos c40] at H
                                      have c40b0 := eq_true c40
                                      have c40b1 : decide (a1 ≤ (a0.size : Int)) = true := decide_eq_true c40
                                      clear c40
                                      replace H := Option.bind_eq_some_iff.mp H
                                      obtain ⟨t321, A410, H⟩ := H
                                      replace H : (some (!t321)) = some r := H
                                      have A41 := Aside0.mk A410
                                      clear A410
                                      obtain rfl := Option.some.inj H
                                      try go_wp2
                                      have n0_ := Aside0.mk (Kd.R_drew HO_320003.out)
                                      have n1_ := Aside0.mk (Kd.R_drew HO_320004.out)
                                      have n2_ := Aside0.mk (blk_drew BK319.out)
                                      have n3_ := Aside0.mk (below_drew1 HB.out)
                                      clear HO_320003
                                      clear HO_320004
                                      clear BK319
                                      clear HB
                                      have HO_320003 := n0_
                                      have HO_320004 := n1_
                                      have BK319 := n2_
                                      have HB := n3_
                                      clear n0_ n1_ n2_ n3_
                                      refine start_ (n := 19) (S := fun w' => True) (ds := []) #[false, false, false, false, false, false, false, false, false, false, false, false, false, false, false, false, false, false, false] (by kernel_rfl) rfl rfl trivial (fun hHeld => ?_); refine with_tabW laws_FnGjValidCut.tab7 laws_FnGjValidCut.bits7 (fun HT_ HW_ => ?_)
                                      generalize wc.drew = w42 at HO_320003 HO_320004 BK319 HB hHeld ⊢
                                      refine pure_ (i := 0) (N := some 27) (v := ?_) (a' := ?_) #[true, false, false, false, false, false, false, false, false, false, false, false, false, false, false, false, false, false, false] rfl rfl (any_of HT_.out (by kernel_rfl)) (fun _ _ _ h => h) (Or.inl ⟨by rfl, ?_⟩) ?_ ?_
                                      rotate_left
                                      · intro w'
                                        go_simp
                                        with_reducible rfl
                                      rotate_left
                                      · simp only [Act.put, List.setIfInBounds_toArray, List.set_cons_zero, List.set_cons_succ, i64_w, i32_w]
                                        rfl
                                      refine pure_ (i := 1) (N := some 28) (v := ?_) (a' := ?_) #[true, true, false, false, false, false, false, false, false, false, false, false, false, false, false, false, false, false, false] rfl rfl (any_of HT_.out (by kernel_rfl)) (fun _ _ _ h => h) (Or.inl ⟨by rfl, ?_⟩) ?_ ?_
                                      rotate_left
                                      · intro w'
                                        go_simp
                                        with_reducible rfl
                                      rotate_left
                                      · simp only [Act.put, List.setIfInBounds_toArray, List.set_cons_zero, List.set_cons_succ, i64_w, i32_w]
                                        rfl
                                      refine pure_ (i := 2) (N := some 29) (v := ?_) (a' := ?_) #[true, true, true, false, false, false, false, false, false, false, false, false, false, false, false, false, false, false, false] rfl rfl (any_of HT_.out (by kernel_rfl)) (fun _ _ _ h => h) (Or.inl ⟨by rfl, ?_⟩) ?_ ?_
                                      rotate_left
                                      · intro w'
                                        go_simp
                                        with_reducible rfl
                                      rotate_left
                                      · simp only [Act.put, List.setIfInBounds_toArray, List.set_cons_zero, List.set_cons_succ, i64_w, i32_w]
                                        rfl
                                      refine pure_ (i := 3) (N := some 30) (v := ?_) (a' := ?_) #[true, true, true, true, false, false, false, false, false, false, false, false, false, false, false, false, false, false, false] rfl rfl (any_of HT_.out (by kernel_rfl)) (fun _ _ _ h => h) (Or.inl ⟨by rfl, ?_⟩) ?_ ?_
                                      rotate_left
                                      · intro w'
                                        go_simp
                                        with_reducible rfl
                                      rotate_left
                                      · simp only [Act.put, List.setIfInBounds_toArray, List.set_cons_zero, List.set_cons_succ, i64_w, i32_w]
                                        rfl
                                      refine pure_ (i := 4) (N := some 31) (v := ?_) (a' := ?_) #[true, true, true, true, true, false, false, false, false, false, false, false, false, false, false, false, false, false, false] rfl rfl (any_of HT_.out (by kernel_rfl)) (fun _ _ _ h => h) (Or.inl ⟨by rfl, ?_⟩) ?_ ?_
                                      rotate_left
                                      · intro w'
                                        go_simp
                                        with_reducible rfl
                                      rotate_left
                                      · simp only [Act.put, List.setIfInBounds_toArray, List.set_cons_zero, List.set_cons_succ, i64_w, i32_w]
                                        rfl
                                      refine pure_ (i := 5) (N := some 32) (v := ?_) (a' := ?_) #[true, true, true, true, true, true, false, false, false, false, false, false, false, false, false, false, false, false, false] rfl rfl (any_of HT_.out (by kernel_rfl)) (fun _ _ _ h => h) (Or.inl ⟨by rfl, ?_⟩) ?_ ?_
                                      rotate_left
                                      · intro w'
                                        go_simp
                                        with_reducible rfl
                                      rotate_left
                                      · simp only [Act.put, List.setIfInBounds_toArray, List.set_cons_zero, List.set_cons_succ, i64_w, i32_w]
                                        rfl
                                      refine pure_ (i := 6) (N := some 33) (v := ?_) (a' := ?_) #[true, true, true, true, true, true, true, false, false, false, false, false, false, false, false, false, false, false, false] rfl rfl (any_of HT_.out (by kernel_rfl)) (fun _ _ _ h => h) (Or.inl ⟨by rfl, ?_⟩) ?_ ?_
                                      rotate_left
                                      · intro w'
                                        go_simp
                                        with_reducible rfl
                                      rotate_left
                                      · simp only [Act.put, List.setIfInBounds_toArray, List.set_cons_zero, List.set_cons_succ, i64_w, i32_w]
                                        rfl
                                      refine pure_ (i := 7) (N := some 34) (v := ?_) (a' := ?_) #[true, true, true, true, true, true, true, true, false, false, false, false, false, false, false, false, false, false, false] rfl rfl (any_of HT_.out (by kernel_rfl)) (fun _ _ _ h => h) (Or.inl ⟨by rfl, ?_⟩) ?_ ?_
                                      rotate_left
                                      · intro w'
                                        go_simp
                                        with_reducible rfl
                                      rotate_left
                                      · simp only [Act.put, List.setIfInBounds_toArray, List.set_cons_zero, List.set_cons_succ, i64_w, i32_w]
                                        rfl
                                      refine pure_ (i := 8) (N := some 35) (v := ?_) (a' := ?_) #[true, true, true, true, true, true, true, true, true, false, false, false, false, false, false, false, false, false, false] rfl rfl (any_of HT_.out (by kernel_rfl)) (fun _ _ _ h => h) (Or.inl ⟨by rfl, ?_⟩) ?_ ?_
                                      rotate_left
                                      · intro w'
                                        go_simp
                                        with_reducible rfl
                                      rotate_left
                                      · simp only [Act.put, List.setIfInBounds_toArray, List.set_cons_zero, List.set_cons_succ, i64_w, i32_w]
                                        rfl
                                      refine pure_ (i := 9) (N := some 36) (v := ?_) (a' := ?_) #[true, true, true, true, true, true, true, true, true, true, false, false, false, false, false, false, false, false, false] rfl rfl (any_of HT_.out (by kernel_rfl)) (fun _ _ _ h => h) (Or.inl ⟨by rfl, ?_⟩) ?_ ?_
                                      rotate_left
                                      · intro w'
                                        go_simp
                                        with_reducible rfl
                                      rotate_left
                                      · simp only [Act.put, List.setIfInBounds_toArray, List.set_cons_zero, List.set_cons_succ, i64_w, i32_w]
                                        rfl
                                      refine pure_ (i := 10) (N := some 37) (v := ?_) (a' := ?_) #[true, true, true, true, true, true, true, true, true, true, true, false, false, false, false, false, false, false, false] rfl rfl (any_of HT_.out (by kernel_rfl)) (fun _ _ _ h => h) (Or.inl ⟨by rfl, ?_⟩) ?_ ?_
                                      rotate_left
                                      · intro w'
                                        go_simp
                                        with_reducible rfl
                                      rotate_left
                                      · simp only [Act.put, List.setIfInBounds_toArray, List.set_cons_zero, List.set_cons_succ, i64_w, i32_w]
                                        rfl
                                      refine pure_ (i := 11) (N := some 38) (v := ?_) (a' := ?_) #[true, true, true, true, true, true, true, true, true, true, true, true, false, false, false, false, false, false, false] rfl rfl (any_of HT_.out (by kernel_rfl)) (fun _ _ _ h => h) (Or.inl ⟨by rfl, ?_⟩) ?_ ?_
                                      rotate_left
                                      · intro w'
                                        go_simp
                                        with_reducible rfl
                                      rotate_left
                                      · simp only [Act.put, List.setIfInBounds_toArray, List.set_cons_zero, List.set_cons_succ, i64_w, i32_w]
                                        rfl
                                      refine pure_ (i := 12) (N := some 39) (v := ?_) (a' := ?_) #[true, true, true, true, true, true, true, true, true, true, true, true, true, false, false, false, false, false, false] rfl rfl (any_of HT_.out (by kernel_rfl)) (fun _ _ _ h => h) (Or.inl ⟨by rfl, ?_⟩) ?_ ?_
                                      rotate_left
                                      · intro w'
                                        go_simp
                                        with_reducible rfl
                                      rotate_left
                                      · simp only [Act.put, List.setIfInBounds_toArray, List.set_cons_zero, List.set_cons_succ, i64_w, i32_w]
                                        rfl
                                      refine pure_ (i := 13) (N := some 40) (v := ?_) (a' := ?_) #[true, true, true, true, true, true, true, true, true, true, true, true, true, true, false, false, false, false, false] rfl rfl (any_of HT_.out (by kernel_rfl)) (fun _ _ _ h => h) (Or.inl ⟨by rfl, ?_⟩) ?_ ?_
                                      rotate_left
                                      · intro w'
                                        go_simp
                                        with_reducible rfl
                                      rotate_left
                                      · simp only [Act.put, List.setIfInBounds_toArray, List.set_cons_zero, List.set_cons_succ, i64_w, i32_w]
                                        rfl
                                      refine pure_ (i := 14) (N := some 41) (v := ?_) (a' := ?_) #[true, true, true, true, true, true, true, true, true, true, true, true, true, true, true, false, false, false, false] rfl rfl (any_of HT_.out (by kernel_rfl)) (fun _ _ _ h => h) (Or.inl ⟨by rfl, ?_⟩) ?_ ?_
                                      rotate_left
                                      · intro w'
                                        go_simp
                                        with_reducible rfl
                                      rotate_left
                                      · simp only [Act.put, List.setIfInBounds_toArray, List.set_cons_zero, List.set_cons_succ, i64_w, i32_w]
                                        rfl
                                      refine pure_ (i := 15) (N := some 42) (v := ?_) (a' := ?_) #[true, true, true, true, true, true, true, true, true, true, true, true, true, true, true, true, false, false, false] rfl rfl (any_of HT_.out (by kernel_rfl)) (fun _ _ _ h => h) (Or.inl ⟨by rfl, ?_⟩) ?_ ?_
                                      rotate_left
                                      · intro w'
                                        go_simp
                                        with_reducible rfl
                                      rotate_left
                                      · simp only [Act.put, List.setIfInBounds_toArray, List.set_cons_zero, List.set_cons_succ, i64_w, i32_w]
                                        rfl
                                      refine pure_ (i := 16) (N := some 43) (v := ?_) (a' := ?_) #[true, true, true, true, true, true, true, true, true, true, true, true, true, true, true, true, true, false, false] rfl rfl (any_of HT_.out (by kernel_rfl)) (fun _ _ _ h => h) (Or.inl ⟨by rfl, ?_⟩) ?_ ?_
                                      rotate_left
                                      · intro w'
                                        go_simp
                                        with_reducible rfl
                                      rotate_left
                                      · simp only [Act.put, List.setIfInBounds_toArray, List.set_cons_zero, List.set_cons_succ, i64_w, i32_w]
                                        rfl
                                      refine one_ (i := 17) (N := some 44) #[true, true, true, true, true, true, true, true, true, true, true, true, true, true, true, true, true, true, false] rfl rfl (one_of HT_.out (by kernel_rfl)) (by decide) (fun K hK => ?_)
                                      refine goes_ Try.func9 (by kernel_rfl) rfl #[.string ((((⟨#[32, 9, 10, 13]⟩ : ByteArray).extract ((ji15) : Int).toNat ((IntKind.u64.wrap ((ji15) + 1)) : Int).toNat) ++ a0) ++ ((⟨#[32, 9, 10, 13]⟩ : ByteArray).extract ((ji20) : Int).toNat ((IntKind.u64.wrap ((ji20) + 1)) : Int).toNat))] (by rfl) rfl rfl (by (try simp only [List.map_toArray, List.map_cons, List.map_nil]); first | done | (simp only [hji15, hji20]; rfl) | rfl | (simp only [List.length_drop, List.length_take]; rfl)) ?_
                                      with_reducible refine (impl_GjValid.calls kj6 ((((⟨#[32, 9, 10, 13]⟩ : ByteArray).extract ((ji15) : Int).toNat ((IntKind.u64.wrap ((ji15) + 1)) : Int).toNat) ++ a0) ++ ((⟨#[32, 9, 10, 13]⟩ : ByteArray).extract ((ji20) : Int).toNat ((IntKind.u64.wrap ((ji20) + 1)) : Int).toNat)) true _ A25.out).mono ?_
                                      rintro e w43 ⟨rfl, hb⟩
                                      refine ⟨_, rfl, ?_⟩
                                      have n0_ := Aside0.mk (Kd.R_below (by (with_reducible repeat (first | apply Kd.R_alloc | apply Kd.R_drewN | apply Kd.R_drew)); exact HO_320003.out) hb)
                                      have n1_ := Aside0.mk (Kd.R_below (by (with_reducible repeat (first | apply Kd.R_alloc | apply Kd.R_drewN | apply Kd.R_drew)); exact HO_320004.out) hb)
                                      have n2_ := Aside0.mk (blk_below (g := gb319) (o := .cells #[.int .i64 t309, .int .i64 t310, .int .i64 t311, .slice Ao11 t312.length co11, .slice Ao12 t315.length co12] 25 (0, 0)) (by (with_reducible repeat (first | refine blk_drewN ?_ _ | refine blk_drew ?_ | refine blk_alloc ?_ _)); exact BK319.out) hb)
                                      have n3_ := Aside0.mk (below_step (by repeat (first | (with_reducible first | exact HB.out | apply below_alloc | apply pw_below_drewN | apply below_drew1 | refine below_set ?_ GE319.out) | exact HB.out)) hb)
                                      clear HO_320003
                                      clear HO_320004
                                      clear BK319
                                      clear HB
                                      have HO_320003 := n0_
                                      have HO_320004 := n1_
                                      have BK319 := n2_
                                      have HB := n3_
                                      clear n0_ n1_ n2_ n3_
                                      (try clear hb)
                                      (try clear hb2)
                                      (try clear hk)
                                      (try clear hi)
                                      refine hK.out _ _ trivial (fun hHeld => ?_)
                                      clear hK K
                                      refine norm_ (a' := ?_) ?_ ?_
                                      rotate_left
                                      · show Act.put _ (some 44) _ = _
                                        simp only [Act.put, List.setIfInBounds_toArray, List.set_cons_zero, List.set_cons_succ, i64_w, i32_w]
                                        rfl
                                      refine pure_ (i := 18) (N := some 45) (v := ?_) (a' := ?_) #[true, true, true, true, true, true, true, true, true, true, true, true, true, true, true, true, true, true, true] rfl rfl (any_of HT_.out (by kernel_rfl)) (fun _ _ _ h => h) (Or.inl ⟨by rfl, ?_⟩) ?_ ?_
                                      rotate_left
                                      · intro w'
                                        go_simp
                                        with_reducible rfl
                                      rotate_left
                                      · simp only [Act.put, List.setIfInBounds_toArray, List.set_cons_zero, List.set_cons_succ, i64_w, i32_w]
                                        rfl
                                      refine done_ (done_of HT_.out (by kernel_rfl)) ?_
                                      have hcz44_0 : w43.cell? ⟨gb319, 0, none⟩ = some (.int .i64 t309) := (blk_cell BK319.out 0).trans rfl
                                      have hcz44_1 : w43.cell? ⟨gb319, 1, none⟩ = some (.int .i64 t310) := (blk_cell BK319.out 1).trans rfl
                                      have hcz44_2 : w43.cell? ⟨gb319, 2, none⟩ = some (.int .i64 t311) := (blk_cell BK319.out 2).trans rfl
                                      have hcz44_3 : w43.cell? ⟨gb319, 3, none⟩ = some (.slice Ao11 t312.length co11) := (blk_cell BK319.out 3).trans rfl
                                      have hcz44_4 : w43.cell? ⟨gb319, 4, none⟩ = some (.slice Ao12 t315.length co12) := (blk_cell BK319.out 4).trans rfl
                                      have hfz44_0 := blk_frozen BK319.out 0
                                      have hfz44_1 := blk_frozen BK319.out 1
                                      have hfz44_2 := blk_frozen BK319.out 2
                                      have hfz44_3 := blk_frozen BK319.out 3
                                      have hfz44_4 := blk_frozen BK319.out 4
                                      try go_wp2_with (first | ((with_reducible refine gate_callee (f := 9) rfl ?_); refine goesL_ (some 62) rfl rfl Try.func9 (by kernel_rfl) rfl #[.string (a0.extract 0 (a1 : Int).toNat)] rfl (by (try simp only [List.map_toArray, List.map_cons, List.map_nil]); first | done | rfl | (simp only [List.length_drop, List.length_take]; rfl)) ?_; (with_reducible refine (impl_GjValid.calls kj6 (a0.extract 0 (a1 : Int).toNat) t321 _ A41.out).mono ?_); rintro e w45 ⟨rfl, hb⟩; refine ⟨_, rfl, ?_⟩; have n0_ := Aside0.mk (Kd.R_below (by (with_reducible repeat (first | apply Kd.R_alloc | apply Kd.R_drewN | apply Kd.R_drew)); exact HO_320003.out) hb); have n1_ := Aside0.mk (Kd.R_below (by (with_reducible repeat (first | apply Kd.R_alloc | apply Kd.R_drewN | apply Kd.R_drew)); exact HO_320004.out) hb); have n2_ := Aside0.mk (blk_below (g := gb319) (o := .cells #[.int .i64 t309, .int .i64 t310, .int .i64 t311, .slice Ao11 t312.length co11, .slice Ao12 t315.length co12] 25 (0, 0)) (by (with_reducible repeat (first | refine blk_drewN ?_ _ | refine blk_drew ?_ | refine blk_alloc ?_ _)); exact BK319.out) hb); have n3_ := Aside0.mk (below_step (by repeat (first | (with_reducible first | exact HB.out | apply below_alloc | apply pw_below_drewN | apply below_drew1 | refine below_set ?_ GE319.out) | exact HB.out)) hb); clear HO_320003; clear HO_320004; clear BK319; clear HB; have HO_320003 := n0_; have HO_320004 := n1_; have BK319 := n2_; have HB := n3_; clear n0_ n1_ n2_ n3_; (try clear hb); (try clear hb2); (try clear hk); (try clear hi)))
                                      go_ret
                                      exact ⟨by first | rfl | (simp [errW_none, errW_some] <;> rfl) | (simp only [← hji15, ← hji20]; first | rfl | (simp [errW_none, errW_some] <;> rfl)) | (simp [*, errW_none, errW_some] <;> rfl), by repeat (first | (with_reducible first | exact HB.out | apply below_alloc | apply pw_below_drewN | apply below_drew1 | refine below_set ?_ GE319.out) | exact HB.out)⟩
                                    · rw [if_neg c40] at H
                                      exact absurd H (by simp)
                                  · rw [if_neg c39] at H
                                    exact absurd H (by simp)
                          · replace c26 := Bool.eq_false_iff.mpr c26
                            subst c26
                            have H1 : (some false) = some r := by rw [if_neg (show ¬ (false = true) by decide)] at H; exact H
                            clear H
                            have H := H1
                            clear H1
                            obtain rfl := Option.some.inj H
                            try go_wp2
                            have n0_ := Aside0.mk (Kd.R_drew HO_320003.out)
                            have n1_ := Aside0.mk (Kd.R_drew HO_320004.out)
                            have n2_ := Aside0.mk (blk_drew BK319.out)
                            have n3_ := Aside0.mk (below_drew1 HB.out)
                            clear HO_320003
                            clear HO_320004
                            clear BK319
                            clear HB
                            have HO_320003 := n0_
                            have HO_320004 := n1_
                            have BK319 := n2_
                            have HB := n3_
                            clear n0_ n1_ n2_ n3_
                            refine start_ (n := 19) (S := fun w' => True) (ds := []) #[false, false, false, false, false, false, false, false, false, false, false, false, false, false, false, false, false, false, false] (by kernel_rfl) rfl rfl trivial (fun hHeld => ?_); refine with_tabW laws_FnGjValidCut.tab7 laws_FnGjValidCut.bits7 (fun HT_ HW_ => ?_)
                            generalize wc.drew = w46 at HO_320003 HO_320004 BK319 HB hHeld ⊢
                            refine pure_ (i := 0) (N := some 27) (v := ?_) (a' := ?_) #[true, false, false, false, false, false, false, false, false, false, false, false, false, false, false, false, false, false, false] rfl rfl (any_of HT_.out (by kernel_rfl)) (fun _ _ _ h => h) (Or.inl ⟨by rfl, ?_⟩) ?_ ?_
                            rotate_left
                            · intro w'
                              go_simp
                              with_reducible rfl
                            rotate_left
                            · simp only [Act.put, List.setIfInBounds_toArray, List.set_cons_zero, List.set_cons_succ, i64_w, i32_w]
                              rfl
                            refine pure_ (i := 1) (N := some 28) (v := ?_) (a' := ?_) #[true, true, false, false, false, false, false, false, false, false, false, false, false, false, false, false, false, false, false] rfl rfl (any_of HT_.out (by kernel_rfl)) (fun _ _ _ h => h) (Or.inl ⟨by rfl, ?_⟩) ?_ ?_
                            rotate_left
                            · intro w'
                              go_simp
                              with_reducible rfl
                            rotate_left
                            · simp only [Act.put, List.setIfInBounds_toArray, List.set_cons_zero, List.set_cons_succ, i64_w, i32_w]
                              rfl
                            refine pure_ (i := 2) (N := some 29) (v := ?_) (a' := ?_) #[true, true, true, false, false, false, false, false, false, false, false, false, false, false, false, false, false, false, false] rfl rfl (any_of HT_.out (by kernel_rfl)) (fun _ _ _ h => h) (Or.inl ⟨by rfl, ?_⟩) ?_ ?_
                            rotate_left
                            · intro w'
                              go_simp
                              with_reducible rfl
                            rotate_left
                            · simp only [Act.put, List.setIfInBounds_toArray, List.set_cons_zero, List.set_cons_succ, i64_w, i32_w]
                              rfl
                            refine pure_ (i := 3) (N := some 30) (v := ?_) (a' := ?_) #[true, true, true, true, false, false, false, false, false, false, false, false, false, false, false, false, false, false, false] rfl rfl (any_of HT_.out (by kernel_rfl)) (fun _ _ _ h => h) (Or.inl ⟨by rfl, ?_⟩) ?_ ?_
                            rotate_left
                            · intro w'
                              go_simp
                              with_reducible rfl
                            rotate_left
                            · simp only [Act.put, List.setIfInBounds_toArray, List.set_cons_zero, List.set_cons_succ, i64_w, i32_w]
                              rfl
                            refine pure_ (i := 4) (N := some 31) (v := ?_) (a' := ?_) #[true, true, true, true, true, false, false, false, false, false, false, false, false, false, false, false, false, false, false] rfl rfl (any_of HT_.out (by kernel_rfl)) (fun _ _ _ h => h) (Or.inl ⟨by rfl, ?_⟩) ?_ ?_
                            rotate_left
                            · intro w'
                              go_simp
                              with_reducible rfl
                            rotate_left
                            · simp only [Act.put, List.setIfInBounds_toArray, List.set_cons_zero, List.set_cons_succ, i64_w, i32_w]
                              rfl
                            refine pure_ (i := 5) (N := some 32) (v := ?_) (a' := ?_) #[true, true, true, true, true, true, false, false, false, false, false, false, false, false, false, false, false, false, false] rfl rfl (any_of HT_.out (by kernel_rfl)) (fun _ _ _ h => h) (Or.inl ⟨by rfl, ?_⟩) ?_ ?_
                            rotate_left
                            · intro w'
                              go_simp
                              with_reducible rfl
                            rotate_left
                            · simp only [Act.put, List.setIfInBounds_toArray, List.set_cons_zero, List.set_cons_succ, i64_w, i32_w]
                              rfl
                            refine pure_ (i := 6) (N := some 33) (v := ?_) (a' := ?_) #[true, true, true, true, true, true, true, false, false, false, false, false, false, false, false, false, false, false, false] rfl rfl (any_of HT_.out (by kernel_rfl)) (fun _ _ _ h => h) (Or.inl ⟨by rfl, ?_⟩) ?_ ?_
                            rotate_left
                            · intro w'
                              go_simp
                              with_reducible rfl
                            rotate_left
                            · simp only [Act.put, List.setIfInBounds_toArray, List.set_cons_zero, List.set_cons_succ, i64_w, i32_w]
                              rfl
                            refine pure_ (i := 7) (N := some 34) (v := ?_) (a' := ?_) #[true, true, true, true, true, true, true, true, false, false, false, false, false, false, false, false, false, false, false] rfl rfl (any_of HT_.out (by kernel_rfl)) (fun _ _ _ h => h) (Or.inl ⟨by rfl, ?_⟩) ?_ ?_
                            rotate_left
                            · intro w'
                              go_simp
                              with_reducible rfl
                            rotate_left
                            · simp only [Act.put, List.setIfInBounds_toArray, List.set_cons_zero, List.set_cons_succ, i64_w, i32_w]
                              rfl
                            refine pure_ (i := 8) (N := some 35) (v := ?_) (a' := ?_) #[true, true, true, true, true, true, true, true, true, false, false, false, false, false, false, false, false, false, false] rfl rfl (any_of HT_.out (by kernel_rfl)) (fun _ _ _ h => h) (Or.inl ⟨by rfl, ?_⟩) ?_ ?_
                            rotate_left
                            · intro w'
                              go_simp
                              with_reducible rfl
                            rotate_left
                            · simp only [Act.put, List.setIfInBounds_toArray, List.set_cons_zero, List.set_cons_succ, i64_w, i32_w]
                              rfl
                            refine pure_ (i := 9) (N := some 36) (v := ?_) (a' := ?_) #[true, true, true, true, true, true, true, true, true, true, false, false, false, false, false, false, false, false, false] rfl rfl (any_of HT_.out (by kernel_rfl)) (fun _ _ _ h => h) (Or.inl ⟨by rfl, ?_⟩) ?_ ?_
                            rotate_left
                            · intro w'
                              go_simp
                              with_reducible rfl
                            rotate_left
                            · simp only [Act.put, List.setIfInBounds_toArray, List.set_cons_zero, List.set_cons_succ, i64_w, i32_w]
                              rfl
                            refine pure_ (i := 10) (N := some 37) (v := ?_) (a' := ?_) #[true, true, true, true, true, true, true, true, true, true, true, false, false, false, false, false, false, false, false] rfl rfl (any_of HT_.out (by kernel_rfl)) (fun _ _ _ h => h) (Or.inl ⟨by rfl, ?_⟩) ?_ ?_
                            rotate_left
                            · intro w'
                              go_simp
                              with_reducible rfl
                            rotate_left
                            · simp only [Act.put, List.setIfInBounds_toArray, List.set_cons_zero, List.set_cons_succ, i64_w, i32_w]
                              rfl
                            refine pure_ (i := 11) (N := some 38) (v := ?_) (a' := ?_) #[true, true, true, true, true, true, true, true, true, true, true, true, false, false, false, false, false, false, false] rfl rfl (any_of HT_.out (by kernel_rfl)) (fun _ _ _ h => h) (Or.inl ⟨by rfl, ?_⟩) ?_ ?_
                            rotate_left
                            · intro w'
                              go_simp
                              with_reducible rfl
                            rotate_left
                            · simp only [Act.put, List.setIfInBounds_toArray, List.set_cons_zero, List.set_cons_succ, i64_w, i32_w]
                              rfl
                            refine pure_ (i := 12) (N := some 39) (v := ?_) (a' := ?_) #[true, true, true, true, true, true, true, true, true, true, true, true, true, false, false, false, false, false, false] rfl rfl (any_of HT_.out (by kernel_rfl)) (fun _ _ _ h => h) (Or.inl ⟨by rfl, ?_⟩) ?_ ?_
                            rotate_left
                            · intro w'
                              go_simp
                              with_reducible rfl
                            rotate_left
                            · simp only [Act.put, List.setIfInBounds_toArray, List.set_cons_zero, List.set_cons_succ, i64_w, i32_w]
                              rfl
                            refine pure_ (i := 13) (N := some 40) (v := ?_) (a' := ?_) #[true, true, true, true, true, true, true, true, true, true, true, true, true, true, false, false, false, false, false] rfl rfl (any_of HT_.out (by kernel_rfl)) (fun _ _ _ h => h) (Or.inl ⟨by rfl, ?_⟩) ?_ ?_
                            rotate_left
                            · intro w'
                              go_simp
                              with_reducible rfl
                            rotate_left
                            · simp only [Act.put, List.setIfInBounds_toArray, List.set_cons_zero, List.set_cons_succ, i64_w, i32_w]
                              rfl
                            refine pure_ (i := 14) (N := some 41) (v := ?_) (a' := ?_) #[true, true, true, true, true, true, true, true, true, true, true, true, true, true, true, false, false, false, false] rfl rfl (any_of HT_.out (by kernel_rfl)) (fun _ _ _ h => h) (Or.inl ⟨by rfl, ?_⟩) ?_ ?_
                            rotate_left
                            · intro w'
                              go_simp
                              with_reducible rfl
                            rotate_left
                            · simp only [Act.put, List.setIfInBounds_toArray, List.set_cons_zero, List.set_cons_succ, i64_w, i32_w]
                              rfl
                            refine pure_ (i := 15) (N := some 42) (v := ?_) (a' := ?_) #[true, true, true, true, true, true, true, true, true, true, true, true, true, true, true, true, false, false, false] rfl rfl (any_of HT_.out (by kernel_rfl)) (fun _ _ _ h => h) (Or.inl ⟨by rfl, ?_⟩) ?_ ?_
                            rotate_left
                            · intro w'
                              go_simp
                              with_reducible rfl
                            rotate_left
                            · simp only [Act.put, List.setIfInBounds_toArray, List.set_cons_zero, List.set_cons_succ, i64_w, i32_w]
                              rfl
                            refine pure_ (i := 16) (N := some 43) (v := ?_) (a' := ?_) #[true, true, true, true, true, true, true, true, true, true, true, true, true, true, true, true, true, false, false] rfl rfl (any_of HT_.out (by kernel_rfl)) (fun _ _ _ h => h) (Or.inl ⟨by rfl, ?_⟩) ?_ ?_
                            rotate_left
                            · intro w'
                              go_simp
                              with_reducible rfl
                            rotate_left
                            · simp only [Act.put, List.setIfInBounds_toArray, List.set_cons_zero, List.set_cons_succ, i64_w, i32_w]
                              rfl
                            refine one_ (i := 17) (N := some 44) #[true, true, true, true, true, true, true, true, true, true, true, true, true, true, true, true, true, true, false] rfl rfl (one_of HT_.out (by kernel_rfl)) (by decide) (fun K hK => ?_)
                            refine goes_ Try.func9 (by kernel_rfl) rfl #[.string ((((⟨#[32, 9, 10, 13]⟩ : ByteArray).extract ((ji15) : Int).toNat ((IntKind.u64.wrap ((ji15) + 1)) : Int).toNat) ++ a0) ++ ((⟨#[32, 9, 10, 13]⟩ : ByteArray).extract ((ji20) : Int).toNat ((IntKind.u64.wrap ((ji20) + 1)) : Int).toNat))] (by rfl) rfl rfl (by (try simp only [List.map_toArray, List.map_cons, List.map_nil]); first | done | (simp only [hji15, hji20]; rfl) | rfl | (simp only [List.length_drop, List.length_take]; rfl)) ?_
                            with_reducible refine (impl_GjValid.calls kj6 ((((⟨#[32, 9, 10, 13]⟩ : ByteArray).extract ((ji15) : Int).toNat ((IntKind.u64.wrap ((ji15) + 1)) : Int).toNat) ++ a0) ++ ((⟨#[32, 9, 10, 13]⟩ : ByteArray).extract ((ji20) : Int).toNat ((IntKind.u64.wrap ((ji20) + 1)) : Int).toNat)) false _ A25.out).mono ?_
                            rintro e w47 ⟨rfl, hb⟩
                            refine ⟨_, rfl, ?_⟩
                            have n0_ := Aside0.mk (Kd.R_below (by (with_reducible repeat (first | apply Kd.R_alloc | apply Kd.R_drewN | apply Kd.R_drew)); exact HO_320003.out) hb)
                            have n1_ := Aside0.mk (Kd.R_below (by (with_reducible repeat (first | apply Kd.R_alloc | apply Kd.R_drewN | apply Kd.R_drew)); exact HO_320004.out) hb)
                            have n2_ := Aside0.mk (blk_below (g := gb319) (o := .cells #[.int .i64 t309, .int .i64 t310, .int .i64 t311, .slice Ao11 t312.length co11, .slice Ao12 t315.length co12] 25 (0, 0)) (by (with_reducible repeat (first | refine blk_drewN ?_ _ | refine blk_drew ?_ | refine blk_alloc ?_ _)); exact BK319.out) hb)
                            have n3_ := Aside0.mk (below_step (by repeat (first | (with_reducible first | exact HB.out | apply below_alloc | apply pw_below_drewN | apply below_drew1 | refine below_set ?_ GE319.out) | exact HB.out)) hb)
                            clear HO_320003
                            clear HO_320004
                            clear BK319
                            clear HB
                            have HO_320003 := n0_
                            have HO_320004 := n1_
                            have BK319 := n2_
                            have HB := n3_
                            clear n0_ n1_ n2_ n3_
                            (try clear hb)
                            (try clear hb2)
                            (try clear hk)
                            (try clear hi)
                            refine hK.out _ _ trivial (fun hHeld => ?_)
                            clear hK K
                            refine norm_ (a' := ?_) ?_ ?_
                            rotate_left
                            · show Act.put _ (some 44) _ = _
                              simp only [Act.put, List.setIfInBounds_toArray, List.set_cons_zero, List.set_cons_succ, i64_w, i32_w]
                              rfl
                            refine pure_ (i := 18) (N := some 45) (v := ?_) (a' := ?_) #[true, true, true, true, true, true, true, true, true, true, true, true, true, true, true, true, true, true, true] rfl rfl (any_of HT_.out (by kernel_rfl)) (fun _ _ _ h => h) (Or.inl ⟨by rfl, ?_⟩) ?_ ?_
                            rotate_left
                            · intro w'
                              go_simp
                              with_reducible rfl
                            rotate_left
                            · simp only [Act.put, List.setIfInBounds_toArray, List.set_cons_zero, List.set_cons_succ, i64_w, i32_w]
                              rfl
                            refine done_ (done_of HT_.out (by kernel_rfl)) ?_
                            try go_wp2
                            go_ret
                            exact ⟨by first | rfl | (simp [errW_none, errW_some] <;> rfl) | (simp only [← hji15, ← hji20]; first | rfl | (simp [errW_none, errW_some] <;> rfl)) | (simp [*, errW_none, errW_some] <;> rfl), by repeat (first | (with_reducible first | exact HB.out | apply below_alloc | apply pw_below_drewN | apply below_drew1 | refine below_set ?_ GE319.out) | exact HB.out)⟩
                        · rw [if_neg c24] at H
                          exact absurd H (by simp)
                      · rw [if_neg c23] at H
                        exact absurd H (by simp)
                    · rw [if_neg c22] at H
                      exact absurd H (by simp)
                  · rw [if_neg c21] at H
                    exact absurd H (by simp)
                · rw [if_neg c19] at H
                  exact absurd H (by simp)
              · rw [if_neg c18] at H
                exact absurd H (by simp)
            · rw [if_neg c17] at H
              exact absurd H (by simp)
          · rw [if_neg c16] at H
            exact absurd H (by simp)
def laws_FnGjValidCut.Pure : Prop := ∀ (a0 : ByteArray) (a1 : Int) (a2 : Int) (a3 : Int), a0.size ≤ 140737488351232 → (Lit.int .i64 a1).wf = true → (Lit.int .u64 a2).wf = true → (Lit.int .u64 a3).wf = true → ∃ k, laws_FnGjValidCut.f k a0 a1 a2 a3 = some true
theorem laws_FnGjValidCut.walk (P : laws_FnGjValidCut.Pure) (a0 : ByteArray) (a1 : Int) (a2 : Int) (a3 : Int) (w : World) (w0 : a0.size ≤ 140737488351232) (w1 : (Lit.int .i64 a1).wf = true) (w2 : (Lit.int .u64 a2).wf = true) (w3 : (Lit.int .u64 a3).wf = true) :
    Calls Try.prog 4 #[.string a0, .int .i64 a1, .int .u64 a2, .int .u64 a3] w fun e w' => e = .returned (.bool true) ∧ Below w.heap.size w w' := by
  obtain ⟨k, h⟩ := P a0 a1 a2 a3 w0 w1 w2 w3
  refine (laws_FnGjValidCut.calls k a0 a1 a2 a3 true w h).mono ?_
  rintro e w' ⟨rfl, hd⟩
  exact ⟨rfl, hd⟩
end Go.Proofs.Ytphpjboljlkdkaa.PFnGjValidCut
