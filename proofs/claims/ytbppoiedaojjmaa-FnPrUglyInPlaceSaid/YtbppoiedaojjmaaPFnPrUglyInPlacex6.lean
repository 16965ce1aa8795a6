/- Written by a program of this session (a turned copy of the print) out of the translation. -/
import Derived.Test.YtbppoiedaojjmaaPFnPrUglyInPlacex0
import Derived.Test.YtbppoiedaojjmaaPFnPrUglyInPlacex5
namespace Go.Proofs.Ytbppoiedaojjmaa.PFnPrUglyInPlace
open Go.RowKit Go.Proofs.YtbppoiedaojjmaaW.PrintWords Go.Proofs.YtbppoiedaojjmaaW.PrintLast Go.Proofs.YtbppoiedaojjmaaW.PrintMore
attribute [local go_sem] max2_int min2_int max_two min_two max_three min_three max_four min_four   -- for this text's walks alone
set_option linter.unusedVariables false
set_option linter.unusedSimpArgs false

/-! ### laws_FnPrUglyInPlace: function 4 -/
def laws_FnPrUglyInPlace.f (k : Nat) (a0 : ByteArray) : Option (Bool) := if (a0.size : Int) > 2147483647 then (some true) else ((laws_prPlaces.f k a0).bind fun bt276 => (if bt276.2.2.2.2.2 = true then ((impl_PrUglyInPlace.f a0).bind fun t287 => ((spec_Bare.f a0 bt276.1 bt276.2.1 bt276.2.2.1 bt276.2.2.2.1 bt276.2.2.2.2.1).bind fun t288 => (some (t287.toList == t288.toList)))) else (some true)))
theorem laws_FnPrUglyInPlace.mono : ∀ a0 k, LeO (laws_FnPrUglyInPlace.f k a0) (laws_FnPrUglyInPlace.f (k + 1) a0) := by
  intro a0 k
  unfold laws_FnPrUglyInPlace.f
  repeat' first
      | (with_reducible exact laws_prPlaces.mono _ _)
      | (with_reducible exact LeO.refl _)
      | (with_reducible exact LeO.none _)
      | (with_reducible refine LeO.ite ?_ ?_)
      | (with_reducible refine LeO.bind ?_ (fun _ => ?_))
      | exact laws_prPlaces.mono _ _
      | exact LeO.none _
      | refine LeO.ite ?_ ?_
      | refine LeO.bind ?_ (fun _ => ?_)
def laws_FnPrUglyInPlace.T4 : Bool × List (List Nat × List Nat) := (true, [([], []), ([0], [0]), ([1], [1]), ([2], [2]), ([3, 2, 2], [2, 3]), ([2], [2]), ([2], [2]), ([5, 6, 4, 2], [2, 5, 6]), ([4, 7, 2], [2, 4, 7]), ([2, 8], [2, 8]), ([9, 7, 0, 1, 2, 3, 4, 5, 6, 7, 8, 9], [9])])
def laws_FnPrUglyInPlace.B4 : List Nat := [0, 1, 3, 7, 15, 7, 7, 127, 255, 511, 1023]
theorem laws_FnPrUglyInPlace.tab4 : rtab .any (opsOf Try.f4 4) = laws_FnPrUglyInPlace.T4 := by kernel_rfl
theorem laws_FnPrUglyInPlace.bits4 : waitsOk laws_FnPrUglyInPlace.T4.2 laws_FnPrUglyInPlace.B4 = true := by kernel_rfl
set_option maxHeartbeats 8000000 in
set_option maxRecDepth 100000 in
theorem laws_FnPrUglyInPlace.calls (k : Nat) (a0 : ByteArray) (r : Bool) (w : World) (h : laws_FnPrUglyInPlace.f k a0 = some r) :
    Calls Try.prog 4 #[.string a0] w fun e w' => e = .returned (.bool r) ∧ Below w.heap.size w w' := by
  have hu28 := Try.underlying28
  have HB := Aside0.mk (Below.refl w.heap.size w)
  have H : (if (a0.size : Int) > 2147483647 then (some true) else ((laws_prPlaces.f k a0).bind fun bt276 => (if bt276.2.2.2.2.2 = true then ((impl_PrUglyInPlace.f a0).bind fun t287 => ((spec_Bare.f a0 bt276.1 bt276.2.1 bt276.2.2.1 bt276.2.2.2.1 bt276.2.2.2.2.1).bind fun t288 => (some (t287.toList == t288.toList)))) else (some true)))) = some r := h
  clear h
  by_cases c2 : (a0.size : Int) > 2147483647
  · rw [if_pos c2] at H
    have c2b0 : decide (2147483647 < (a0.size : Int)) = true := decide_eq_true c2
    have c2b1 : decide (2147483647 < a0.size) = true := decide_eq_true (by omega)
    clear c2
    obtain rfl := Option.some.inj H
    go_enter Try.func4, Try.ntmps4
    go_wp2
    go_ret
    exact ⟨by first | rfl | (simp [errW_none, errW_some] <;> rfl) | (simp [*, errW_none, errW_some] <;> rfl), by repeat (first | (with_reducible first | exact HB.out | apply below_alloc | apply pw_below_drewN | apply below_drew1) | exact HB.out)⟩
  · rw [if_neg c2] at H
    have c2b0 : decide (2147483647 < (a0.size : Int)) = false := decide_eq_false c2
    have c2b1 : decide (2147483647 < a0.size) = false := decide_eq_false (by omega)
    clear c2
    replace H := Option.bind_eq_some_iff.mp H
    obtain ⟨⟨t276, t277, t278, t279, t282, t285⟩, A30, H⟩ := H
    replace H : (if t285 = true then ((impl_PrUglyInPlace.f a0).bind fun t287 => ((spec_Bare.f a0 t276 t277 t278 t279 t282).bind fun t288 => (some (t287.toList == t288.toList)))) else (some true)) = some r := H
    have A3 := Aside0.mk A30
    clear A30
    by_cases c4 : t285 = true
    · subst c4
      have H1 : ((impl_PrUglyInPlace.f a0).bind fun t287 => ((spec_Bare.f a0 t276 t277 t278 t279 t282).bind fun t288 => (some (t287.toList == t288.toList)))) = some r := by rw [if_pos rfl] at H; exact H
      clear H
      have H := H1
      clear H1
      replace H := Option.bind_eq_some_iff.mp H
      obtain ⟨t287, A50, H⟩ := H
      replace H : ((spec_Bare.f a0 t276 t277 t278 t279 t282).bind fun t288 => (some (t287.toList == t288.toList))) = some r := H
      have A5 := Aside0.mk A50
      clear A50
      replace H := Option.bind_eq_some_iff.mp H
      obtain ⟨t288, A60, H⟩ := H
      replace H : (some (t287.toList == t288.toList)) = some r := H
      have A6 := Aside0.mk A60
      clear A60
      obtain rfl := Option.some.inj H
      go_enter Try.func4, Try.ntmps4
      try go_wp2_with (first | ((with_reducible refine gate_callee (f := 10) rfl ?_); refine goesL_ (some 10) rfl rfl Try.func10 (by kernel_rfl) rfl #[.string a0] rfl (by (try simp only [List.map_toArray, List.map_cons, List.map_nil]); first | done | rfl | (simp only [List.length_drop, List.length_take]; rfl)) ?_; (with_reducible refine (laws_prPlaces.calls k a0 t276 t277 t278 t279 t282 true _ A3.out).mono ?_); rintro e w7 ⟨v280, v283, rfl, ho0, ho1, hb⟩; refine ⟨_, rfl, ?_⟩; have n0_ := Aside0.mk (Kd.R_lower ho0 (below_size (by repeat (first | (with_reducible first | exact HB.out | apply below_alloc | apply pw_below_drewN | apply below_drew1) | exact HB.out)))); have n1_ := Aside0.mk (Kd.R_lower ho1 (below_size (by repeat (first | (with_reducible first | exact HB.out | apply below_alloc | apply pw_below_drewN | apply below_drew1) | exact HB.out)))); have n2_ := Aside0.mk (below_step (by repeat (first | (with_reducible first | exact HB.out | apply below_alloc | apply pw_below_drewN | apply below_drew1) | exact HB.out)) hb); clear HB; have HO281 := n0_; have HO284 := n1_; have HB := n2_; clear n0_ n1_ n2_; (try clear hb); (try clear hb2); (try clear hk); (try clear hi); (try clear ho0); (try clear ho1)) | ((with_reducible refine gate_dst (N := 3) rfl ?_); refine box_event ?hg (N := 3) ?hd (cs := #[.int .i64 0, .int .i64 0, .int .i64 0, .slice none 0 0, .slice none 0 0]) (t := 28) ?hr ?_; (case hd => rfl); (case hg => rfl); (case hr => first | (go_simp; done) | (go_simp; rfl)); intro gb286 hg w8 hbox hb; have n0_ := Aside0.mk (Kd.R_below (by (with_reducible repeat (first | apply Kd.R_alloc | apply Kd.R_drewN | apply Kd.R_drew)); exact HO281.out) hb); have n1_ := Aside0.mk (Kd.R_below (Kd.R_elderB (by (with_reducible repeat (first | apply Kd.R_alloc | apply Kd.R_drewN | apply Kd.R_drew)); exact HO284.out) gb286 (Nat.le_of_eq hg.symm)) hb); have n2_ := Aside0.mk (below_step (by repeat (first | (with_reducible first | exact HB.out | apply below_alloc | apply pw_below_drewN | apply below_drew1) | exact HB.out)) hb); have n3_ := Aside0.mk (hbox); have n4_ := Aside0.mk ((by rw [hg]; exact (below_size (by repeat (first | (with_reducible first | exact HB.out | apply below_alloc | apply pw_below_drewN | apply below_drew1) | exact HB.out))) : w.heap.size ≤ gb286)); have n5_ := Aside0.mk ((by rw [hg]; exact (below_size (by repeat (first | (with_reducible first | exact HB.out | apply below_alloc | apply pw_below_drewN | apply below_drew1) | exact HB.out))) : w.heap.size ≤ gb286)); clear HO281; clear HO284; clear HB; have HO281 := n0_; have HO284 := n1_; have HB := n2_; have BK286 := n3_; have GW286 := n4_; have GE286 := n5_; clear n0_ n1_ n2_ n3_ n4_ n5_; clear hb hbox hg; have hcz9_0 : w8.cell? ⟨gb286, 0, none⟩ = some (.int .i64 0) := (blk_cell BK286.out 0).trans rfl; have hcz9_1 : w8.cell? ⟨gb286, 1, none⟩ = some (.int .i64 0) := (blk_cell BK286.out 1).trans rfl; have hcz9_2 : w8.cell? ⟨gb286, 2, none⟩ = some (.int .i64 0) := (blk_cell BK286.out 2).trans rfl; have hcz9_3 : w8.cell? ⟨gb286, 3, none⟩ = some (.slice none 0 0) := (blk_cell BK286.out 3).trans rfl; have hcz9_4 : w8.cell? ⟨gb286, 4, none⟩ = some (.slice none 0 0) := (blk_cell BK286.out 4).trans rfl; have hfz9_0 := blk_frozen BK286.out 0; have hfz9_1 := blk_frozen BK286.out 1; have hfz9_2 := blk_frozen BK286.out 2; have hfz9_3 := blk_frozen BK286.out 3; have hfz9_4 := blk_frozen BK286.out 4; obtain ⟨Ao10, co10, eo10⟩ := Kd.R_slice HO281.out; subst eo10; obtain ⟨Ao11, co11, eo11⟩ := Kd.R_slice HO284.out; subst eo11))
      have n0_ : Aside0 (Kd.R k55 55 (((((w8.setCell ⟨gb286, 0, none⟩ (.int .i64 t276)).setCell ⟨gb286, 1, none⟩ (.int .i64 t277)).setCell ⟨gb286, 2, none⟩ (.int .i64 t278)).setCell ⟨gb286, 3, none⟩ (.slice Ao10 t279.length co10)).setCell ⟨gb286, 4, none⟩ (.slice Ao11 t282.length co11)) w.heap.size (fun _ => True) (.slice Ao10 t279.length co10) t279) := ⟨by (with_reducible repeat (first | apply Kd.R_alloc | apply Kd.R_drewN | apply Kd.R_drew)); exact Kd.R_mono (Kd.R_far (p := ⟨gb286, 4, none⟩) (Kd.R_far (p := ⟨gb286, 3, none⟩) (Kd.R_far (p := ⟨gb286, 2, none⟩) (Kd.R_far (p := ⟨gb286, 1, none⟩) (Kd.R_far (p := ⟨gb286, 0, none⟩) (Kd.R_types HO281.out BK286.out (by decide)) (fun _ hk => hk.2) (.int .i64 t276)) (fun _ hk => hk.2) (.int .i64 t277)) (fun _ hk => hk.2) (.int .i64 t278)) (fun _ hk => hk.2) (.slice Ao10 t279.length co10)) (fun _ hk => hk.2) (.slice Ao11 t282.length co11)) (fun _ hk => trivial)⟩
      have n1_ : Aside0 (Kd.R k28 28 (((((w8.setCell ⟨gb286, 0, none⟩ (.int .i64 t276)).setCell ⟨gb286, 1, none⟩ (.int .i64 t277)).setCell ⟨gb286, 2, none⟩ (.int .i64 t278)).setCell ⟨gb286, 3, none⟩ (.slice Ao10 t279.length co10)).setCell ⟨gb286, 4, none⟩ (.slice Ao11 t282.length co11)) w.heap.size (fun k_ => some k_ ≠ (.slice Ao10 t279.length co10 : Value).ownBlock ∧ k_ ≠ gb286) (.slice Ao11 t282.length co11) t282) := ⟨by (with_reducible repeat (first | apply Kd.R_alloc | apply Kd.R_drewN | apply Kd.R_drew)); exact Kd.R_mono (Kd.R_far (p := ⟨gb286, 4, none⟩) (Kd.R_far (p := ⟨gb286, 3, none⟩) (Kd.R_far (p := ⟨gb286, 2, none⟩) (Kd.R_far (p := ⟨gb286, 1, none⟩) (Kd.R_far (p := ⟨gb286, 0, none⟩) (Kd.R_mono HO284.out (fun k_ hk => (⟨hk, hk.2⟩ : _ ∧ k_ ≠ gb286))) (fun _ hk => hk.2) (.int .i64 t276)) (fun _ hk => hk.2) (.int .i64 t277)) (fun _ hk => hk.2) (.int .i64 t278)) (fun _ hk => hk.2) (.slice Ao10 t279.length co10)) (fun _ hk => hk.2) (.slice Ao11 t282.length co11)) (fun _ hk => ⟨hk.1.1, hk.1.2⟩)⟩
      have n2_ : Aside0 ((((((w8.setCell ⟨gb286, 0, none⟩ (.int .i64 t276)).setCell ⟨gb286, 1, none⟩ (.int .i64 t277)).setCell ⟨gb286, 2, none⟩ (.int .i64 t278)).setCell ⟨gb286, 3, none⟩ (.slice Ao10 t279.length co10)).setCell ⟨gb286, 4, none⟩ (.slice Ao11 t282.length co11)).heap[gb286]? = some (.cells #[.int .i64 t276, .int .i64 t277, .int .i64 t278, .slice Ao10 t279.length co10, .slice Ao11 t282.length co11] 28 (0, 0))) := ⟨by (with_reducible repeat (first | refine blk_drewN ?_ _ | refine blk_drew ?_ | refine blk_alloc ?_ _)); refine blk_put (cs := #[.int .i64 t276, .int .i64 t277, .int .i64 t278, .slice Ao10 t279.length co10, .slice none 0 0]) ?_ 4 _ rfl; (with_reducible repeat (first | refine blk_drewN ?_ _ | refine blk_drew ?_ | refine blk_alloc ?_ _)); refine blk_put (cs := #[.int .i64 t276, .int .i64 t277, .int .i64 t278, .slice none 0 0, .slice none 0 0]) ?_ 3 _ rfl; (with_reducible repeat (first | refine blk_drewN ?_ _ | refine blk_drew ?_ | refine blk_alloc ?_ _)); refine blk_put (cs := #[.int .i64 t276, .int .i64 t277, .int .i64 0, .slice none 0 0, .slice none 0 0]) ?_ 2 _ rfl; (with_reducible repeat (first | refine blk_drewN ?_ _ | refine blk_drew ?_ | refine blk_alloc ?_ _)); refine blk_put (cs := #[.int .i64 t276, .int .i64 0, .int .i64 0, .slice none 0 0, .slice none 0 0]) ?_ 1 _ rfl; (with_reducible repeat (first | refine blk_drewN ?_ _ | refine blk_drew ?_ | refine blk_alloc ?_ _)); refine blk_put (cs := #[.int .i64 0, .int .i64 0, .int .i64 0, .slice none 0 0, .slice none 0 0]) ?_ 0 _ rfl; (with_reducible repeat (first | refine blk_drewN ?_ _ | refine blk_drew ?_ | refine blk_alloc ?_ _)); exact BK286.out⟩
      have n3_ : Aside0 (Below w.heap.size w (((((w8.setCell ⟨gb286, 0, none⟩ (.int .i64 t276)).setCell ⟨gb286, 1, none⟩ (.int .i64 t277)).setCell ⟨gb286, 2, none⟩ (.int .i64 t278)).setCell ⟨gb286, 3, none⟩ (.slice Ao10 t279.length co10)).setCell ⟨gb286, 4, none⟩ (.slice Ao11 t282.length co11))) := ⟨by repeat (first | (with_reducible first | exact HB.out | apply below_alloc | apply pw_below_drewN | apply below_drew1 | refine below_set ?_ GE286.out) | exact HB.out)⟩
      (try clear HO281)
      (try clear HO284)
      (try clear BK286)
      (try clear HB)
      generalize (((((w8.setCell ⟨gb286, 0, none⟩ (.int .i64 t276)).setCell ⟨gb286, 1, none⟩ (.int .i64 t277)).setCell ⟨gb286, 2, none⟩ (.int .i64 t278)).setCell ⟨gb286, 3, none⟩ (.slice Ao10 t279.length co10)).setCell ⟨gb286, 4, none⟩ (.slice Ao11 t282.length co11)) = w12 at n0_ n1_ n2_ n3_ ⊢
      have HO281 := n0_
      have HO284 := n1_
      have BK286 := n2_
      have HB := n3_
      clear n0_ n1_ n2_ n3_
      have n0_ := Aside0.mk (Kd.R_drew HO281.out)
      have n1_ := Aside0.mk (Kd.R_drew HO284.out)
      have n2_ := Aside0.mk (blk_drew BK286.out)
      have n3_ := Aside0.mk (below_drew1 HB.out)
      clear HO281
      clear HO284
      clear BK286
      clear HB
      have HO281 := n0_
      have HO284 := n1_
      have BK286 := n2_
      have HB := n3_
      clear n0_ n1_ n2_ n3_
      refine start_ (n := 11) (S := fun w' => w'.cell? ⟨gb286, 0, none⟩ = some (.int .i64 t276) ∧ w'.cell? ⟨gb286, 1, none⟩ = some (.int .i64 t277) ∧ w'.cell? ⟨gb286, 2, none⟩ = some (.int .i64 t278) ∧ w'.cell? ⟨gb286, 3, none⟩ = some (.slice Ao10 t279.length co10) ∧ w'.cell? ⟨gb286, 4, none⟩ = some (.slice Ao11 t282.length co11)) (ds := []) #[false, false, false, false, false, false, false, false, false, false, false] (by kernel_rfl) rfl rfl ⟨(blk_cell BK286.out 0).trans rfl, (blk_cell BK286.out 1).trans rfl, (blk_cell BK286.out 2).trans rfl, (blk_cell BK286.out 3).trans rfl, (blk_cell BK286.out 4).trans rfl⟩ (fun hHeld => ?_); refine with_tabW laws_FnPrUglyInPlace.tab4 laws_FnPrUglyInPlace.bits4 (fun HT_ HW_ => ?_)
      generalize w12.drew = w13 at HO281 HO284 BK286 HB hHeld ⊢
      refine pure_ (i := 0) (N := some 13) (v := ?_) (a' := ?_) #[true, false, false, false, false, false, false, false, false, false, false] rfl rfl (any_of HT_.out (by kernel_rfl)) (fun _ _ _ h => h) (Or.inl ⟨by rfl, ?_⟩) ?_ ?_
      rotate_left
      · intro w'
        go_simp
        with_reducible rfl
      rotate_left
      · simp only [Act.put, List.setIfInBounds_toArray, List.set_cons_zero, List.set_cons_succ, i64_w, i32_w]
        rfl
      refine pure_ (i := 1) (N := some 14) (v := ?_) (a' := ?_) #[true, true, false, false, false, false, false, false, false, false, false] rfl rfl (any_of HT_.out (by kernel_rfl)) (fun _ _ _ h => h) (Or.inl ⟨by rfl, ?_⟩) ?_ ?_
      rotate_left
      · intro w'
        go_simp
        with_reducible rfl
      rotate_left
      · simp only [Act.put, List.setIfInBounds_toArray, List.set_cons_zero, List.set_cons_succ, i64_w, i32_w]
        rfl
      refine pure_ (i := 2) (N := some 15) (v := ?_) (a' := ?_) #[true, true, true, false, false, false, false, false, false, false, false] rfl rfl (any_of HT_.out (by kernel_rfl)) (fun _ _ _ h => h) (Or.inl ⟨by rfl, ?_⟩) ?_ ?_
      rotate_left
      · intro w'
        go_simp
        with_reducible rfl
      rotate_left
      · simp only [Act.put, List.setIfInBounds_toArray, List.set_cons_zero, List.set_cons_succ, i64_w, i32_w]
        rfl
      refine pure_ (i := 3) (N := some 16) (v := ?_) (a' := ?_) #[true, true, true, true, false, false, false, false, false, false, false] rfl rfl (any_of HT_.out (by kernel_rfl)) (fun _ _ _ h => h) (Or.inl ⟨by rfl, ?_⟩) ?_ ?_
      rotate_left
      · intro w'
        go_simp
        with_reducible rfl
      rotate_left
      · simp only [Act.put, List.setIfInBounds_toArray, List.set_cons_zero, List.set_cons_succ, i64_w, i32_w]
        rfl
      refine pure_ (i := 5) (N := some 18) (v := ?_) (a' := ?_) #[true, true, true, true, false, true, false, false, false, false, false] rfl rfl (any_of HT_.out (by kernel_rfl)) (fun _ _ _ h => h) (Or.inl ⟨by rfl, ?_⟩) ?_ ?_
      rotate_left
      · intro w'
        go_simp
        with_reducible rfl
      rotate_left
      · simp only [Act.put, List.setIfInBounds_toArray, List.set_cons_zero, List.set_cons_succ, i64_w, i32_w]
        rfl
      refine take_ (i := 6) (N := some 19) (v := ?_) (a' := ?_) #[true, true, true, true, false, true, true, false, false, false, false] rfl rfl (take_ofW HT_.out HW_.out (by kernel_rfl)) (fun _ _ _ h => h) (Or.inl ⟨by rfl, ?_⟩) hHeld ?_ ?_
      rotate_left
      · rintro w' ⟨s0, s1, s2, s3, s4⟩
        go_simp
        with_reducible rfl
      rotate_left
      · simp only [Act.put, List.setIfInBounds_toArray, List.set_cons_zero, List.set_cons_succ, i64_w, i32_w]
        rfl
      refine one_ (i := 4) (N := some 17) #[true, true, true, true, true, true, true, false, false, false, false] rfl rfl (one_of HT_.out (by kernel_rfl)) (by decide) (fun K hK => ?_)
      refine goes_ Try.func11 (by kernel_rfl) rfl #[.string a0] (by rfl) rfl rfl (by (try simp only [List.map_toArray, List.map_cons, List.map_nil]); first | done | rfl | (simp only [List.length_drop, List.length_take]; rfl)) ?_
      with_reducible refine (impl_PrUglyInPlace.calls a0 t287 _ A5.out).mono ?_
      rintro e w14 ⟨rfl, hb⟩
      refine ⟨_, rfl, ?_⟩
      have n0_ := Aside0.mk (Kd.R_below (by (with_reducible repeat (first | apply Kd.R_alloc | apply Kd.R_drewN | apply Kd.R_drew)); exact HO281.out) hb)
      have n1_ := Aside0.mk (Kd.R_below (by (with_reducible repeat (first | apply Kd.R_alloc | apply Kd.R_drewN | apply Kd.R_drew)); exact HO284.out) hb)
      have n2_ := Aside0.mk (blk_below (g := gb286) (o := .cells #[.int .i64 t276, .int .i64 t277, .int .i64 t278, .slice Ao10 t279.length co10, .slice Ao11 t282.length co11] 28 (0, 0)) (by (with_reducible repeat (first | refine blk_drewN ?_ _ | refine blk_drew ?_ | refine blk_alloc ?_ _)); exact BK286.out) hb)
      have n3_ := Aside0.mk (below_step (by repeat (first | (with_reducible first | exact HB.out | apply below_alloc | apply pw_below_drewN | apply below_drew1 | refine below_set ?_ GE286.out) | exact HB.out)) hb)
      clear HO281
      clear HO284
      clear BK286
      clear HB
      have HO281 := n0_
      have HO284 := n1_
      have BK286 := n2_
      have HB := n3_
      clear n0_ n1_ n2_ n3_
      (try clear hb)
      (try clear hb2)
      (try clear hk)
      (try clear hi)
      refine hK.out _ _ ⟨(blk_cell BK286.out 0).trans rfl, (blk_cell BK286.out 1).trans rfl, (blk_cell BK286.out 2).trans rfl, (blk_cell BK286.out 3).trans rfl, (blk_cell BK286.out 4).trans rfl⟩ (fun hHeld => ?_)
      clear hK K
      refine norm_ (a' := ?_) ?_ ?_
      rotate_left
      · show Act.put _ (some 17) _ = _
        simp only [Act.put, List.setIfInBounds_toArray, List.set_cons_zero, List.set_cons_succ, i64_w, i32_w]
        rfl
      refine one_ (i := 7) (N := some 20) #[true, true, true, true, true, true, true, true, false, false, false] rfl rfl (one_of HT_.out (by kernel_rfl)) (by decide) (fun K hK => ?_)
      refine goes_ Try.func12 (by kernel_rfl) rfl #[.string a0, .agg #[.int .i64 t276, .int .i64 t277, .int .i64 t278, .slice Ao10 t279.length co10, .slice Ao11 t282.length co11]] (by rfl) rfl rfl (by (try simp only [List.map_toArray, List.map_cons, List.map_nil]); first | done | rfl | (simp only [List.length_drop, List.length_take]; rfl)) ?_
      with_reducible refine (spec_Bare.calls a0 t276 t277 t278 _ _ t279 _ _ t282 t288 _ ?side1 ?side2 ?side3 ?side4 A6.out).mono ?_
      (case side1 => repeat (first | exact (Kd.R_reads' HO281.out).2.2 | (with_reducible refine Kd.C_alloc ?_ _) | (with_reducible refine Kd.C_drewN ?_ _) | (with_reducible refine Kd.C_drew ?_)))
      (case side2 => exact (Kd.R_reads' HO281.out).2.1)
      (case side3 => repeat (first | exact (Kd.R_reads' HO284.out).2.2 | (with_reducible refine Kd.C_alloc ?_ _) | (with_reducible refine Kd.C_drewN ?_ _) | (with_reducible refine Kd.C_drew ?_)))
      (case side4 => exact (Kd.R_reads' HO284.out).2.1)
      rintro e w15 ⟨rfl, hb⟩
      refine ⟨_, rfl, ?_⟩
      have n0_ := Aside0.mk (Kd.R_below (by (with_reducible repeat (first | apply Kd.R_alloc | apply Kd.R_drewN | apply Kd.R_drew)); exact HO281.out) hb)
      have n1_ := Aside0.mk (Kd.R_below (by (with_reducible repeat (first | apply Kd.R_alloc | apply Kd.R_drewN | apply Kd.R_drew)); exact HO284.out) hb)
      have n2_ := Aside0.mk (blk_below (g := gb286) (o := .cells #[.int .i64 t276, .int .i64 t277, .int .i64 t278, .slice Ao10 t279.length co10, .slice Ao11 t282.length co11] 28 (0, 0)) (by (with_reducible repeat (first | refine blk_drewN ?_ _ | refine blk_drew ?_ | refine blk_alloc ?_ _)); exact BK286.out) hb)
      have n3_ := Aside0.mk (below_step (by repeat (first | (with_reducible first | exact HB.out | apply below_alloc | apply pw_below_drewN | apply below_drew1 | refine below_set ?_ GE286.out) | exact HB.out)) hb)
      clear HO281
      clear HO284
      clear BK286
      clear HB
      have HO281 := n0_
      have HO284 := n1_
      have BK286 := n2_
      have HB := n3_
      clear n0_ n1_ n2_ n3_
      (try clear hb)
      (try clear hb2)
      (try clear hk)
      (try clear hi)
      refine hK.out _ _ ⟨(blk_cell BK286.out 0).trans rfl, (blk_cell BK286.out 1).trans rfl, (blk_cell BK286.out 2).trans rfl, (blk_cell BK286.out 3).trans rfl, (blk_cell BK286.out 4).trans rfl⟩ (fun hHeld => ?_)
      clear hK K
      refine norm_ (a' := ?_) ?_ ?_
      rotate_left
      · show Act.put _ (some 20) _ = _
        simp only [Act.put, List.setIfInBounds_toArray, List.set_cons_zero, List.set_cons_succ, i64_w, i32_w]
        rfl
      refine pure_ (i := 8) (N := some 21) (v := ?_) (a' := ?_) #[true, true, true, true, true, true, true, true, true, false, false] rfl rfl (any_of HT_.out (by kernel_rfl)) (fun _ _ _ h => h) (Or.inl ⟨by rfl, ?_⟩) ?_ ?_
      rotate_left
      · intro w'
        go_simp
        with_reducible rfl
      rotate_left
      · simp only [Act.put, List.setIfInBounds_toArray, List.set_cons_zero, List.set_cons_succ, i64_w, i32_w]
        rfl
      refine pure_ (i := 9) (N := some 22) (v := ?_) (a' := ?_) #[true, true, true, true, true, true, true, true, true, true, false] rfl rfl (any_of HT_.out (by kernel_rfl)) (fun _ _ _ h => h) (Or.inl ⟨by rfl, ?_⟩) ?_ ?_
      rotate_left
      · intro w'
        go_simp
        with_reducible rfl
      rotate_left
      · simp only [Act.put, List.setIfInBounds_toArray, List.set_cons_zero, List.set_cons_succ, i64_w, i32_w]
        rfl
      refine pure_ (i := 10) (N := some 2) (v := ?_) (a' := ?_) #[true, true, true, true, true, true, true, true, true, true, true] rfl rfl (any_of HT_.out (by kernel_rfl)) (fun _ _ _ h => h) (Or.inl ⟨by rfl, ?_⟩) ?_ ?_
      rotate_left
      · intro w'
        go_simp
        with_reducible rfl
      rotate_left
      · simp only [Act.put, List.setIfInBounds_toArray, List.set_cons_zero, List.set_cons_succ, i64_w, i32_w]
        rfl
      refine done_ (done_of HT_.out (by kernel_rfl)) ?_
      try go_wp2
      go_ret
      exact ⟨by first | rfl | (simp [errW_none, errW_some] <;> rfl) | (simp [*, errW_none, errW_some] <;> rfl), by repeat (first | (with_reducible first | exact HB.out | apply below_alloc | apply pw_below_drewN | apply below_drew1 | refine below_set ?_ GE286.out) | exact HB.out)⟩
    · replace c4 := Bool.eq_false_iff.mpr c4
      subst c4
      have H1 : (some true) = some r := by rw [if_neg (show ¬ (false = true) by decide)] at H; exact H
      clear H
      have H := H1
      clear H1
      obtain rfl := Option.some.inj H
      go_enter Try.func4, Try.ntmps4
      try go_wp2_with (first | ((with_reducible refine gate_callee (f := 10) rfl ?_); refine goesL_ (some 10) rfl rfl Try.func10 (by kernel_rfl) rfl #[.string a0] rfl (by (try simp only [List.map_toArray, List.map_cons, List.map_nil]); first | done | rfl | (simp only [List.length_drop, List.length_take]; rfl)) ?_; (with_reducible refine (laws_prPlaces.calls k a0 t276 t277 t278 t279 t282 false _ A3.out).mono ?_); rintro e w16 ⟨v280, v283, rfl, ho0, ho1, hb⟩; refine ⟨_, rfl, ?_⟩; have n0_ := Aside0.mk (Kd.R_lower ho0 (below_size (by repeat (first | (with_reducible first | exact HB.out | apply below_alloc | apply pw_below_drewN | apply below_drew1) | exact HB.out)))); have n1_ := Aside0.mk (Kd.R_lower ho1 (below_size (by repeat (first | (with_reducible first | exact HB.out | apply below_alloc | apply pw_below_drewN | apply below_drew1) | exact HB.out)))); have n2_ := Aside0.mk (below_step (by repeat (first | (with_reducible first | exact HB.out | apply below_alloc | apply pw_below_drewN | apply below_drew1) | exact HB.out)) hb); clear HB; have HO281 := n0_; have HO284 := n1_; have HB := n2_; clear n0_ n1_ n2_; (try clear hb); (try clear hb2); (try clear hk); (try clear hi); (try clear ho0); (try clear ho1)) | ((with_reducible refine gate_dst (N := 3) rfl ?_); refine box_event ?hg (N := 3) ?hd (cs := #[.int .i64 0, .int .i64 0, .int .i64 0, .slice none 0 0, .slice none 0 0]) (t := 28) ?hr ?_; (case hd => rfl); (case hg => rfl); (case hr => first | (go_simp; done) | (go_simp; rfl)); intro gb286 hg w17 hbox hb; have n0_ := Aside0.mk (Kd.R_below (by (with_reducible repeat (first | apply Kd.R_alloc | apply Kd.R_drewN | apply Kd.R_drew)); exact HO281.out) hb); have n1_ := Aside0.mk (Kd.R_below (Kd.R_elderB (by (with_reducible repeat (first | apply Kd.R_alloc | apply Kd.R_drewN | apply Kd.R_drew)); exact HO284.out) gb286 (Nat.le_of_eq hg.symm)) hb); have n2_ := Aside0.mk (below_step (by repeat (first | (with_reducible first | exact HB.out | apply below_alloc | apply pw_below_drewN | apply below_drew1) | exact HB.out)) hb); have n3_ := Aside0.mk (hbox); have n4_ := Aside0.mk ((by rw [hg]; exact (below_size (by repeat (first | (with_reducible first | exact HB.out | apply below_alloc | apply pw_below_drewN | apply below_drew1) | exact HB.out))) : w.heap.size ≤ gb286)); have n5_ := Aside0.mk ((by rw [hg]; exact (below_size (by repeat (first | (with_reducible first | exact HB.out | apply below_alloc | apply pw_below_drewN | apply below_drew1) | exact HB.out))) : w.heap.size ≤ gb286)); clear HO281; clear HO284; clear HB; have HO281 := n0_; have HO284 := n1_; have HB := n2_; have BK286 := n3_; have GW286 := n4_; have GE286 := n5_; clear n0_ n1_ n2_ n3_ n4_ n5_; clear hb hbox hg; have hcz18_0 : w17.cell? ⟨gb286, 0, none⟩ = some (.int .i64 0) := (blk_cell BK286.out 0).trans rfl; have hcz18_1 : w17.cell? ⟨gb286, 1, none⟩ = some (.int .i64 0) := (blk_cell BK286.out 1).trans rfl; have hcz18_2 : w17.cell? ⟨gb286, 2, none⟩ = some (.int .i64 0) := (blk_cell BK286.out 2).trans rfl; have hcz18_3 : w17.cell? ⟨gb286, 3, none⟩ = some (.slice none 0 0) := (blk_cell BK286.out 3).trans rfl; have hcz18_4 : w17.cell? ⟨gb286, 4, none⟩ = some (.slice none 0 0) := (blk_cell BK286.out 4).trans rfl; have hfz18_0 := blk_frozen BK286.out 0; have hfz18_1 := blk_frozen BK286.out 1; have hfz18_2 := blk_frozen BK286.out 2; have hfz18_3 := blk_frozen BK286.out 3; have hfz18_4 := blk_frozen BK286.out 4; obtain ⟨Ao19, co19, eo19⟩ := Kd.R_slice HO281.out; subst eo19; obtain ⟨Ao20, co20, eo20⟩ := Kd.R_slice HO284.out; subst eo20))
      have n0_ : Aside0 (Kd.R k55 55 (((((w17.setCell ⟨gb286, 0, none⟩ (.int .i64 t276)).setCell ⟨gb286, 1, none⟩ (.int .i64 t277)).setCell ⟨gb286, 2, none⟩ (.int .i64 t278)).setCell ⟨gb286, 3, none⟩ (.slice Ao19 t279.length co19)).setCell ⟨gb286, 4, none⟩ (.slice Ao20 t282.length co20)) w.heap.size (fun _ => True) (.slice Ao19 t279.length co19) t279) := ⟨by (with_reducible repeat (first | apply Kd.R_alloc | apply Kd.R_drewN | apply Kd.R_drew)); exact Kd.R_mono (Kd.R_far (p := ⟨gb286, 4, none⟩) (Kd.R_far (p := ⟨gb286, 3, none⟩) (Kd.R_far (p := ⟨gb286, 2, none⟩) (Kd.R_far (p := ⟨gb286, 1, none⟩) (Kd.R_far (p := ⟨gb286, 0, none⟩) (Kd.R_types HO281.out BK286.out (by decide)) (fun _ hk => hk.2) (.int .i64 t276)) (fun _ hk => hk.2) (.int .i64 t277)) (fun _ hk => hk.2) (.int .i64 t278)) (fun _ hk => hk.2) (.slice Ao19 t279.length co19)) (fun _ hk => hk.2) (.slice Ao20 t282.length co20)) (fun _ hk => trivial)⟩
      have n1_ : Aside0 (Kd.R k28 28 (((((w17.setCell ⟨gb286, 0, none⟩ (.int .i64 t276)).setCell ⟨gb286, 1, none⟩ (.int .i64 t277)).setCell ⟨gb286, 2, none⟩ (.int .i64 t278)).setCell ⟨gb286, 3, none⟩ (.slice Ao19 t279.length co19)).setCell ⟨gb286, 4, none⟩ (.slice Ao20 t282.length co20)) w.heap.size (fun k_ => some k_ ≠ (.slice Ao19 t279.length co19 : Value).ownBlock ∧ k_ ≠ gb286) (.slice Ao20 t282.length co20) t282) := ⟨by (with_reducible repeat (first | apply Kd.R_alloc | apply Kd.R_drewN | apply Kd.R_drew)); exact Kd.R_mono (Kd.R_far (p := ⟨gb286, 4, none⟩) (Kd.R_far (p := ⟨gb286, 3, none⟩) (Kd.R_far (p := ⟨gb286, 2, none⟩) (Kd.R_far (p := ⟨gb286, 1, none⟩) (Kd.R_far (p := ⟨gb286, 0, none⟩) (Kd.R_mono HO284.out (fun k_ hk => (⟨hk, hk.2⟩ : _ ∧ k_ ≠ gb286))) (fun _ hk => hk.2) (.int .i64 t276)) (fun _ hk => hk.2) (.int .i64 t277)) (fun _ hk => hk.2) (.int .i64 t278)) (fun _ hk => hk.2) (.slice Ao19 t279.length co19)) (fun _ hk => hk.2) (.slice Ao20 t282.length co20)) (fun _ hk => ⟨hk.1.1, hk.1.2⟩)⟩
      have n2_ : Aside0 ((((((w17.setCell ⟨gb286, 0, none⟩ (.int .i64 t276)).setCell ⟨gb286, 1, none⟩ (.int .i64 t277)).setCell ⟨gb286, 2, none⟩ (.int .i64 t278)).setCell ⟨gb286, 3, none⟩ (.slice Ao19 t279.length co19)).setCell ⟨gb286, 4, none⟩ (.slice Ao20 t282.length co20)).heap[gb286]? = some (.cells #[.int .i64 t276, .int .i64 t277, .int .i64 t278, .slice Ao19 t279.length co19, .slice Ao20 t282.length co20] 28 (0, 0))) := ⟨by (with_reducible repeat (first | refine blk_drewN ?_ _ | refine blk_drew ?_ | refine blk_alloc ?_ _)); refine blk_put (cs := #[.int .i64 t276, .int .i64 t277, .int .i64 t278, .slice Ao19 t279.length co19, .slice none 0 0]) ?_ 4 _ rfl; (with_reducible repeat (first | refine blk_drewN ?_ _ | refine blk_drew ?_ | refine blk_alloc ?_ _)); refine blk_put (cs := #[.int .i64 t276, .int .i64 t277, .int .i64 t278, .slice none 0 0, .slice none 0 0]) ?_ 3 _ rfl; (with_reducible repeat (first | refine blk_drewN ?_ _ | refine blk_drew ?_ | refine blk_alloc ?_ _)); refine blk_put (cs := #[.int .i64 t276, .int .i64 t277, .int .i64 0, .slice none 0 0, .slice none 0 0]) ?_ 2 _ rfl; (with_reducible repeat (first | refine blk_drewN ?_ _ | refine blk_drew ?_ | refine blk_alloc ?_ _)); refine blk_put (cs := #[.int .i64 t276, .int .i64 0, .int .i64 0, .slice none 0 0, .slice none 0 0]) ?_ 1 _ rfl; (with_reducible repeat (first | refine blk_drewN ?_ _ | refine blk_drew ?_ | refine blk_alloc ?_ _)); refine blk_put (cs := #[.int .i64 0, .int .i64 0, .int .i64 0, .slice none 0 0, .slice none 0 0]) ?_ 0 _ rfl; (with_reducible repeat (first | refine blk_drewN ?_ _ | refine blk_drew ?_ | refine blk_alloc ?_ _)); exact BK286.out⟩
      have n3_ : Aside0 (Below w.heap.size w (((((w17.setCell ⟨gb286, 0, none⟩ (.int .i64 t276)).setCell ⟨gb286, 1, none⟩ (.int .i64 t277)).setCell ⟨gb286, 2, none⟩ (.int .i64 t278)).setCell ⟨gb286, 3, none⟩ (.slice Ao19 t279.length co19)).setCell ⟨gb286, 4, none⟩ (.slice Ao20 t282.length co20))) := ⟨by repeat (first | (with_reducible first | exact HB.out | apply below_alloc | apply pw_below_drewN | apply below_drew1 | refine below_set ?_ GE286.out) | exact HB.out)⟩
      (try clear HO281)
      (try clear HO284)
      (try clear BK286)
      (try clear HB)
      generalize (((((w17.setCell ⟨gb286, 0, none⟩ (.int .i64 t276)).setCell ⟨gb286, 1, none⟩ (.int .i64 t277)).setCell ⟨gb286, 2, none⟩ (.int .i64 t278)).setCell ⟨gb286, 3, none⟩ (.slice Ao19 t279.length co19)).setCell ⟨gb286, 4, none⟩ (.slice Ao20 t282.length co20)) = w21 at n0_ n1_ n2_ n3_ ⊢
      have HO281 := n0_
      have HO284 := n1_
      have BK286 := n2_
      have HB := n3_
      clear n0_ n1_ n2_ n3_
      have n0_ := Aside0.mk (Kd.R_drew HO281.out)
      have n1_ := Aside0.mk (Kd.R_drew HO284.out)
      have n2_ := Aside0.mk (blk_drew BK286.out)
      have n3_ := Aside0.mk (below_drew1 HB.out)
      clear HO281
      clear HO284
      clear BK286
      clear HB
      have HO281 := n0_
      have HO284 := n1_
      have BK286 := n2_
      have HB := n3_
      clear n0_ n1_ n2_ n3_
      refine start_ (n := 11) (S := fun w' => True) (ds := []) #[false, false, false, false, false, false, false, false, false, false, false] (by kernel_rfl) rfl rfl trivial (fun hHeld => ?_); refine with_tabW laws_FnPrUglyInPlace.tab4 laws_FnPrUglyInPlace.bits4 (fun HT_ HW_ => ?_)
      generalize w21.drew = w22 at HO281 HO284 BK286 HB hHeld ⊢
      refine pure_ (i := 0) (N := some 13) (v := ?_) (a' := ?_) #[true, false, false, false, false, false, false, false, false, false, false] rfl rfl (any_of HT_.out (by kernel_rfl)) (fun _ _ _ h => h) (Or.inl ⟨by rfl, ?_⟩) ?_ ?_
      rotate_left
      · intro w'
        go_simp
        with_reducible rfl
      rotate_left
      · simp only [Act.put, List.setIfInBounds_toArray, List.set_cons_zero, List.set_cons_succ, i64_w, i32_w]
        rfl
      refine pure_ (i := 1) (N := some 14) (v := ?_) (a' := ?_) #[true, true, false, false, false, false, false, false, false, false, false] rfl rfl (any_of HT_.out (by kernel_rfl)) (fun _ _ _ h => h) (Or.inl ⟨by rfl, ?_⟩) ?_ ?_
      rotate_left
      · intro w'
        go_simp
        with_reducible rfl
      rotate_left
      · simp only [Act.put, List.setIfInBounds_toArray, List.set_cons_zero, List.set_cons_succ, i64_w, i32_w]
        rfl
      refine pure_ (i := 2) (N := some 15) (v := ?_) (a' := ?_) #[true, true, true, false, false, false, false, false, false, false, false] rfl rfl (any_of HT_.out (by kernel_rfl)) (fun _ _ _ h => h) (Or.inl ⟨by rfl, ?_⟩) ?_ ?_
      rotate_left
      · intro w'
        go_simp
        with_reducible rfl
      rotate_left
      · simp only [Act.put, List.setIfInBounds_toArray, List.set_cons_zero, List.set_cons_succ, i64_w, i32_w]
        rfl
      refine pure_ (i := 3) (N := some 16) (v := undef) (a' := ?_) #[true, true, true, true, false, false, false, false, false, false, false] rfl rfl (any_of HT_.out (by kernel_rfl)) (fun _ _ _ h => h) (Or.inr ⟨by rfl, rfl⟩) ?_ ?_
      rotate_left
      · simp only [Act.put, List.setIfInBounds_toArray, List.set_cons_zero, List.set_cons_succ, i64_w, i32_w]
        rfl
      refine pure_ (i := 4) (N := some 17) (v := undef) (a' := ?_) #[true, true, true, true, true, false, false, false, false, false, false] rfl rfl (any_of HT_.out (by kernel_rfl)) (fun _ _ _ h => h) (Or.inr ⟨by rfl, rfl⟩) ?_ ?_
      rotate_left
      · simp only [Act.put, List.setIfInBounds_toArray, List.set_cons_zero, List.set_cons_succ, i64_w, i32_w]
        rfl
      refine pure_ (i := 5) (N := some 18) (v := undef) (a' := ?_) #[true, true, true, true, true, true, false, false, false, false, false] rfl rfl (any_of HT_.out (by kernel_rfl)) (fun _ _ _ h => h) (Or.inr ⟨by rfl, rfl⟩) ?_ ?_
      rotate_left
      · simp only [Act.put, List.setIfInBounds_toArray, List.set_cons_zero, List.set_cons_succ, i64_w, i32_w]
        rfl
      refine pure_ (i := 6) (N := some 19) (v := undef) (a' := ?_) #[true, true, true, true, true, true, true, false, false, false, false] rfl rfl (any_of HT_.out (by kernel_rfl)) (fun _ _ _ h => h) (Or.inr ⟨by rfl, rfl⟩) ?_ ?_
      rotate_left
      · simp only [Act.put, List.setIfInBounds_toArray, List.set_cons_zero, List.set_cons_succ, i64_w, i32_w]
        rfl
      refine pure_ (i := 7) (N := some 20) (v := undef) (a' := ?_) #[true, true, true, true, true, true, true, true, false, false, false] rfl rfl (any_of HT_.out (by kernel_rfl)) (fun _ _ _ h => h) (Or.inr ⟨by rfl, rfl⟩) ?_ ?_
      rotate_left
      · simp only [Act.put, List.setIfInBounds_toArray, List.set_cons_zero, List.set_cons_succ, i64_w, i32_w]
        rfl
      refine pure_ (i := 8) (N := some 21) (v := undef) (a' := ?_) #[true, true, true, true, true, true, true, true, true, false, false] rfl rfl (any_of HT_.out (by kernel_rfl)) (fun _ _ _ h => h) (Or.inr ⟨by rfl, rfl⟩) ?_ ?_
      rotate_left
      · simp only [Act.put, List.setIfInBounds_toArray, List.set_cons_zero, List.set_cons_succ, i64_w, i32_w]
        rfl
      refine pure_ (i := 9) (N := some 22) (v := ?_) (a' := ?_) #[true, true, true, true, true, true, true, true, true, true, false] rfl rfl (any_of HT_.out (by kernel_rfl)) (fun _ _ _ h => h) (Or.inl ⟨by rfl, ?_⟩) ?_ ?_
      rotate_left
      · intro w'
        go_simp
        with_reducible rfl
      rotate_left
      · simp only [Act.put, List.setIfInBounds_toArray, List.set_cons_zero, List.set_cons_succ, i64_w, i32_w]
        rfl
      refine pure_ (i := 10) (N := some 2) (v := ?_) (a' := ?_) #[true, true, true, true, true, true, true, true, true, true, true] rfl rfl (any_of HT_.out (by kernel_rfl)) (fun _ _ _ h => h) (Or.inl ⟨by rfl, ?_⟩) ?_ ?_
      rotate_left
      · intro w'
        go_simp
        with_reducible rfl
      rotate_left
      · simp only [Act.put, List.setIfInBounds_toArray, List.set_cons_zero, List.set_cons_succ, i64_w, i32_w]
        rfl
      refine done_ (done_of HT_.out (by kernel_rfl)) ?_
      try go_wp2
      go_ret
      exact ⟨by first | rfl | (simp [errW_none, errW_some] <;> rfl) | (simp [*, errW_none, errW_some] <;> rfl), by repeat (first | (with_reducible first | exact HB.out | apply below_alloc | apply pw_below_drewN | apply below_drew1 | refine below_set ?_ GE286.out) | exact HB.out)⟩

/-- THE ONE PURE STATEMENT of laws_FnPrUglyInPlace: yours. -/
def laws_FnPrUglyInPlace.Pure : Prop := ∀ (a0 : ByteArray), a0.size ≤ 140737488351232 → ∃ k, laws_FnPrUglyInPlace.f k a0 = some true
theorem laws_FnPrUglyInPlace.walk (P : laws_FnPrUglyInPlace.Pure) (a0 : ByteArray) (w : World) (w0 : a0.size ≤ 140737488351232) :
    Calls Try.prog 4 #[.string a0] w fun e w' => e = .returned (.bool true) ∧ Below w.heap.size w w' := by
  obtain ⟨k, h⟩ := P a0 w0
  refine (laws_FnPrUglyInPlace.calls k a0 true w h).mono ?_
  rintro e w' ⟨rfl, hd⟩
  exact ⟨rfl, hd⟩

end Go.Proofs.Ytbppoiedaojjmaa.PFnPrUglyInPlace
