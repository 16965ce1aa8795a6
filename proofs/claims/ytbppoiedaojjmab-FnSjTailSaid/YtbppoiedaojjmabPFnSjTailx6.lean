/- Written by a program of this session (a turned copy of the print) out of the translation. -/
import Derived.Test.YtbppoiedaojjmabPFnSjTailx0
import Derived.Test.YtbppoiedaojjmabPFnSjTailx4
import Derived.Test.YtbppoiedaojjmabPFnSjTailx5
namespace Go.Proofs.Ytbppoiedaojjmab.PFnSjTail
open Go.RowKit Go.Proofs.YtbppoiedaojjmabW.PrintWords Go.Proofs.YtbppoiedaojjmabW.PrintLast Go.Proofs.YtbppoiedaojjmabW.PrintMore
attribute [local go_sem] max2_int min2_int max_two min_two max_three min_three max_four min_four   -- for this text's walks alone
set_option linter.unusedVariables false
set_option linter.unusedSimpArgs false

/-! ### laws_FnSjTail: function 3 -/
mutual
def laws_FnSjTail.j0 : Nat → ByteArray → Bool → Int → Int → Int → List (S31) → List (S25) → Option (Bool)
  | 0, _, _, _, _, _, _, _ => none
  | k + 1, x0, x29, x290000, x290001, x290002, x290003, x290004 => if x29 = true then (some true) else ((spec_Bare.f x0 x290000 x290001 x290002 x290003 x290004).bind fun t290 => ((spec_Places.f k t290).bind fun bt291 => ((spec_All.f k bt291.1 bt291.2.1 bt291.2.2.1 bt291.2.2.2.1 bt291.2.2.2.2.1).bind fun t301 => (laws_FnSjTail.l0 k t290 t301 (t301.length : Int) 0))))
def laws_FnSjTail.l0 : Nat → ByteArray → List (S25) → Int → Int → Option (Bool)
  | 0, _, _, _, _ => none
  | k + 1, x5, x39, x40, x41 => if x41 < x40 then (if 0 ≤ x41 then (if x41 < (x39.length : Int) then (laws_FnSjTail.l1 k x5 x39 x40 x41 (((rd_T25 x39 x41).f4).length : Int) 0 ((rd_T25 x39 x41).f0) ((rd_T25 x39 x41).f1) ((rd_T25 x39 x41).f2) ((rd_T25 x39 x41).f3) ((rd_T25 x39 x41).f4)) else (none)) else (none)) else ((impl_SjTail.f (⟨#[91]⟩ : ByteArray)).bind fun bt304 => (if bt304.1.toList = ([91] : List UInt8) then (some bt304.2) else (some false)))
def laws_FnSjTail.l1 : Nat → ByteArray → List (S25) → Int → Int → Int → Int → Int → Int → Int → List (S31) → List (S25) → Option (Bool)
  | 0, _, _, _, _, _, _, _, _, _, _, _ => none
  | k + 1, x5, x39, x40, x41, x47, x48, x308000, x308001, x308002, x308003, x308004 => if x48 < x47 then (if x308000 = 6 then (if 0 ≤ x48 then (if x48 < (x308003.length : Int) then (if 0 ≤ (wrap64 (((rd_T31 x308003 x48).f0) + 1)) then (if (wrap64 (((rd_T31 x308003 x48).f0) + 1)) < (x5.size : Int) then (laws_FnSjTail.j3 k x5 x48 x39 x40 x41 x47 x48 ((bt x5 (wrap64 (((rd_T31 x308003 x48).f0) + 1))) == 92) x308000 x308001 x308002 x308003 x308004) else (none)) else (none)) else (none)) else (none)) else (laws_FnSjTail.j3 k x5 x48 x39 x40 x41 x47 x48 false x308000 x308001 x308002 x308003 x308004)) else (laws_FnSjTail.l0 k x5 x39 x40 (wrap64 (x41 + 1)))
def laws_FnSjTail.j3 : Nat → ByteArray → Int → List (S25) → Int → Int → Int → Int → Bool → Int → Int → Int → List (S31) → List (S25) → Option (Bool)
  | 0, _, _, _, _, _, _, _, _, _, _, _, _, _ => none
  | k + 1, x5, x8, x39, x40, x41, x47, x48, x65, x308000, x308001, x308002, x308003, x308004 => if x65 = true then (laws_FnSjTail.l1 k x5 x39 x40 x41 x47 (wrap64 (x48 + 1)) x308000 x308001 x308002 x308003 x308004) else (if x8 > 0 then (if 0 ≤ (wrap64 (x8 - 1)) then (if (wrap64 (x8 - 1)) < (x308004.length : Int) then (if 0 ≤ x8 then (if x8 < (x308004.length : Int) then (if 0 ≤ ((rd_T25 x308004 x8).f1) then (if ((rd_T25 x308004 x8).f1) ≤ (x5.size : Int) then ((impl_SjTail.f (x5.extract 0 (((rd_T25 x308004 x8).f1) : Int).toNat)).bind fun bt311 => (if 0 ≤ ((rd_T25 x308004 (wrap64 (x8 - 1))).f2) then (if ((rd_T25 x308004 (wrap64 (x8 - 1))).f2) ≤ (x5.size : Int) then (if bt311.1.toList = (x5.extract 0 (((rd_T25 x308004 (wrap64 (x8 - 1))).f2) : Int).toNat).toList then (if (bt311.2 != (x8 == 0)) = true then (some false) else (laws_FnSjTail.l1 k x5 x39 x40 x41 x47 (wrap64 (x48 + 1)) x308000 x308001 x308002 x308003 x308004)) else (some false)) else (none)) else (none))) else (none)) else (none)) else (none)) else (none)) else (none)) else (none)) else (if 0 ≤ x8 then (if x8 < (x308004.length : Int) then (if 0 ≤ ((rd_T25 x308004 x8).f1) then (if ((rd_T25 x308004 x8).f1) ≤ (x5.size : Int) then ((impl_SjTail.f (x5.extract 0 (((rd_T25 x308004 x8).f1) : Int).toNat)).bind fun bt314 => (if 0 ≤ (wrap64 (x308001 + 1)) then (if (wrap64 (x308001 + 1)) ≤ (x5.size : Int) then (if bt314.1.toList = (x5.extract 0 ((wrap64 (x308001 + 1)) : Int).toNat).toList then (if (bt314.2 != (x8 == 0)) = true then (some false) else (laws_FnSjTail.l1 k x5 x39 x40 x41 x47 (wrap64 (x48 + 1)) x308000 x308001 x308002 x308003 x308004)) else (some false)) else (none)) else (none))) else (none)) else (none)) else (none)) else (none)))
end
def laws_FnSjTail.f (k : Nat) (a0 : ByteArray) : Option (Bool) := if (a0.size : Int) > 2147483647 then (some true) else ((spec_Places.f k a0).bind fun bt279 => (if bt279.2.2.2.2.2 = true then (laws_FnSjTail.j0 k a0 (decide ((a0.size : Int) > 4096)) bt279.1 bt279.2.1 bt279.2.2.1 bt279.2.2.2.1 bt279.2.2.2.2.1) else (laws_FnSjTail.j0 k a0 true bt279.1 bt279.2.1 bt279.2.2.1 bt279.2.2.2.1 bt279.2.2.2.2.1)))
theorem laws_FnSjTail.mono_l : ∀ k, (∀ y0 y1 y2 y3 y4 y5 y6, LeO (laws_FnSjTail.j0 k y0 y1 y2 y3 y4 y5 y6) (laws_FnSjTail.j0 (k + 1) y0 y1 y2 y3 y4 y5 y6)) ∧ (∀ y0 y1 y2 y3, LeO (laws_FnSjTail.l0 k y0 y1 y2 y3) (laws_FnSjTail.l0 (k + 1) y0 y1 y2 y3)) ∧ (∀ y0 y1 y2 y3 y4 y5 y6 y7 y8 y9 y10, LeO (laws_FnSjTail.l1 k y0 y1 y2 y3 y4 y5 y6 y7 y8 y9 y10) (laws_FnSjTail.l1 (k + 1) y0 y1 y2 y3 y4 y5 y6 y7 y8 y9 y10)) ∧ (∀ y0 y1 y2 y3 y4 y5 y6 y7 y8 y9 y10 y11 y12, LeO (laws_FnSjTail.j3 k y0 y1 y2 y3 y4 y5 y6 y7 y8 y9 y10 y11 y12) (laws_FnSjTail.j3 (k + 1) y0 y1 y2 y3 y4 y5 y6 y7 y8 y9 y10 y11 y12))
  | 0 => ⟨fun _ _ _ _ _ _ _ r h => by simp [laws_FnSjTail.j0] at h, fun _ _ _ _ r h => by simp [laws_FnSjTail.l0] at h, fun _ _ _ _ _ _ _ _ _ _ _ r h => by simp [laws_FnSjTail.l1] at h, fun _ _ _ _ _ _ _ _ _ _ _ _ _ r h => by simp [laws_FnSjTail.j3] at h⟩
  | k + 1 => by
    obtain ⟨ih0, ih1, ih2, ih3⟩ := laws_FnSjTail.mono_l k
    refine ⟨?_, ?_, ?_, ?_⟩
    · intro y0 y1 y2 y3 y4 y5 y6
      unfold laws_FnSjTail.j0
      repeat' first
      | (with_reducible exact ih0 _ _ _ _ _ _ _)
      | (with_reducible exact ih1 _ _ _ _)
      | (with_reducible exact ih2 _ _ _ _ _ _ _ _ _ _ _)
      | (with_reducible exact ih3 _ _ _ _ _ _ _ _ _ _ _ _ _)
      | (with_reducible exact spec_All.mono _ _ _ _ _ _)
      | (with_reducible exact spec_Places.mono _ _)
      | (with_reducible exact LeO.refl _)
      | (with_reducible exact LeO.none _)
      | (with_reducible refine LeO.ite ?_ ?_)
      | (with_reducible refine LeO.bind ?_ (fun _ => ?_))
      | exact ih0 _ _ _ _ _ _ _
      | exact ih1 _ _ _ _
      | exact ih2 _ _ _ _ _ _ _ _ _ _ _
      | exact ih3 _ _ _ _ _ _ _ _ _ _ _ _ _
      | exact spec_All.mono _ _ _ _ _ _
      | exact spec_Places.mono _ _
      | exact LeO.none _
      | refine LeO.ite ?_ ?_
      | refine LeO.bind ?_ (fun _ => ?_)
    · intro y0 y1 y2 y3
      unfold laws_FnSjTail.l0
      repeat' first
      | (with_reducible exact ih0 _ _ _ _ _ _ _)
      | (with_reducible exact ih1 _ _ _ _)
      | (with_reducible exact ih2 _ _ _ _ _ _ _ _ _ _ _)
      | (with_reducible exact ih3 _ _ _ _ _ _ _ _ _ _ _ _ _)
      | (with_reducible exact spec_All.mono _ _ _ _ _ _)
      | (with_reducible exact spec_Places.mono _ _)
      | (with_reducible exact LeO.refl _)
      | (with_reducible exact LeO.none _)
      | (with_reducible refine LeO.ite ?_ ?_)
      | (with_reducible refine LeO.bind ?_ (fun _ => ?_))
      | exact ih0 _ _ _ _ _ _ _
      | exact ih1 _ _ _ _
      | exact ih2 _ _ _ _ _ _ _ _ _ _ _
      | exact ih3 _ _ _ _ _ _ _ _ _ _ _ _ _
      | exact spec_All.mono _ _ _ _ _ _
      | exact spec_Places.mono _ _
      | exact LeO.none _
      | refine LeO.ite ?_ ?_
      | refine LeO.bind ?_ (fun _ => ?_)
    · intro y0 y1 y2 y3 y4 y5 y6 y7 y8 y9 y10
      unfold laws_FnSjTail.l1
      repeat' first
      | (with_reducible exact ih0 _ _ _ _ _ _ _)
      | (with_reducible exact ih1 _ _ _ _)
      | (with_reducible exact ih2 _ _ _ _ _ _ _ _ _ _ _)
      | (with_reducible exact ih3 _ _ _ _ _ _ _ _ _ _ _ _ _)
      | (with_reducible exact spec_All.mono _ _ _ _ _ _)
      | (with_reducible exact spec_Places.mono _ _)
      | (with_reducible exact LeO.refl _)
      | (with_reducible exact LeO.none _)
      | (with_reducible refine LeO.ite ?_ ?_)
      | (with_reducible refine LeO.bind ?_ (fun _ => ?_))
      | exact ih0 _ _ _ _ _ _ _
      | exact ih1 _ _ _ _
      | exact ih2 _ _ _ _ _ _ _ _ _ _ _
      | exact ih3 _ _ _ _ _ _ _ _ _ _ _ _ _
      | exact spec_All.mono _ _ _ _ _ _
      | exact spec_Places.mono _ _
      | exact LeO.none _
      | refine LeO.ite ?_ ?_
      | refine LeO.bind ?_ (fun _ => ?_)
    · intro y0 y1 y2 y3 y4 y5 y6 y7 y8 y9 y10 y11 y12
      unfold laws_FnSjTail.j3
      repeat' first
      | (with_reducible exact ih0 _ _ _ _ _ _ _)
      | (with_reducible exact ih1 _ _ _ _)
      | (with_reducible exact ih2 _ _ _ _ _ _ _ _ _ _ _)
      | (with_reducible exact ih3 _ _ _ _ _ _ _ _ _ _ _ _ _)
      | (with_reducible exact spec_All.mono _ _ _ _ _ _)
      | (with_reducible exact spec_Places.mono _ _)
      | (with_reducible exact LeO.refl _)
      | (with_reducible exact LeO.none _)
      | (with_reducible refine LeO.ite ?_ ?_)
      | (with_reducible refine LeO.bind ?_ (fun _ => ?_))
      | exact ih0 _ _ _ _ _ _ _
      | exact ih1 _ _ _ _
      | exact ih2 _ _ _ _ _ _ _ _ _ _ _
      | exact ih3 _ _ _ _ _ _ _ _ _ _ _ _ _
      | exact spec_All.mono _ _ _ _ _ _
      | exact spec_Places.mono _ _
      | exact LeO.none _
      | refine LeO.ite ?_ ?_
      | refine LeO.bind ?_ (fun _ => ?_)
theorem laws_FnSjTail.mono : ∀ a0 k, LeO (laws_FnSjTail.f k a0) (laws_FnSjTail.f (k + 1) a0) := by
  intro a0 k
  obtain ⟨ih0, ih1, ih2, ih3⟩ := laws_FnSjTail.mono_l k
  unfold laws_FnSjTail.f
  repeat' first
      | (with_reducible exact ih0 _ _ _ _ _ _ _)
      | (with_reducible exact ih1 _ _ _ _)
      | (with_reducible exact ih2 _ _ _ _ _ _ _ _ _ _ _)
      | (with_reducible exact ih3 _ _ _ _ _ _ _ _ _ _ _ _ _)
      | (with_reducible exact spec_All.mono _ _ _ _ _ _)
      | (with_reducible exact spec_Places.mono _ _)
      | (with_reducible exact LeO.refl _)
      | (with_reducible exact LeO.none _)
      | (with_reducible refine LeO.ite ?_ ?_)
      | (with_reducible refine LeO.bind ?_ (fun _ => ?_))
      | exact ih0 _ _ _ _ _ _ _
      | exact ih1 _ _ _ _
      | exact ih2 _ _ _ _ _ _ _ _ _ _ _
      | exact ih3 _ _ _ _ _ _ _ _ _ _ _ _ _
      | exact spec_All.mono _ _ _ _ _ _
      | exact spec_Places.mono _ _
      | exact LeO.none _
      | refine LeO.ite ?_ ?_
      | refine LeO.bind ?_ (fun _ => ?_)
set_option maxHeartbeats 8000000 in
set_option maxRecDepth 100000 in
theorem laws_FnSjTail.calls (k : Nat) (a0 : ByteArray) (r : Bool) (w : World) (h : laws_FnSjTail.f k a0 = some r) :
    Calls Try.prog 3 #[.string a0] w fun e w' => e = .returned (.bool r) ∧ Below w.heap.size w w' := by
  have hu25 := Try.underlying25
  have HB := Aside0.mk (Below.refl w.heap.size w)
  have H : (if (a0.size : Int) > 2147483647 then (some true) else ((spec_Places.f k a0).bind fun bt279 => (if bt279.2.2.2.2.2 = true then (laws_FnSjTail.j0 k a0 (decide ((a0.size : Int) > 4096)) bt279.1 bt279.2.1 bt279.2.2.1 bt279.2.2.2.1 bt279.2.2.2.2.1) else (laws_FnSjTail.j0 k a0 true bt279.1 bt279.2.1 bt279.2.2.1 bt279.2.2.2.1 bt279.2.2.2.2.1)))) = some r := h
  clear h
  by_cases c2 : (a0.size : Int) > 2147483647
  · rw [if_pos c2] at H
    have c2b0 : decide (2147483647 < (a0.size : Int)) = true := decide_eq_true c2
    have c2b1 : decide (2147483647 < a0.size) = true := decide_eq_true (by omega)
    clear c2
    obtain rfl := Option.some.inj H
    go_enter Try.func3, Try.ntmps3
    go_wp2
    go_ret
    exact ⟨by first | rfl | (simp [errW_none, errW_some] <;> rfl) | (simp [*, errW_none, errW_some] <;> rfl), by repeat (first | (with_reducible first | exact HB.out | apply below_alloc | apply pw_below_drewN | apply below_drew1) | exact HB.out)⟩
  · rw [if_neg c2] at H
    have c2b0 : decide (2147483647 < (a0.size : Int)) = false := decide_eq_false c2
    have c2b1 : decide (2147483647 < a0.size) = false := decide_eq_false (by omega)
    clear c2
    replace H := Option.bind_eq_some_iff.mp H
    obtain ⟨⟨t279, t280, t281, t282, t285, t288⟩, A30, H⟩ := H
    replace H : (if t288 = true then (laws_FnSjTail.j0 k a0 (decide ((a0.size : Int) > 4096)) t279 t280 t281 t282 t285) else (laws_FnSjTail.j0 k a0 true t279 t280 t281 t282 t285)) = some r := H
    have A3 := Aside0.mk A30
    clear A30
    have HC4 := Aside0.mk H
    clear H
    go_enter Try.func3, Try.ntmps3
    go_upto_region 4 with (first | ((with_reducible refine gate_callee (f := 4) rfl ?_); refine goesL_ (some 20) rfl rfl Try.func4 (by kernel_rfl) rfl #[.string a0] rfl (by (try simp only [List.map_toArray, List.map_cons, List.map_nil]); first | done | rfl | (simp only [List.length_drop, List.length_take]; rfl)) ?_; (with_reducible refine (spec_Places.calls k a0 t279 t280 t281 t282 t285 t288 _ A3.out).mono ?_); rintro e w5 ⟨v283, v286, rfl, ho0, ho1, hb⟩; refine ⟨_, rfl, ?_⟩; have n0_ := Aside0.mk (Kd.R_lower ho0 (below_size (by repeat (first | (with_reducible first | exact HB.out | apply below_alloc | apply pw_below_drewN | apply below_drew1) | exact HB.out)))); have n1_ := Aside0.mk (Kd.N_lower (Kd.N_mono (ok' := fun k_ => some k_ ≠ (v283 : Value).ownBlock) (Kd.R_N (Kd.R_bound ho1)) (fun k_ hk_ => hk_.1)) (below_size (by repeat (first | (with_reducible first | exact HB.out | apply below_alloc | apply pw_below_drewN | apply below_drew1) | exact HB.out)))); have n2_ := Aside0.mk (below_step (by repeat (first | (with_reducible first | exact HB.out | apply below_alloc | apply pw_below_drewN | apply below_drew1) | exact HB.out)) hb); clear HB; have HO284 := n0_; have HO287 := n1_; have HB := n2_; clear n0_ n1_ n2_; (try clear hb); (try clear hb2); (try clear hk); (try clear hi); (try clear ho0); (try clear ho1)) | ((with_reducible refine gate_dst (N := 3) rfl ?_); (try (refine gate_guard (by rfl) ?_; dsimp only)); refine box_event ?hg (N := 3) ?hd (cs := #[.int .i64 0, .int .i64 0, .int .i64 0, .slice none 0 0, .slice none 0 0]) (t := 25) ?hr ?_; (case hd => rfl); (case hg => rfl); (case hr => first | (go_simp; done) | (go_simp; rfl)); intro gb289 hg w6 hbox hb; have n0_ := Aside0.mk (Kd.R_below (by (with_reducible repeat (first | apply Kd.R_alloc | apply Kd.R_drewN | apply Kd.R_drew)); exact HO284.out) hb); have n1_ := Aside0.mk (Kd.N_below (Kd.N_elderB (by (with_reducible repeat (first | apply Kd.N_alloc | apply Kd.N_drewN | apply Kd.N_drew)); exact HO287.out) gb289 (Nat.le_of_eq hg.symm)) hb); have n2_ := Aside0.mk (below_step (by repeat (first | (with_reducible first | exact HB.out | apply below_alloc | apply pw_below_drewN | apply below_drew1) | exact HB.out)) hb); have n3_ := Aside0.mk (hbox); have n4_ := Aside0.mk ((by rw [hg]; exact (below_size (by repeat (first | (with_reducible first | exact HB.out | apply below_alloc | apply pw_below_drewN | apply below_drew1) | exact HB.out))) : w.heap.size ≤ gb289)); have n5_ := Aside0.mk ((by rw [hg]; exact (below_size (by repeat (first | (with_reducible first | exact HB.out | apply below_alloc | apply pw_below_drewN | apply below_drew1) | exact HB.out))) : w.heap.size ≤ gb289)); clear HO284; clear HO287; clear HB; have HO284 := n0_; have HO287 := n1_; have HB := n2_; have BK289 := n3_; have GW289 := n4_; have GE289 := n5_; clear n0_ n1_ n2_ n3_ n4_ n5_; clear hb hbox hg; have hcz7_0 : w6.cell? ⟨gb289, 0, none⟩ = some (.int .i64 0) := (blk_cell BK289.out 0).trans rfl; have hcz7_1 : w6.cell? ⟨gb289, 1, none⟩ = some (.int .i64 0) := (blk_cell BK289.out 1).trans rfl; have hcz7_2 : w6.cell? ⟨gb289, 2, none⟩ = some (.int .i64 0) := (blk_cell BK289.out 2).trans rfl; have hcz7_3 : w6.cell? ⟨gb289, 3, none⟩ = some (.slice none 0 0) := (blk_cell BK289.out 3).trans rfl; have hcz7_4 : w6.cell? ⟨gb289, 4, none⟩ = some (.slice none 0 0) := (blk_cell BK289.out 4).trans rfl; have hfz7_0 := blk_frozen BK289.out 0; have hfz7_1 := blk_frozen BK289.out 1; have hfz7_2 := blk_frozen BK289.out 2; have hfz7_3 := blk_frozen BK289.out 3; have hfz7_4 := blk_frozen BK289.out 4; obtain ⟨Ao8, co8, eo8⟩ := Kd.R_slice HO284.out; subst eo8; obtain ⟨Ao9, co9, eo9⟩ := Kd.N_slice HO287.out; subst eo9))
    (try simp only [Act.put, List.setIfInBounds_toArray, List.set_cons_zero, List.set_cons_succ])
    go_cut [29] (fun v29 wc => ∃ (kq : Nat) (x29_3 : Bool), v29 = .bool x29_3 ∧ Aside0 (laws_FnSjTail.j0 kq a0 x29_3 t279 t280 t281 t282 t285 = some r) ∧ Aside0 (kq ≤ k) ∧ Aside0 (Kd.R k31 31 wc w.heap.size (fun _ => True) (.slice Ao8 t282.length co8) t282) ∧ Aside0 (Kd.N k25 25 wc w.heap.size (fun k_ => some k_ ≠ ((.slice Ao8 t282.length co8) : Value).ownBlock ∧ k_ ≠ gb289) (.slice Ao9 t285.length co9) t285) ∧ Aside0 (wc.heap[gb289]? = some (.cells #[.int .i64 t279, .int .i64 t280, .int .i64 t281, (.slice Ao8 t282.length co8), (.slice Ao9 t285.length co9)] 25 (0, 0))) ∧ Aside0 (Below w.heap.size w wc))
    case first =>
      have H := HC4.out
      clear HC4
      by_cases c10 : t288 = true
      · subst c10
        have H1 : (laws_FnSjTail.j0 k a0 (decide ((a0.size : Int) > 4096)) t279 t280 t281 t282 t285) = some r := by rw [if_pos rfl] at H; exact H
        clear H
        have H := H1
        clear H1
        have H' := Aside0.mk H
        clear H
        go_wp2
        go_meet
        case rel => exact ⟨_, (decide ((a0.size : Int) > 4096)), (by first | rfl | (simp; done) | (simp [*]; done)), H', ⟨by first | omega | exact Nat.le_refl _⟩, ⟨by (with_reducible repeat (first | apply Kd.R_alloc | apply Kd.R_drewN | apply Kd.R_drew)); exact Kd.R_mono (Kd.R_far (p := ⟨gb289, 4, none⟩) (Kd.R_far (p := ⟨gb289, 3, none⟩) (Kd.R_far (p := ⟨gb289, 2, none⟩) (Kd.R_far (p := ⟨gb289, 1, none⟩) (Kd.R_far (p := ⟨gb289, 0, none⟩) (Kd.R_types HO284.out BK289.out (by decide)) (fun _ hk => hk.2) (.int .i64 t279)) (fun _ hk => hk.2) (.int .i64 t280)) (fun _ hk => hk.2) (.int .i64 t281)) (fun _ hk => hk.2) (.slice Ao8 t282.length co8)) (fun _ hk => hk.2) (.slice Ao9 t285.length co9)) (fun _ hk => trivial)⟩, ⟨by (with_reducible repeat (first | apply Kd.N_alloc | apply Kd.N_drewN | apply Kd.N_drew)); exact Kd.N_mono (Kd.N_far (p := ⟨gb289, 4, none⟩) (Kd.N_far (p := ⟨gb289, 3, none⟩) (Kd.N_far (p := ⟨gb289, 2, none⟩) (Kd.N_far (p := ⟨gb289, 1, none⟩) (Kd.N_far (p := ⟨gb289, 0, none⟩) (Kd.N_mono HO287.out (fun k_ hk => (⟨hk, hk.2⟩ : _ ∧ k_ ≠ gb289))) (fun _ hk => hk.2) (.int .i64 t279)) (fun _ hk => hk.2) (.int .i64 t280)) (fun _ hk => hk.2) (.int .i64 t281)) (fun _ hk => hk.2) (.slice Ao8 t282.length co8)) (fun _ hk => hk.2) (.slice Ao9 t285.length co9)) (fun _ hk => ⟨hk.1.1, hk.1.2⟩)⟩, ⟨by (with_reducible repeat (first | refine blk_drewN ?_ _ | refine blk_drew ?_ | refine blk_alloc ?_ _)); refine blk_put (cs := #[.int .i64 t279, .int .i64 t280, .int .i64 t281, .slice Ao8 t282.length co8, .slice none 0 0]) ?_ 4 _ rfl; (with_reducible repeat (first | refine blk_drewN ?_ _ | refine blk_drew ?_ | refine blk_alloc ?_ _)); refine blk_put (cs := #[.int .i64 t279, .int .i64 t280, .int .i64 t281, .slice none 0 0, .slice none 0 0]) ?_ 3 _ rfl; (with_reducible repeat (first | refine blk_drewN ?_ _ | refine blk_drew ?_ | refine blk_alloc ?_ _)); refine blk_put (cs := #[.int .i64 t279, .int .i64 t280, .int .i64 0, .slice none 0 0, .slice none 0 0]) ?_ 2 _ rfl; (with_reducible repeat (first | refine blk_drewN ?_ _ | refine blk_drew ?_ | refine blk_alloc ?_ _)); refine blk_put (cs := #[.int .i64 t279, .int .i64 0, .int .i64 0, .slice none 0 0, .slice none 0 0]) ?_ 1 _ rfl; (with_reducible repeat (first | refine blk_drewN ?_ _ | refine blk_drew ?_ | refine blk_alloc ?_ _)); refine blk_put (cs := #[.int .i64 0, .int .i64 0, .int .i64 0, .slice none 0 0, .slice none 0 0]) ?_ 0 _ rfl; (with_reducible repeat (first | refine blk_drewN ?_ _ | refine blk_drew ?_ | refine blk_alloc ?_ _)); exact BK289.out⟩, ⟨by repeat (first | (with_reducible first | exact HB.out | apply below_alloc | apply pw_below_drewN | apply below_drew1 | refine below_set ?_ GE289.out) | exact HB.out)⟩⟩
      · replace c10 := Bool.eq_false_iff.mpr c10
        subst c10
        have H1 : (laws_FnSjTail.j0 k a0 true t279 t280 t281 t282 t285) = some r := by rw [if_neg (show ¬ (false = true) by decide)] at H; exact H
        clear H
        have H := H1
        clear H1
        have H' := Aside0.mk H
        clear H
        go_wp2
        go_meet
        case rel => exact ⟨_, (true), (by first | rfl | (simp; done) | (simp [*]; done)), H', ⟨by first | omega | exact Nat.le_refl _⟩, ⟨by (with_reducible repeat (first | apply Kd.R_alloc | apply Kd.R_drewN | apply Kd.R_drew)); exact Kd.R_mono (Kd.R_far (p := ⟨gb289, 4, none⟩) (Kd.R_far (p := ⟨gb289, 3, none⟩) (Kd.R_far (p := ⟨gb289, 2, none⟩) (Kd.R_far (p := ⟨gb289, 1, none⟩) (Kd.R_far (p := ⟨gb289, 0, none⟩) (Kd.R_types HO284.out BK289.out (by decide)) (fun _ hk => hk.2) (.int .i64 t279)) (fun _ hk => hk.2) (.int .i64 t280)) (fun _ hk => hk.2) (.int .i64 t281)) (fun _ hk => hk.2) (.slice Ao8 t282.length co8)) (fun _ hk => hk.2) (.slice Ao9 t285.length co9)) (fun _ hk => trivial)⟩, ⟨by (with_reducible repeat (first | apply Kd.N_alloc | apply Kd.N_drewN | apply Kd.N_drew)); exact Kd.N_mono (Kd.N_far (p := ⟨gb289, 4, none⟩) (Kd.N_far (p := ⟨gb289, 3, none⟩) (Kd.N_far (p := ⟨gb289, 2, none⟩) (Kd.N_far (p := ⟨gb289, 1, none⟩) (Kd.N_far (p := ⟨gb289, 0, none⟩) (Kd.N_mono HO287.out (fun k_ hk => (⟨hk, hk.2⟩ : _ ∧ k_ ≠ gb289))) (fun _ hk => hk.2) (.int .i64 t279)) (fun _ hk => hk.2) (.int .i64 t280)) (fun _ hk => hk.2) (.int .i64 t281)) (fun _ hk => hk.2) (.slice Ao8 t282.length co8)) (fun _ hk => hk.2) (.slice Ao9 t285.length co9)) (fun _ hk => ⟨hk.1.1, hk.1.2⟩)⟩, ⟨by (with_reducible repeat (first | refine blk_drewN ?_ _ | refine blk_drew ?_ | refine blk_alloc ?_ _)); refine blk_put (cs := #[.int .i64 t279, .int .i64 t280, .int .i64 t281, .slice Ao8 t282.length co8, .slice none 0 0]) ?_ 4 _ rfl; (with_reducible repeat (first | refine blk_drewN ?_ _ | refine blk_drew ?_ | refine blk_alloc ?_ _)); refine blk_put (cs := #[.int .i64 t279, .int .i64 t280, .int .i64 t281, .slice none 0 0, .slice none 0 0]) ?_ 3 _ rfl; (with_reducible repeat (first | refine blk_drewN ?_ _ | refine blk_drew ?_ | refine blk_alloc ?_ _)); refine blk_put (cs := #[.int .i64 t279, .int .i64 t280, .int .i64 0, .slice none 0 0, .slice none 0 0]) ?_ 2 _ rfl; (with_reducible repeat (first | refine blk_drewN ?_ _ | refine blk_drew ?_ | refine blk_alloc ?_ _)); refine blk_put (cs := #[.int .i64 t279, .int .i64 0, .int .i64 0, .slice none 0 0, .slice none 0 0]) ?_ 1 _ rfl; (with_reducible repeat (first | refine blk_drewN ?_ _ | refine blk_drew ?_ | refine blk_alloc ?_ _)); refine blk_put (cs := #[.int .i64 0, .int .i64 0, .int .i64 0, .slice none 0 0, .slice none 0 0]) ?_ 0 _ rfl; (with_reducible repeat (first | refine blk_drewN ?_ _ | refine blk_drew ?_ | refine blk_alloc ?_ _)); exact BK289.out⟩, ⟨by repeat (first | (with_reducible first | exact HB.out | apply below_alloc | apply pw_below_drewN | apply below_drew1 | refine below_set ?_ GE289.out) | exact HB.out)⟩⟩
    case rest =>
      clear HC4
      try clear c1
      try clear c2
      try clear c2b0
      try clear c2b1
      try clear p2
      try clear c3
      try clear c4
      try clear c10
      try clear hcz7_0
      try clear hcz7_1
      try clear hcz7_2
      try clear hcz7_3
      try clear hcz7_4
      try clear hfz7_0
      try clear hfz7_1
      try clear hfz7_2
      try clear hfz7_3
      try clear hfz7_4
      obtain ⟨kq, x29_3, rfl, HA, HJ3, HO_290003, HO_290004, BK289, HB⟩ := hcut
      cases kq with
      | zero => exact absurd HA.out (by simp [laws_FnSjTail.j0])
      | succ kj3 =>
        have H := HA.out
        clear HA
        simp only [laws_FnSjTail.j0] at H
        by_cases c11 : x29_3 = true
        · subst c11
          have H1 : (some true) = some r := by rw [if_pos rfl] at H; exact H
          clear H
          have H := H1
          clear H1
          obtain rfl := Option.some.inj H
          go_wp2
          go_ret
          exact ⟨by first | rfl | (simp [errW_none, errW_some] <;> rfl) | (simp [*, errW_none, errW_some] <;> rfl), by repeat (first | (with_reducible first | exact HB.out | apply below_alloc | apply pw_below_drewN | apply below_drew1 | refine below_set ?_ GE289.out) | exact HB.out)⟩
        · replace c11 := Bool.eq_false_iff.mpr c11
          subst c11
          have H1 : ((spec_Bare.f a0 t279 t280 t281 t282 t285).bind fun t290 => ((spec_Places.f kj3 t290).bind fun bt291 => ((spec_All.f kj3 bt291.1 bt291.2.1 bt291.2.2.1 bt291.2.2.2.1 bt291.2.2.2.2.1).bind fun t301 => (laws_FnSjTail.l0 kj3 t290 t301 (t301.length : Int) 0)))) = some r := by rw [if_neg (show ¬ (false = true) by decide)] at H; exact H
          clear H
          have H := H1
          clear H1
          replace H := Option.bind_eq_some_iff.mp H
          obtain ⟨t290, A120, H⟩ := H
          replace H : ((spec_Places.f kj3 t290).bind fun bt291 => ((spec_All.f kj3 bt291.1 bt291.2.1 bt291.2.2.1 bt291.2.2.2.1 bt291.2.2.2.2.1).bind fun t301 => (laws_FnSjTail.l0 kj3 t290 t301 (t301.length : Int) 0))) = some r := H
          have A12 := Aside0.mk A120
          clear A120
          replace H := Option.bind_eq_some_iff.mp H
          obtain ⟨⟨t291, t292, t293, t294, t297, t300⟩, A130, H⟩ := H
          replace H : ((spec_All.f kj3 t291 t292 t293 t294 t297).bind fun t301 => (laws_FnSjTail.l0 kj3 t290 t301 (t301.length : Int) 0)) = some r := H
          have A13 := Aside0.mk A130
          clear A130
          replace H := Option.bind_eq_some_iff.mp H
          obtain ⟨t301, A140, H⟩ := H
          replace H : (laws_FnSjTail.l0 kj3 t290 t301 (t301.length : Int) 0) = some r := H
          have A14 := Aside0.mk A140
          clear A140
          have H' := Aside0.mk H
          clear H
          have hcz15_0 : wc.cell? ⟨gb289, 0, none⟩ = some (.int .i64 t279) := (blk_cell BK289.out 0).trans rfl
          have hcz15_1 : wc.cell? ⟨gb289, 1, none⟩ = some (.int .i64 t280) := (blk_cell BK289.out 1).trans rfl
          have hcz15_2 : wc.cell? ⟨gb289, 2, none⟩ = some (.int .i64 t281) := (blk_cell BK289.out 2).trans rfl
          have hcz15_3 : wc.cell? ⟨gb289, 3, none⟩ = some (.slice Ao8 t282.length co8) := (blk_cell BK289.out 3).trans rfl
          have hcz15_4 : wc.cell? ⟨gb289, 4, none⟩ = some (.slice Ao9 t285.length co9) := (blk_cell BK289.out 4).trans rfl
          have hfz15_0 := blk_frozen BK289.out 0
          have hfz15_1 := blk_frozen BK289.out 1
          have hfz15_2 := blk_frozen BK289.out 2
          have hfz15_3 := blk_frozen BK289.out 3
          have hfz15_4 := blk_frozen BK289.out 4
          go_wp2_with (first | ((with_reducible refine gate_callee (f := 5) rfl ?_); refine goesL_ (some 32) rfl rfl Try.func5 (by kernel_rfl) rfl #[.string a0, .agg #[.int .i64 t279, .int .i64 t280, .int .i64 t281, .slice Ao8 t282.length co8, .slice Ao9 t285.length co9]] rfl (by (try simp only [List.map_toArray, List.map_cons, List.map_nil]); first | done | rfl | (simp only [List.length_drop, List.length_take]; rfl)) ?_; (with_reducible refine (spec_Bare.calls a0 t279 t280 t281 _ _ t282 _ _ t285 t290 _ ?side1 ?side2 ?side3 ?side4 A12.out).mono ?_); (case side1 => repeat (first | exact (Kd.R_reads' HO_290003.out).2.2 | (with_reducible refine Kd.C_alloc ?_ _) | (with_reducible refine Kd.C_drewN ?_ _) | (with_reducible refine Kd.C_drew ?_))); (case side2 => exact (Kd.R_reads' HO_290003.out).2.1); (case side3 => repeat (first | exact (Kd.N_reads' HO_290004.out).2.2 | (with_reducible refine Kd.C_alloc ?_ _) | (with_reducible refine Kd.C_drewN ?_ _) | (with_reducible refine Kd.C_drew ?_))); (case side4 => exact (Kd.N_reads' HO_290004.out).2.1); rintro e w16 ⟨rfl, hb⟩; refine ⟨_, rfl, ?_⟩; have n0_ := Aside0.mk (Kd.R_below (by (with_reducible repeat (first | apply Kd.R_alloc | apply Kd.R_drewN | apply Kd.R_drew)); exact HO_290003.out) hb); have n1_ := Aside0.mk (Kd.N_below (by (with_reducible repeat (first | apply Kd.N_alloc | apply Kd.N_drewN | apply Kd.N_drew)); exact HO_290004.out) hb); have n2_ := Aside0.mk (blk_below (g := gb289) (o := .cells #[.int .i64 t279, .int .i64 t280, .int .i64 t281, .slice Ao8 t282.length co8, .slice Ao9 t285.length co9] 25 (0, 0)) (by (with_reducible repeat (first | refine blk_drewN ?_ _ | refine blk_drew ?_ | refine blk_alloc ?_ _)); exact BK289.out) hb); have n3_ := Aside0.mk (below_step (by repeat (first | (with_reducible first | exact HB.out | apply below_alloc | apply pw_below_drewN | apply below_drew1 | refine below_set ?_ GE289.out) | exact HB.out)) hb); clear HO_290003; clear HO_290004; clear BK289; clear HB; have HO_290003 := n0_; have HO_290004 := n1_; have BK289 := n2_; have HB := n3_; clear n0_ n1_ n2_ n3_; (try clear hb); (try clear hb2); (try clear hk); (try clear hi)) | ((with_reducible refine gate_callee (f := 4) rfl ?_); refine goesL_ (some 35) rfl rfl Try.func4 (by kernel_rfl) rfl #[.string t290] rfl (by (try simp only [List.map_toArray, List.map_cons, List.map_nil]); first | done | rfl | (simp only [List.length_drop, List.length_take]; rfl)) ?_; (with_reducible refine (spec_Places.calls kj3 t290 t291 t292 t293 t294 t297 t300 _ A13.out).mono ?_); rintro e w17 ⟨v295, v298, rfl, ho0, ho1, hb⟩; refine ⟨_, rfl, ?_⟩; have n0_ := Aside0.mk (Kd.R_elder' (by (with_reducible repeat (first | apply Kd.R_alloc | apply Kd.R_drewN | apply Kd.R_drew)); exact HO_290003.out) (Kd.R_base ho0) hb); have n1_ := Aside0.mk (Kd.N_mono (Kd.N_told (Kd.N_told (Kd.N_old (by (with_reducible repeat (first | apply Kd.N_alloc | apply Kd.N_drewN | apply Kd.N_drew)); exact HO_290004.out) hb) (Kd.R_base ho0)) (Kd.R_base ho1)) (fun _ h_ => h_.1)); have n2_ := Aside0.mk (Kd.R_lower (Kd.R_new' ho0 (Kd.R_lt (by (with_reducible repeat (first | apply Kd.R_alloc | apply Kd.R_drewN | apply Kd.R_drew)); exact HO_290003.out))) (below_size (by repeat (first | (with_reducible first | exact HB.out | apply below_alloc | apply pw_below_drewN | apply below_drew1 | refine below_set ?_ GE289.out) | exact HB.out)))); have n3_ := Aside0.mk (Kd.N_lower (Kd.N_mono (ok' := fun k_ => some k_ ≠ (v295 : Value).ownBlock ∧ some k_ ≠ (.slice Ao8 t282.length co8 : Value).ownBlock ∧ some k_ ≠ (.slice Ao9 t285.length co9 : Value).ownBlock ∧ k_ ≠ gb289) (Kd.R_N (Kd.R_bound ho1)) (fun k_ hk_ => ⟨hk_.1, (Kd.fresh' (Kd.R_lt (by (with_reducible repeat (first | apply Kd.R_alloc | apply Kd.R_drewN | apply Kd.R_drew)); exact HO_290003.out)) k_ hk_.2.1), (Kd.fresh' (Kd.N_lt (by (with_reducible repeat (first | apply Kd.N_alloc | apply Kd.N_drewN | apply Kd.N_drew)); exact HO_290004.out)) k_ hk_.2.1), (Kd.freshB (g := gb289) (o := .cells #[.int .i64 t279, .int .i64 t280, .int .i64 t281, .slice Ao8 t282.length co8, .slice Ao9 t285.length co9] 25 (0, 0)) (by (with_reducible repeat (first | refine blk_drewN ?_ _ | refine blk_drew ?_ | refine blk_alloc ?_ _)); exact BK289.out) k_ hk_.2.1)⟩)) (below_size (by repeat (first | (with_reducible first | exact HB.out | apply below_alloc | apply pw_below_drewN | apply below_drew1 | refine below_set ?_ GE289.out) | exact HB.out)))); have n4_ := Aside0.mk (blk_below (g := gb289) (o := .cells #[.int .i64 t279, .int .i64 t280, .int .i64 t281, .slice Ao8 t282.length co8, .slice Ao9 t285.length co9] 25 (0, 0)) (by (with_reducible repeat (first | refine blk_drewN ?_ _ | refine blk_drew ?_ | refine blk_alloc ?_ _)); exact BK289.out) hb); have n5_ := Aside0.mk (below_step (by repeat (first | (with_reducible first | exact HB.out | apply below_alloc | apply pw_below_drewN | apply below_drew1 | refine below_set ?_ GE289.out) | exact HB.out)) hb); clear HO_290003; clear HO_290004; clear BK289; clear HB; have HO_290003 := n0_; have HO_290004 := n1_; have HO296 := n2_; have HO299 := n3_; have BK289 := n4_; have HB := n5_; clear n0_ n1_ n2_ n3_ n4_ n5_; (try clear hb); (try clear hb2); (try clear hk); (try clear hi); (try clear ho0); (try clear ho1); have hcz18_0 : w17.cell? ⟨gb289, 0, none⟩ = some (.int .i64 t279) := (blk_cell BK289.out 0).trans rfl; have hcz18_1 : w17.cell? ⟨gb289, 1, none⟩ = some (.int .i64 t280) := (blk_cell BK289.out 1).trans rfl; have hcz18_2 : w17.cell? ⟨gb289, 2, none⟩ = some (.int .i64 t281) := (blk_cell BK289.out 2).trans rfl; have hcz18_3 : w17.cell? ⟨gb289, 3, none⟩ = some (.slice Ao8 t282.length co8) := (blk_cell BK289.out 3).trans rfl; have hcz18_4 : w17.cell? ⟨gb289, 4, none⟩ = some (.slice Ao9 t285.length co9) := (blk_cell BK289.out 4).trans rfl; have hfz18_0 := blk_frozen BK289.out 0; have hfz18_1 := blk_frozen BK289.out 1; have hfz18_2 := blk_frozen BK289.out 2; have hfz18_3 := blk_frozen BK289.out 3; have hfz18_4 := blk_frozen BK289.out 4; obtain ⟨Ao19, co19, eo19⟩ := Kd.R_slice HO296.out; subst eo19; obtain ⟨Ao20, co20, eo20⟩ := Kd.N_slice HO299.out; subst eo20) | ((with_reducible refine gate_store (t := 25) (p := 3) rfl ?_); refine store_event (t := 25) (p := 3) (v := ?vo_w21) (w1 := (((((w17.setCell ⟨gb289, 0, none⟩ (.int .i64 t291)).setCell ⟨gb289, 1, none⟩ (.int .i64 t292)).setCell ⟨gb289, 2, none⟩ (.int .i64 t293)).setCell ⟨gb289, 3, none⟩ (.slice Ao19 t294.length co19)).setCell ⟨gb289, 4, none⟩ (.slice Ao20 t297.length co20))) ?hg ?ho ?hn ?hr ?_; (case ho => rfl); (case hg => rfl); (case hn => rfl); (case hr => first | (go_simp; done) | (go_simp; rfl)); intro w21 hw; have n0_ : Aside0 (Kd.R k31 31 w21 w.heap.size (fun k_ => some k_ ≠ (.slice Ao19 t294.length co19 : Value).ownBlock) (.slice Ao8 t282.length co8) t282) := ⟨(by rw [hw]; exact (by (with_reducible repeat (first | apply Kd.R_alloc | apply Kd.R_drewN | apply Kd.R_drew)); exact Kd.R_mono (Kd.R_far (p := ⟨gb289, 4, none⟩) (Kd.R_far (p := ⟨gb289, 3, none⟩) (Kd.R_far (p := ⟨gb289, 2, none⟩) (Kd.R_far (p := ⟨gb289, 1, none⟩) (Kd.R_far (p := ⟨gb289, 0, none⟩) (Kd.R_types HO_290003.out BK289.out (by decide)) (fun _ hk => hk.2) (.int .i64 t291)) (fun _ hk => hk.2) (.int .i64 t292)) (fun _ hk => hk.2) (.int .i64 t293)) (fun _ hk => hk.2) (.slice Ao19 t294.length co19)) (fun _ hk => hk.2) (.slice Ao20 t297.length co20)) (fun _ hk => hk.1.2)))⟩; have n1_ : Aside0 (Kd.N k25 25 w21 w.heap.size (fun k_ => some k_ ≠ (.slice Ao8 t282.length co8 : Value).ownBlock ∧ some k_ ≠ (.slice Ao19 t294.length co19 : Value).ownBlock ∧ some k_ ≠ (.slice Ao20 t297.length co20 : Value).ownBlock ∧ k_ ≠ gb289) (.slice Ao9 t285.length co9) t285) := ⟨(by rw [hw]; exact (by (with_reducible repeat (first | apply Kd.N_alloc | apply Kd.N_drewN | apply Kd.N_drew)); exact Kd.N_mono (Kd.N_far (p := ⟨gb289, 4, none⟩) (Kd.N_far (p := ⟨gb289, 3, none⟩) (Kd.N_far (p := ⟨gb289, 2, none⟩) (Kd.N_far (p := ⟨gb289, 1, none⟩) (Kd.N_far (p := ⟨gb289, 0, none⟩) (Kd.N_mono HO_290004.out (fun k_ hk => (⟨hk, hk.1.1.2⟩ : _ ∧ k_ ≠ gb289))) (fun _ hk => hk.2) (.int .i64 t291)) (fun _ hk => hk.2) (.int .i64 t292)) (fun _ hk => hk.2) (.int .i64 t293)) (fun _ hk => hk.2) (.slice Ao19 t294.length co19)) (fun _ hk => hk.2) (.slice Ao20 t297.length co20)) (fun _ hk => ⟨hk.1.1.1.1, ⟨hk.1.1.2, ⟨hk.1.2, hk.1.1.1.2⟩⟩⟩)))⟩; have n2_ : Aside0 (Kd.R k31 31 w21 w.heap.size (fun k_ => some k_ ≠ (.slice Ao8 t282.length co8 : Value).ownBlock) (.slice Ao19 t294.length co19) t294) := ⟨(by rw [hw]; exact (by (with_reducible repeat (first | apply Kd.R_alloc | apply Kd.R_drewN | apply Kd.R_drew)); exact Kd.R_mono (Kd.R_far (p := ⟨gb289, 4, none⟩) (Kd.R_far (p := ⟨gb289, 3, none⟩) (Kd.R_far (p := ⟨gb289, 2, none⟩) (Kd.R_far (p := ⟨gb289, 1, none⟩) (Kd.R_far (p := ⟨gb289, 0, none⟩) (Kd.R_types HO296.out BK289.out (by decide)) (fun _ hk => hk.2) (.int .i64 t291)) (fun _ hk => hk.2) (.int .i64 t292)) (fun _ hk => hk.2) (.int .i64 t293)) (fun _ hk => hk.2) (.slice Ao19 t294.length co19)) (fun _ hk => hk.2) (.slice Ao20 t297.length co20)) (fun _ hk => hk.1.2)))⟩; have n3_ : Aside0 (Kd.N k25 25 w21 w.heap.size (fun k_ => some k_ ≠ (.slice Ao8 t282.length co8 : Value).ownBlock ∧ some k_ ≠ (.slice Ao9 t285.length co9 : Value).ownBlock ∧ some k_ ≠ (.slice Ao19 t294.length co19 : Value).ownBlock ∧ k_ ≠ gb289) (.slice Ao20 t297.length co20) t297) := ⟨(by rw [hw]; exact (by (with_reducible repeat (first | apply Kd.N_alloc | apply Kd.N_drewN | apply Kd.N_drew)); exact Kd.N_mono (Kd.N_far (p := ⟨gb289, 4, none⟩) (Kd.N_far (p := ⟨gb289, 3, none⟩) (Kd.N_far (p := ⟨gb289, 2, none⟩) (Kd.N_far (p := ⟨gb289, 1, none⟩) (Kd.N_far (p := ⟨gb289, 0, none⟩) (Kd.N_mono HO299.out (fun k_ hk => (⟨hk, hk.2.2.2⟩ : _ ∧ k_ ≠ gb289))) (fun _ hk => hk.2) (.int .i64 t291)) (fun _ hk => hk.2) (.int .i64 t292)) (fun _ hk => hk.2) (.int .i64 t293)) (fun _ hk => hk.2) (.slice Ao19 t294.length co19)) (fun _ hk => hk.2) (.slice Ao20 t297.length co20)) (fun _ hk => ⟨hk.1.2.1, ⟨hk.1.2.2.1, ⟨hk.1.1, hk.1.2.2.2⟩⟩⟩)))⟩; have n4_ : Aside0 (w21.heap[gb289]? = some (.cells #[.int .i64 t291, .int .i64 t292, .int .i64 t293, .slice Ao19 t294.length co19, .slice Ao20 t297.length co20] 25 (0, 0))) := ⟨(by rw [hw]; exact (by (with_reducible repeat (first | refine blk_drewN ?_ _ | refine blk_drew ?_ | refine blk_alloc ?_ _)); refine blk_put (cs := #[.int .i64 t291, .int .i64 t292, .int .i64 t293, .slice Ao19 t294.length co19, .slice Ao9 t285.length co9]) ?_ 4 _ rfl; (with_reducible repeat (first | refine blk_drewN ?_ _ | refine blk_drew ?_ | refine blk_alloc ?_ _)); refine blk_put (cs := #[.int .i64 t291, .int .i64 t292, .int .i64 t293, .slice Ao8 t282.length co8, .slice Ao9 t285.length co9]) ?_ 3 _ rfl; (with_reducible repeat (first | refine blk_drewN ?_ _ | refine blk_drew ?_ | refine blk_alloc ?_ _)); refine blk_put (cs := #[.int .i64 t291, .int .i64 t292, .int .i64 t281, .slice Ao8 t282.length co8, .slice Ao9 t285.length co9]) ?_ 2 _ rfl; (with_reducible repeat (first | refine blk_drewN ?_ _ | refine blk_drew ?_ | refine blk_alloc ?_ _)); refine blk_put (cs := #[.int .i64 t291, .int .i64 t280, .int .i64 t281, .slice Ao8 t282.length co8, .slice Ao9 t285.length co9]) ?_ 1 _ rfl; (with_reducible repeat (first | refine blk_drewN ?_ _ | refine blk_drew ?_ | refine blk_alloc ?_ _)); refine blk_put (cs := #[.int .i64 t279, .int .i64 t280, .int .i64 t281, .slice Ao8 t282.length co8, .slice Ao9 t285.length co9]) ?_ 0 _ rfl; (with_reducible repeat (first | refine blk_drewN ?_ _ | refine blk_drew ?_ | refine blk_alloc ?_ _)); exact BK289.out))⟩; have n5_ : Aside0 (Below w.heap.size w w21) := ⟨(by rw [hw]; exact (by repeat (first | (with_reducible first | exact HB.out | apply below_alloc | apply pw_below_drewN | apply below_drew1 | refine below_set ?_ GE289.out) | exact HB.out)))⟩; clear hw; clear HO_290003; clear HO_290004; clear HO296; clear HO299; clear BK289; clear HB; have HO_290003 := n0_; have HO_290004 := n1_; have HO296 := n2_; have HO299 := n3_; have BK289 := n4_; have HB := n5_; clear n0_ n1_ n2_ n3_ n4_ n5_; have hcz22_0 : w21.cell? ⟨gb289, 0, none⟩ = some (.int .i64 t291) := (blk_cell BK289.out 0).trans rfl; have hcz22_1 : w21.cell? ⟨gb289, 1, none⟩ = some (.int .i64 t292) := (blk_cell BK289.out 1).trans rfl; have hcz22_2 : w21.cell? ⟨gb289, 2, none⟩ = some (.int .i64 t293) := (blk_cell BK289.out 2).trans rfl; have hcz22_3 : w21.cell? ⟨gb289, 3, none⟩ = some (.slice Ao19 t294.length co19) := (blk_cell BK289.out 3).trans rfl; have hcz22_4 : w21.cell? ⟨gb289, 4, none⟩ = some (.slice Ao20 t297.length co20) := (blk_cell BK289.out 4).trans rfl; have hfz22_0 := blk_frozen BK289.out 0; have hfz22_1 := blk_frozen BK289.out 1; have hfz22_2 := blk_frozen BK289.out 2; have hfz22_3 := blk_frozen BK289.out 3; have hfz22_4 := blk_frozen BK289.out 4) | ((with_reducible refine gate_callee (f := 6) rfl ?_); refine goesL_ (some 39) rfl rfl Try.func6 (by kernel_rfl) rfl #[.agg #[.int .i64 t291, .int .i64 t292, .int .i64 t293, .slice Ao19 t294.length co19, .slice Ao20 t297.length co20]] rfl (by (try simp only [List.map_toArray, List.map_cons, List.map_nil]); first | done | rfl | (simp only [List.length_drop, List.length_take]; rfl)) ?_; (with_reducible refine (spec_All.calls kj3 t291 t292 t293 (fun k_ => some k_ = (.slice Ao19 t294.length co19 : Value).ownBlock) _ _ t294 (fun k_ => (some k_ ≠ (.slice Ao8 t282.length co8 : Value).ownBlock ∧ (some k_ ≠ (.slice Ao9 t285.length co9 : Value).ownBlock ∧ (some k_ ≠ (.slice Ao19 t294.length co19 : Value).ownBlock ∧ k_ ≠ gb289)))) _ _ t297 t301 _ ?side1 ?side2 A14.out).mono ?_); (case side1 => exact Kd.R_V (Kd.R_tight rfl (Kd.R_types (Kd.R_apart' (Kd.R_apart' (HO296.out) (Kd.N_typed HO_290004.out) (by decide)) (Kd.N_typed HO299.out) (by decide)) BK289.out (by decide)))); (case side2 => exact Kd.N_V (HO299.out)); rintro e w23 ⟨v302, rfl, ho0, hb⟩; refine ⟨_, rfl, ?_⟩; have n0_ := Aside0.mk (Kd.R_below (by (with_reducible repeat (first | apply Kd.R_alloc | apply Kd.R_drewN | apply Kd.R_drew)); exact HO_290003.out) hb); have n1_ := Aside0.mk (Kd.N_elder' (by (with_reducible repeat (first | apply Kd.N_alloc | apply Kd.N_drewN | apply Kd.N_drew)); exact HO_290004.out) (Kd.N_base ho0) hb); have n2_ := Aside0.mk (Kd.R_below (by (with_reducible repeat (first | apply Kd.R_alloc | apply Kd.R_drewN | apply Kd.R_drew)); exact HO296.out) hb); have n3_ := Aside0.mk (Kd.N_elder' (by (with_reducible repeat (first | apply Kd.N_alloc | apply Kd.N_drewN | apply Kd.N_drew)); exact HO299.out) (Kd.N_base ho0) hb); have n4_ := Aside0.mk (Kd.N_lower (Kd.N_mono (ok' := fun k_ => some k_ ≠ (.slice Ao8 t282.length co8 : Value).ownBlock ∧ some k_ ≠ (.slice Ao9 t285.length co9 : Value).ownBlock ∧ k_ ≠ gb289) ho0 (fun k_ hk_ => ⟨Or.elim hk_ (fun hs_ => Or.elim hs_ (fun hs_ => ((Kd.R_types (Kd.R_apart' (Kd.R_apart' (HO296.out) (Kd.N_typed HO_290004.out) (by decide)) (Kd.N_typed HO299.out) (by decide)) BK289.out (by decide)).1 k_ hs_.symm).1.1.1) (fun hs_ => hs_.1)) (fun hn_ => (Kd.fresh' (Kd.R_lt (by (with_reducible repeat (first | apply Kd.R_alloc | apply Kd.R_drewN | apply Kd.R_drew)); exact HO_290003.out)) k_ hn_)), Or.elim hk_ (fun hs_ => Or.elim hs_ (fun hs_ => ((Kd.R_types (Kd.R_apart' (Kd.R_apart' (HO296.out) (Kd.N_typed HO_290004.out) (by decide)) (Kd.N_typed HO299.out) (by decide)) BK289.out (by decide)).1 k_ hs_.symm).1.1.2) (fun hs_ => hs_.2.1)) (fun hn_ => (Kd.fresh' (Kd.N_lt (by (with_reducible repeat (first | apply Kd.N_alloc | apply Kd.N_drewN | apply Kd.N_drew)); exact HO_290004.out)) k_ hn_)), Or.elim hk_ (fun hs_ => Or.elim hs_ (fun hs_ => ((Kd.R_types (Kd.R_apart' (Kd.R_apart' (HO296.out) (Kd.N_typed HO_290004.out) (by decide)) (Kd.N_typed HO299.out) (by decide)) BK289.out (by decide)).1 k_ hs_.symm).2) (fun hs_ => hs_.2.2.2)) (fun hn_ => (Kd.freshB (g := gb289) (o := .cells #[.int .i64 t291, .int .i64 t292, .int .i64 t293, .slice Ao19 t294.length co19, .slice Ao20 t297.length co20] 25 (0, 0)) (by (with_reducible repeat (first | refine blk_drewN ?_ _ | refine blk_drew ?_ | refine blk_alloc ?_ _)); exact BK289.out) k_ hn_))⟩)) (below_size (by repeat (first | (with_reducible first | exact HB.out | apply below_alloc | apply pw_below_drewN | apply below_drew1 | refine below_set ?_ GE289.out) | exact HB.out)))); have n5_ := Aside0.mk (blk_below (g := gb289) (o := .cells #[.int .i64 t291, .int .i64 t292, .int .i64 t293, .slice Ao19 t294.length co19, .slice Ao20 t297.length co20] 25 (0, 0)) (by (with_reducible repeat (first | refine blk_drewN ?_ _ | refine blk_drew ?_ | refine blk_alloc ?_ _)); exact BK289.out) hb); have n6_ := Aside0.mk (below_step (by repeat (first | (with_reducible first | exact HB.out | apply below_alloc | apply pw_below_drewN | apply below_drew1 | refine below_set ?_ GE289.out) | exact HB.out)) hb); clear HO_290003; clear HO_290004; clear HO296; clear HO299; clear BK289; clear HB; have HO_290003 := n0_; have HO_290004 := n1_; have HO296 := n2_; have HO299 := n3_; have HO303 := n4_; have BK289 := n5_; have HB := n6_; clear n0_ n1_ n2_ n3_ n4_ n5_ n6_; (try clear hb); (try clear hb2); (try clear hk); (try clear hi); (try clear ho0); obtain ⟨Ao24, co24, eo24⟩ := Kd.N_slice HO303.out; subst eo24))
          (try simp only [Act.put, List.setIfInBounds_toArray, List.set_cons_succ, List.set_cons_zero])
          go_loopg [41] kj3 (fun kq v41 w' => ∃ (x41_2 : Int), v41 = .int .i64 x41_2 ∧ Aside0 (laws_FnSjTail.l0 kq t290 t301 (t301.length : Int) x41_2 = some r) ∧ Aside0 (kq ≤ kj3) ∧ Aside0 (Kd.N k25 25 w' w.heap.size (fun k_ => k_ ≠ gb289) (.slice Ao24 t301.length co24) t301) ∧ Aside0 (Kd.R k31 31 w' w.heap.size (fun _ => True) (.slice Ao19 t294.length co19) t294) ∧ Aside0 (Kd.N k25 25 w' w.heap.size (fun k_ => some k_ ≠ ((.slice Ao24 t301.length co24) : Value).ownBlock ∧ some k_ ≠ ((.slice Ao19 t294.length co19) : Value).ownBlock ∧ k_ ≠ gb289) (.slice Ao20 t297.length co20) t297) ∧ Aside0 (w'.heap[gb289]? = some (.cells #[.int .i64 t291, .int .i64 t292, .int .i64 t293, (.slice Ao19 t294.length co19), (.slice Ao20 t297.length co20)] 25 (0, 0))) ∧ Aside0 (Below w.heap.size w w'))
          case atStart => exact ⟨(0), (by first | rfl | (simp; done) | (simp [*]; done)), H', ⟨Nat.le_refl _⟩, ⟨by (with_reducible repeat (first | apply Kd.N_alloc | apply Kd.N_drewN | apply Kd.N_drew)); exact Kd.N_mono HO303.out (fun _ hk => hk.2.2)⟩, ⟨by (with_reducible repeat (first | apply Kd.R_alloc | apply Kd.R_drewN | apply Kd.R_drew)); exact Kd.R_mono HO296.out (fun _ hk => trivial)⟩, ⟨by (with_reducible repeat (first | apply Kd.N_alloc | apply Kd.N_drewN | apply Kd.N_drew)); exact Kd.N_mono HO299.out (fun _ hk => ⟨hk.2, ⟨hk.1.2.2.1, hk.1.2.2.2⟩⟩)⟩, ⟨by (with_reducible repeat (first | refine blk_drewN ?_ _ | refine blk_drew ?_ | refine blk_alloc ?_ _)); exact BK289.out⟩, ⟨by repeat (first | (with_reducible first | exact HB.out | apply below_alloc | apply pw_below_drewN | apply below_drew1 | refine below_set ?_ GE289.out) | exact HB.out)⟩⟩
          case round =>
            clear H'
            try clear c1
            try clear c2
            try clear c2b0
            try clear c2b1
            try clear p2
            try clear c3
            try clear c4
            try clear c5
            try clear c6
            try clear c10
            try clear c11
            try clear hcz15_0
            try clear hcz15_1
            try clear hcz15_2
            try clear hcz15_3
            try clear hcz15_4
            try clear hcz18_0
            try clear hcz18_1
            try clear hcz18_2
            try clear hcz18_3
            try clear hcz18_4
            try clear hcz22_0
            try clear hcz22_1
            try clear hcz22_2
            try clear hcz22_3
            try clear hcz22_4
            try clear hcz7_0
            try clear hcz7_1
            try clear hcz7_2
            try clear hcz7_3
            try clear hcz7_4
            try clear hfz15_0
            try clear hfz15_1
            try clear hfz15_2
            try clear hfz15_3
            try clear hfz15_4
            try clear hfz18_0
            try clear hfz18_1
            try clear hfz18_2
            try clear hfz18_3
            try clear hfz18_4
            try clear hfz22_0
            try clear hfz22_1
            try clear hfz22_2
            try clear hfz22_3
            try clear hfz22_4
            try clear hfz7_0
            try clear hfz7_1
            try clear hfz7_2
            try clear hfz7_3
            try clear hfz7_4
            try clear p2
            obtain ⟨x41_2, rfl, HA, HK2, HO_39, HO_290003, HO_290004, BK289, HB⟩ := hrel
            cases gk with
            | zero => exact absurd HA.out (by simp [laws_FnSjTail.l0])
            | succ k2 =>
              have H := HA.out
              clear HA
              simp only [laws_FnSjTail.l0] at H
              by_cases c25 : x41_2 < (t301.length : Int)
              · rw [if_pos c25] at H
                have c25b0 : decide (x41_2 < (t301.length : Int)) = true := decide_eq_true c25
                clear c25
                by_cases c26 : 0 ≤ x41_2
                · rw [if_pos c26] at H
                  have c26b0 : decide (0 ≤ x41_2) = true := decide_eq_true c26
                  clear c26
                  by_cases c27 : x41_2 < (t301.length : Int)
                  · rw [if_pos c27] at H
                    have c27b0 : decide (x41_2 < (t301.length : Int)) = true := decide_eq_true c27
                    clear c27
                    have H' := Aside0.mk H
                    clear H
                    have p306 : 0 ≤ (x41_2 : Int) := of_decide_eq_true (by first | (with_reducible assumption) | assumption)
                    have q306 : x41_2 < (t301.length : Int) := of_decide_eq_true (by first | (with_reducible assumption) | assumption)
                    obtain ⟨ad306, A306_3, c306_3, A306_4, c306_4, e306, hx306_0, hx306_1, hx306_2, hx306_3, hx306_4, hl306_3, hi306_3, hl306_4, hi306_4⟩ := at_T25 (Kd.N_reads' HO_39.out).2.2 x41_2 p306 q306
                    cases e306
                    obtain ⟨ce306, hce306, hMe306, hcc306⟩ := Kd.N_get HO_39.out z25 x41_2 p306 (by first | exact q306 | exact of_decide_eq_true (by first | (with_reducible assumption) | assumption) | (have e_ := (Kd.N_reads' HO_39.out).1; omega))
                    obtain ⟨ua306_3, uc306_3, ua306_4, uc306_4, rfl, ul306_3, ge306_3, ul306_4, ge306_4⟩ := k25_openF hMe306
                    have hv306_3 := hcc306 3 _ rfl
                    rw [add_field _ _ 3 (by omega)] at hv306_3
                    replace hv306_3 := Option.some.inj (hv306_3.symm.trans hx306_3)
                    injection hv306_3 with hva_ hvn_ hvc_
                    rw [hva_] at ge306_3
                    rw [hvc_] at ul306_3
                    have HL306_3 := Aside0.mk (show Kd.V k31 31 _ w.heap.size _ _ ((rd_T25 t301 x41_2).f3) from Kd.V_mk ul306_3 ge306_3)
                    clear hva_ hvn_ hvc_ ge306_3 ul306_3
                    have hv306_4 := hcc306 4 _ rfl
                    rw [add_field _ _ 4 (by omega)] at hv306_4
                    replace hv306_4 := Option.some.inj (hv306_4.symm.trans hx306_4)
                    injection hv306_4 with hva_ hvn_ hvc_
                    rw [hva_] at ge306_4
                    rw [hvc_] at ul306_4
                    have HL306_4 := Aside0.mk (show Kd.V k25 25 _ w.heap.size _ _ ((rd_T25 t301 x41_2).f4) from Kd.V_mk ul306_4 ge306_4)
                    clear hva_ hvn_ hvc_ ge306_4 ul306_4
                    clear hcc306 hce306
                    have HR306_3 := Aside0.mk hi306_3
                    have HC306_3 := Aside0.mk hl306_3
                    clear hi306_3 hl306_3
                    have HR306_4 := Aside0.mk hi306_4
                    have HC306_4 := Aside0.mk hl306_4
                    clear hi306_4 hl306_4
                    replace p306 := eq_true p306
                    replace q306 := eq_true q306
                    go_wp2_with (first | ((with_reducible refine gate_dst (N := 7) rfl ?_); (try (refine gate_guard (by rfl) ?_; dsimp only)); refine box_event ?hg (N := 7) ?hd (cs := #[.int .i64 0, .int .i64 0, .int .i64 0, .slice none 0 0, .slice none 0 0]) (t := 25) ?hr ?_; (case hd => rfl); (case hg => rfl); (case hr => first | (go_simp; done) | (go_simp; rfl)); intro gb307 hg w28 hbox hb; have n0_ := Aside0.mk (Kd.N_below (Kd.N_elderB (by (with_reducible repeat (first | apply Kd.N_alloc | apply Kd.N_drewN | apply Kd.N_drew)); exact HO_39.out) gb307 (Nat.le_of_eq hg.symm)) hb); have n1_ := Aside0.mk (Kd.R_below (by (with_reducible repeat (first | apply Kd.R_alloc | apply Kd.R_drewN | apply Kd.R_drew)); exact HO_290003.out) hb); have n2_ := Aside0.mk (Kd.N_below (Kd.N_elderB (by (with_reducible repeat (first | apply Kd.N_alloc | apply Kd.N_drewN | apply Kd.N_drew)); exact HO_290004.out) gb307 (Nat.le_of_eq hg.symm)) hb); have n3_ := Aside0.mk (Kd.V_below (Kd.V_elderB (by (with_reducible repeat (first | apply Kd.V_alloc | apply Kd.V_drewN | apply Kd.V_drew)); exact HL306_3.out) gb307 (Nat.le_of_eq hg.symm)) hb); have n4_ := Aside0.mk (Kd.V_below (Kd.V_elderB (by (with_reducible repeat (first | apply Kd.V_alloc | apply Kd.V_drewN | apply Kd.V_drew)); exact HL306_4.out) gb307 (Nat.le_of_eq hg.symm)) hb); have n5_ := Aside0.mk (blk_below (g := gb289) (o := .cells #[.int .i64 t291, .int .i64 t292, .int .i64 t293, .slice Ao19 t294.length co19, .slice Ao20 t297.length co20] 25 (0, 0)) (by (with_reducible repeat (first | refine blk_drewN ?_ _ | refine blk_drew ?_ | refine blk_alloc ?_ _)); exact BK289.out) hb); have n6_ := Aside0.mk (Kd.C_below (by repeat (first | (with_reducible exact HR306_3.out) | (with_reducible refine Kd.C_alloc ?_ _) | (with_reducible refine Kd.C_drewN ?_ _) | (with_reducible refine Kd.C_drew ?_) | exact HR306_3.out)) hb); have n7_ := Aside0.mk (Kd.C_below (by repeat (first | (with_reducible exact HR306_4.out) | (with_reducible refine Kd.C_alloc ?_ _) | (with_reducible refine Kd.C_drewN ?_ _) | (with_reducible refine Kd.C_drew ?_) | exact HR306_4.out)) hb); have n8_ := Aside0.mk (below_step (by repeat (first | (with_reducible first | exact HB.out | apply below_alloc | apply pw_below_drewN | apply below_drew1 | refine below_set ?_ GE289.out) | exact HB.out)) hb); have n9_ := Aside0.mk (hbox); have n10_ := Aside0.mk ((by rw [hg]; exact (below_size (by repeat (first | (with_reducible first | exact HB.out | apply below_alloc | apply pw_below_drewN | apply below_drew1 | refine below_set ?_ GE289.out) | exact HB.out))) : w.heap.size ≤ gb307)); have n11_ := Aside0.mk ((by rw [hg]; exact (below_size (by repeat (first | (with_reducible first | exact HB.out | apply below_alloc | apply pw_below_drewN | apply below_drew1 | refine below_set ?_ GE289.out) | exact HB.out))) : w.heap.size ≤ gb307)); have n12_ := Aside0.mk ((by rw [hg]; exact Nat.ne_of_lt (blk_lt (g := gb289) (o := .cells #[.int .i64 t291, .int .i64 t292, .int .i64 t293, .slice Ao19 t294.length co19, .slice Ao20 t297.length co20] 25 (0, 0)) (by (with_reducible repeat (first | refine blk_drewN ?_ _ | refine blk_drew ?_ | refine blk_alloc ?_ _)); exact BK289.out)) : gb289 ≠ gb307)); have n13_ := Aside0.mk ((by rw [hg]; exact Nat.ne_of_gt (blk_lt (g := gb289) (o := .cells #[.int .i64 t291, .int .i64 t292, .int .i64 t293, .slice Ao19 t294.length co19, .slice Ao20 t297.length co20] 25 (0, 0)) (by (with_reducible repeat (first | refine blk_drewN ?_ _ | refine blk_drew ?_ | refine blk_alloc ?_ _)); exact BK289.out)) : gb307 ≠ gb289)); clear HO_39; clear HO_290003; clear HO_290004; clear HL306_3; clear HL306_4; clear BK289; clear HR306_3; clear HR306_4; clear HB; have HO_39 := n0_; have HO_290003 := n1_; have HO_290004 := n2_; have HL306_3 := n3_; have HL306_4 := n4_; have BK289 := n5_; have HR306_3 := n6_; have HR306_4 := n7_; have HB := n8_; have BK307 := n9_; have GW307 := n10_; have GE307 := n11_; have NB289_307 := n12_; have NB307_289 := n13_; clear n0_ n1_ n2_ n3_ n4_ n5_ n6_ n7_ n8_ n9_ n10_ n11_ n12_ n13_; clear hb hbox hg; have hnb29 := NB307_289.out; have hnc29 := NB289_307.out; have hcz30_0 : w28.cell? ⟨gb307, 0, none⟩ = some (.int .i64 0) := (blk_cell BK307.out 0).trans rfl; have hcz30_1 : w28.cell? ⟨gb307, 1, none⟩ = some (.int .i64 0) := (blk_cell BK307.out 1).trans rfl; have hcz30_2 : w28.cell? ⟨gb307, 2, none⟩ = some (.int .i64 0) := (blk_cell BK307.out 2).trans rfl; have hcz30_3 : w28.cell? ⟨gb307, 3, none⟩ = some (.slice none 0 0) := (blk_cell BK307.out 3).trans rfl; have hcz30_4 : w28.cell? ⟨gb307, 4, none⟩ = some (.slice none 0 0) := (blk_cell BK307.out 4).trans rfl; have hfz30_0 := blk_frozen BK307.out 0; have hfz30_1 := blk_frozen BK307.out 1; have hfz30_2 := blk_frozen BK307.out 2; have hfz30_3 := blk_frozen BK307.out 3; have hfz30_4 := blk_frozen BK307.out 4))
                    (try simp only [Act.put, List.setIfInBounds_toArray, List.set_cons_succ, List.set_cons_zero])
                    go_loopg [48] k2 (fun kq v48 w' => ∃ (x48_3 : Int), v48 = .int .i64 x48_3 ∧ Aside0 (laws_FnSjTail.l1 kq t290 t301 (t301.length : Int) x41_2 (((rd_T25 t301 x41_2).f4).length : Int) x48_3 ((rd_T25 t301 x41_2).f0) ((rd_T25 t301 x41_2).f1) ((rd_T25 t301 x41_2).f2) ((rd_T25 t301 x41_2).f3) ((rd_T25 t301 x41_2).f4) = some r) ∧ Aside0 (kq ≤ k2) ∧ Aside0 (Kd.N k25 25 w' w.heap.size (fun k_ => k_ ≠ gb289 ∧ k_ ≠ gb307) (.slice (some ad306) t301.length co24) t301) ∧ Aside0 (Kd.R k31 31 w' w.heap.size (fun _ => True) (.slice Ao19 t294.length co19) t294) ∧ Aside0 (Kd.N k25 25 w' w.heap.size (fun k_ => some k_ ≠ ((.slice (some ad306) t301.length co24) : Value).ownBlock ∧ some k_ ≠ ((.slice Ao19 t294.length co19) : Value).ownBlock ∧ k_ ≠ gb289 ∧ k_ ≠ gb307) (.slice Ao20 t297.length co20) t297) ∧ Aside0 (w'.heap[gb289]? = some (.cells #[.int .i64 t291, .int .i64 t292, .int .i64 t293, (.slice Ao19 t294.length co19), (.slice Ao20 t297.length co20)] 25 (0, 0))) ∧ Aside0 (w'.heap[gb307]? = some (.cells #[.int .i64 ((rd_T25 t301 x41_2).f0), .int .i64 ((rd_T25 t301 x41_2).f1), .int .i64 ((rd_T25 t301 x41_2).f2), (.slice A306_3 ((rd_T25 t301 x41_2).f3).length c306_3), (.slice A306_4 ((rd_T25 t301 x41_2).f4).length c306_4)] 25 (0, 0))) ∧ Aside0 (Kd.C k31 w' A306_3 ((rd_T25 t301 x41_2).f3).length ((rd_T25 t301 x41_2).f3)) ∧ Aside0 (Kd.C k25 w' A306_4 ((rd_T25 t301 x41_2).f4).length ((rd_T25 t301 x41_2).f4)) ∧ Aside0 (Below w.heap.size w w'))
                    case atStart => exact ⟨(0), (by first | rfl | (simp; done) | (simp [*]; done)), H', ⟨Nat.le_refl _⟩, ⟨by (with_reducible repeat (first | apply Kd.N_alloc | apply Kd.N_drewN | apply Kd.N_drew)); exact Kd.N_mono (Kd.N_far (p := ⟨gb307, 4, none⟩) (Kd.N_far (p := ⟨gb307, 3, none⟩) (Kd.N_far (p := ⟨gb307, 2, none⟩) (Kd.N_far (p := ⟨gb307, 1, none⟩) (Kd.N_far (p := ⟨gb307, 0, none⟩) (Kd.N_mono HO_39.out (fun k_ hk => (⟨hk, hk.2⟩ : _ ∧ k_ ≠ gb307))) (fun _ hk => hk.2) (.int .i64 ((rd_T25 t301 x41_2).f0))) (fun _ hk => hk.2) (.int .i64 ((rd_T25 t301 x41_2).f1))) (fun _ hk => hk.2) (.int .i64 ((rd_T25 t301 x41_2).f2))) (fun _ hk => hk.2) (.slice A306_3 ((rd_T25 t301 x41_2).f3).length c306_3)) (fun _ hk => hk.2) (.slice A306_4 ((rd_T25 t301 x41_2).f4).length c306_4)) (fun _ hk => ⟨hk.1.1, hk.1.2⟩)⟩, ⟨by (with_reducible repeat (first | apply Kd.R_alloc | apply Kd.R_drewN | apply Kd.R_drew)); exact Kd.R_mono (Kd.R_far (p := ⟨gb307, 4, none⟩) (Kd.R_far (p := ⟨gb307, 3, none⟩) (Kd.R_far (p := ⟨gb307, 2, none⟩) (Kd.R_far (p := ⟨gb307, 1, none⟩) (Kd.R_far (p := ⟨gb307, 0, none⟩) (Kd.R_types HO_290003.out BK307.out (by decide)) (fun _ hk => hk.2) (.int .i64 ((rd_T25 t301 x41_2).f0))) (fun _ hk => hk.2) (.int .i64 ((rd_T25 t301 x41_2).f1))) (fun _ hk => hk.2) (.int .i64 ((rd_T25 t301 x41_2).f2))) (fun _ hk => hk.2) (.slice A306_3 ((rd_T25 t301 x41_2).f3).length c306_3)) (fun _ hk => hk.2) (.slice A306_4 ((rd_T25 t301 x41_2).f4).length c306_4)) (fun _ hk => trivial)⟩, ⟨by (with_reducible repeat (first | apply Kd.N_alloc | apply Kd.N_drewN | apply Kd.N_drew)); exact Kd.N_mono (Kd.N_far (p := ⟨gb307, 4, none⟩) (Kd.N_far (p := ⟨gb307, 3, none⟩) (Kd.N_far (p := ⟨gb307, 2, none⟩) (Kd.N_far (p := ⟨gb307, 1, none⟩) (Kd.N_far (p := ⟨gb307, 0, none⟩) (Kd.N_mono HO_290004.out (fun k_ hk => (⟨hk, hk.2⟩ : _ ∧ k_ ≠ gb307))) (fun _ hk => hk.2) (.int .i64 ((rd_T25 t301 x41_2).f0))) (fun _ hk => hk.2) (.int .i64 ((rd_T25 t301 x41_2).f1))) (fun _ hk => hk.2) (.int .i64 ((rd_T25 t301 x41_2).f2))) (fun _ hk => hk.2) (.slice A306_3 ((rd_T25 t301 x41_2).f3).length c306_3)) (fun _ hk => hk.2) (.slice A306_4 ((rd_T25 t301 x41_2).f4).length c306_4)) (fun _ hk => ⟨hk.1.1.1, ⟨hk.1.1.2.1, ⟨hk.1.1.2.2, hk.1.2⟩⟩⟩)⟩, ⟨by (with_reducible repeat (first | refine blk_drewN ?_ _ | refine blk_drew ?_ | refine blk_alloc ?_ _)); refine blk_far ?_ NB289_307.out _; (with_reducible repeat (first | refine blk_drewN ?_ _ | refine blk_drew ?_ | refine blk_alloc ?_ _)); refine blk_far ?_ NB289_307.out _; (with_reducible repeat (first | refine blk_drewN ?_ _ | refine blk_drew ?_ | refine blk_alloc ?_ _)); refine blk_far ?_ NB289_307.out _; (with_reducible repeat (first | refine blk_drewN ?_ _ | refine blk_drew ?_ | refine blk_alloc ?_ _)); refine blk_far ?_ NB289_307.out _; (with_reducible repeat (first | refine blk_drewN ?_ _ | refine blk_drew ?_ | refine blk_alloc ?_ _)); refine blk_far ?_ NB289_307.out _; (with_reducible repeat (first | refine blk_drewN ?_ _ | refine blk_drew ?_ | refine blk_alloc ?_ _)); exact BK289.out⟩, ⟨by (with_reducible repeat (first | refine blk_drewN ?_ _ | refine blk_drew ?_ | refine blk_alloc ?_ _)); refine blk_put (cs := #[.int .i64 ((rd_T25 t301 x41_2).f0), .int .i64 ((rd_T25 t301 x41_2).f1), .int .i64 ((rd_T25 t301 x41_2).f2), .slice A306_3 ((rd_T25 t301 x41_2).f3).length c306_3, .slice none 0 0]) ?_ 4 _ rfl; (with_reducible repeat (first | refine blk_drewN ?_ _ | refine blk_drew ?_ | refine blk_alloc ?_ _)); refine blk_put (cs := #[.int .i64 ((rd_T25 t301 x41_2).f0), .int .i64 ((rd_T25 t301 x41_2).f1), .int .i64 ((rd_T25 t301 x41_2).f2), .slice none 0 0, .slice none 0 0]) ?_ 3 _ rfl; (with_reducible repeat (first | refine blk_drewN ?_ _ | refine blk_drew ?_ | refine blk_alloc ?_ _)); refine blk_put (cs := #[.int .i64 ((rd_T25 t301 x41_2).f0), .int .i64 ((rd_T25 t301 x41_2).f1), .int .i64 0, .slice none 0 0, .slice none 0 0]) ?_ 2 _ rfl; (with_reducible repeat (first | refine blk_drewN ?_ _ | refine blk_drew ?_ | refine blk_alloc ?_ _)); refine blk_put (cs := #[.int .i64 ((rd_T25 t301 x41_2).f0), .int .i64 0, .int .i64 0, .slice none 0 0, .slice none 0 0]) ?_ 1 _ rfl; (with_reducible repeat (first | refine blk_drewN ?_ _ | refine blk_drew ?_ | refine blk_alloc ?_ _)); refine blk_put (cs := #[.int .i64 0, .int .i64 0, .int .i64 0, .slice none 0 0, .slice none 0 0]) ?_ 0 _ rfl; (with_reducible repeat (first | refine blk_drewN ?_ _ | refine blk_drew ?_ | refine blk_alloc ?_ _)); exact BK307.out⟩, ⟨(Kd.V_reads' (by (with_reducible repeat (first | apply Kd.V_alloc | apply Kd.V_drewN | apply Kd.V_drew)); exact (Kd.V_mono (Kd.V_far (p := ⟨gb307, 4, none⟩) (Kd.V_far (p := ⟨gb307, 3, none⟩) (Kd.V_far (p := ⟨gb307, 2, none⟩) (Kd.V_far (p := ⟨gb307, 1, none⟩) (Kd.V_far (p := ⟨gb307, 0, none⟩) (Kd.V_mono HL306_3.out (fun k_ hk => (⟨hk, hk.2⟩ : _ ∧ k_ ≠ gb307))) (fun _ hk => hk.2) (.int .i64 ((rd_T25 t301 x41_2).f0))) (fun _ hk => hk.2) (.int .i64 ((rd_T25 t301 x41_2).f1))) (fun _ hk => hk.2) (.int .i64 ((rd_T25 t301 x41_2).f2))) (fun _ hk => hk.2) (.slice A306_3 ((rd_T25 t301 x41_2).f3).length c306_3)) (fun _ hk => hk.2) (.slice A306_4 ((rd_T25 t301 x41_2).f4).length c306_4)) (fun _ h_ => h_.1)))).2.2⟩, ⟨(Kd.V_reads' (by (with_reducible repeat (first | apply Kd.V_alloc | apply Kd.V_drewN | apply Kd.V_drew)); exact (Kd.V_mono (Kd.V_far (p := ⟨gb307, 4, none⟩) (Kd.V_far (p := ⟨gb307, 3, none⟩) (Kd.V_far (p := ⟨gb307, 2, none⟩) (Kd.V_far (p := ⟨gb307, 1, none⟩) (Kd.V_far (p := ⟨gb307, 0, none⟩) (Kd.V_mono HL306_4.out (fun k_ hk => (⟨hk, hk.2⟩ : _ ∧ k_ ≠ gb307))) (fun _ hk => hk.2) (.int .i64 ((rd_T25 t301 x41_2).f0))) (fun _ hk => hk.2) (.int .i64 ((rd_T25 t301 x41_2).f1))) (fun _ hk => hk.2) (.int .i64 ((rd_T25 t301 x41_2).f2))) (fun _ hk => hk.2) (.slice A306_3 ((rd_T25 t301 x41_2).f3).length c306_3)) (fun _ hk => hk.2) (.slice A306_4 ((rd_T25 t301 x41_2).f4).length c306_4)) (fun _ h_ => h_.1)))).2.2⟩, ⟨by repeat (first | (with_reducible first | exact HB.out | apply below_alloc | apply pw_below_drewN | apply below_drew1 | refine below_set ?_ GE289.out | refine below_set ?_ GE307.out) | exact HB.out)⟩⟩
                    case round =>
                      clear H'
                      try clear c1
                      try clear c2
                      try clear c2b0
                      try clear c2b1
                      try clear p2
                      try clear c3
                      try clear p3
                      try clear q3
                      try clear hx3
                      try clear c4
                      try clear c5
                      try clear c6
                      try clear c10
                      try clear c11
                      try clear c25
                      try clear c25b0
                      try clear c26
                      try clear c26b0
                      try clear c27
                      try clear c27b0
                      try clear c29
                      try clear c30
                      try clear p30
                      try clear q30
                      try clear hx30
                      try clear hcz15_0
                      try clear hcz15_1
                      try clear hcz15_2
                      try clear hcz15_3
                      try clear hcz15_4
                      try clear hcz18_0
                      try clear hcz18_1
                      try clear hcz18_2
                      try clear hcz18_3
                      try clear hcz18_4
                      try clear hcz22_0
                      try clear hcz22_1
                      try clear hcz22_2
                      try clear hcz22_3
                      try clear hcz22_4
                      try clear hcz30_0
                      try clear hcz30_1
                      try clear hcz30_2
                      try clear hcz30_3
                      try clear hcz30_4
                      try clear hcz7_0
                      try clear hcz7_1
                      try clear hcz7_2
                      try clear hcz7_3
                      try clear hcz7_4
                      try clear hfz15_0
                      try clear hfz15_1
                      try clear hfz15_2
                      try clear hfz15_3
                      try clear hfz15_4
                      try clear hfz18_0
                      try clear hfz18_1
                      try clear hfz18_2
                      try clear hfz18_3
                      try clear hfz18_4
                      try clear hfz22_0
                      try clear hfz22_1
                      try clear hfz22_2
                      try clear hfz22_3
                      try clear hfz22_4
                      try clear hfz30_0
                      try clear hfz30_1
                      try clear hfz30_2
                      try clear hfz30_3
                      try clear hfz30_4
                      try clear hfz7_0
                      try clear hfz7_1
                      try clear hfz7_2
                      try clear hfz7_3
                      try clear hfz7_4
                      try clear hx306_0
                      try clear hx306_1
                      try clear hx306_2
                      try clear hx306_3
                      try clear hx306_4
                      try clear p2
                      try clear p306
                      try clear q306
                      obtain ⟨x48_3, rfl, HA, HK3, HO_39, HO_290003, HO_290004, BK289, BK307, HR306_3, HR306_4, HB⟩ := hrel
                      cases gk with
                      | zero => exact absurd HA.out (by simp [laws_FnSjTail.l1])
                      | succ k3 =>
                        have H := HA.out
                        clear HA
                        simp only [laws_FnSjTail.l1] at H
                        by_cases c31 : x48_3 < (((rd_T25 t301 x41_2).f4).length : Int)
                        · rw [if_pos c31] at H
                          have c31b0 : decide (x48_3 < (((rd_T25 t301 x41_2).f4).length : Int)) = true := decide_eq_true c31
                          clear c31
                          have HC32 := Aside0.mk H
                          clear H
                          go_upto_region 14 with (fail)
                          go_cut [65] (fun v65 wc => ∃ (kq : Nat) (x65_31 : Bool), v65 = .bool x65_31 ∧ Aside0 (laws_FnSjTail.j3 kq t290 x48_3 t301 (t301.length : Int) x41_2 (((rd_T25 t301 x41_2).f4).length : Int) x48_3 x65_31 ((rd_T25 t301 x41_2).f0) ((rd_T25 t301 x41_2).f1) ((rd_T25 t301 x41_2).f2) ((rd_T25 t301 x41_2).f3) ((rd_T25 t301 x41_2).f4) = some r) ∧ Aside0 (kq ≤ k3) ∧ Aside0 (Kd.N k25 25 wc w.heap.size (fun k_ => k_ ≠ gb289 ∧ k_ ≠ gb307) (.slice (some ad306) t301.length co24) t301) ∧ Aside0 (Kd.R k31 31 wc w.heap.size (fun _ => True) (.slice Ao19 t294.length co19) t294) ∧ Aside0 (Kd.N k25 25 wc w.heap.size (fun k_ => some k_ ≠ ((.slice (some ad306) t301.length co24) : Value).ownBlock ∧ some k_ ≠ ((.slice Ao19 t294.length co19) : Value).ownBlock ∧ k_ ≠ gb289 ∧ k_ ≠ gb307) (.slice Ao20 t297.length co20) t297) ∧ Aside0 (wc.heap[gb289]? = some (.cells #[.int .i64 t291, .int .i64 t292, .int .i64 t293, (.slice Ao19 t294.length co19), (.slice Ao20 t297.length co20)] 25 (0, 0))) ∧ Aside0 (wc.heap[gb307]? = some (.cells #[.int .i64 ((rd_T25 t301 x41_2).f0), .int .i64 ((rd_T25 t301 x41_2).f1), .int .i64 ((rd_T25 t301 x41_2).f2), (.slice A306_3 ((rd_T25 t301 x41_2).f3).length c306_3), (.slice A306_4 ((rd_T25 t301 x41_2).f4).length c306_4)] 25 (0, 0))) ∧ Aside0 (Kd.C k31 wc A306_3 ((rd_T25 t301 x41_2).f3).length ((rd_T25 t301 x41_2).f3)) ∧ Aside0 (Kd.C k25 wc A306_4 ((rd_T25 t301 x41_2).f4).length ((rd_T25 t301 x41_2).f4)) ∧ Aside0 (Below w.heap.size w wc))
                          case first =>
                            have H := HC32.out
                            clear HC32
                            by_cases c33 : ((rd_T25 t301 x41_2).f0) = 6
                            · rw [if_pos c33] at H
                              have c33b0 : (((rd_T25 t301 x41_2).f0) == 6) = true := beq_iff_eq.mpr c33
                              have c33b1 : (((rd_T25 t301 x41_2).f0) != 6) = false := bne_eq_false_iff_eq.mpr c33
                              clear c33
                              (first | rw [c33b0] | (simp only [i64_w, i32_w]; rw [c33b0]) | skip)
                              by_cases c34 : 0 ≤ x48_3
                              · rw [if_pos c34] at H
                                have c34b0 : decide (0 ≤ x48_3) = true := decide_eq_true c34
                                clear c34
                                by_cases c35 : x48_3 < (((rd_T25 t301 x41_2).f3).length : Int)
                                · rw [if_pos c35] at H
                                  have c35b0 : decide (x48_3 < (((rd_T25 t301 x41_2).f3).length : Int)) = true := decide_eq_true c35
                                  clear c35
                                  obtain ⟨ji36, hji36⟩ : ∃ j_ : Int, (wrap64 (((rd_T31 ((rd_T25 t301 x41_2).f3) x48_3).f0) + 1)) = j_ := ⟨_, rfl⟩
                                  replace H : (if 0 ≤ (ji36) then (if (ji36) < (t290.size : Int) then (laws_FnSjTail.j3 k3 t290 x48_3 t301 (t301.length : Int) x41_2 (((rd_T25 t301 x41_2).f4).length : Int) x48_3 ((bt t290 (ji36)) == 92) ((rd_T25 t301 x41_2).f0) ((rd_T25 t301 x41_2).f1) ((rd_T25 t301 x41_2).f2) ((rd_T25 t301 x41_2).f3) ((rd_T25 t301 x41_2).f4)) else (none)) else (none)) = some r := by first | (rw [hji36] at H; exact H) | (simp only [hji36] at H ⊢; exact H)
                                  have hji36w : (IntKind.i64.wrap (((rd_T31 ((rd_T25 t301 x41_2).f3) x48_3).f0) + 1)) = ji36 := (i64_w _).trans hji36
                                  by_cases c37 : 0 ≤ (ji36)
                                  · rw [if_pos c37] at H
                                    have c37b0 : decide (0 ≤ (ji36)) = true := decide_eq_true c37
                                    clear c37
                                    by_cases c38 : (ji36) < (t290.size : Int)
                                    · rw [if_pos c38] at H
                                      have c38b0 : decide ((ji36) < (t290.size : Int)) = true := decide_eq_true c38
                                      clear c38
                                      have H' := Aside0.mk H
                                      clear H
                                      have hnb40 := NB307_289.out
                                      have hnc40 := NB289_307.out
                                      have hcz41_0 : wr.cell? ⟨gb307, 0, none⟩ = some (.int .i64 ((rd_T25 t301 x41_2).f0)) := (blk_cell BK307.out 0).trans rfl
                                      have hcz41_1 : wr.cell? ⟨gb307, 1, none⟩ = some (.int .i64 ((rd_T25 t301 x41_2).f1)) := (blk_cell BK307.out 1).trans rfl
                                      have hcz41_2 : wr.cell? ⟨gb307, 2, none⟩ = some (.int .i64 ((rd_T25 t301 x41_2).f2)) := (blk_cell BK307.out 2).trans rfl
                                      have hcz41_3 : wr.cell? ⟨gb307, 3, none⟩ = some (.slice A306_3 ((rd_T25 t301 x41_2).f3).length c306_3) := (blk_cell BK307.out 3).trans rfl
                                      have hcz41_4 : wr.cell? ⟨gb307, 4, none⟩ = some (.slice A306_4 ((rd_T25 t301 x41_2).f4).length c306_4) := (blk_cell BK307.out 4).trans rfl
                                      have hfz41_0 := blk_frozen BK307.out 0
                                      have hfz41_1 := blk_frozen BK307.out 1
                                      have hfz41_2 := blk_frozen BK307.out 2
                                      have hfz41_3 := blk_frozen BK307.out 3
                                      have hfz41_4 := blk_frozen BK307.out 4
                                      have p308 : 0 ≤ (x48_3 : Int) := of_decide_eq_true (by first | (with_reducible assumption) | assumption)
                                      have q308 : x48_3 < (((rd_T25 t301 x41_2).f3).length : Int) := of_decide_eq_true (by first | (with_reducible assumption) | assumption)
                                      obtain ⟨ad308, e308, hx308_0, hx308_1⟩ := at_T31 HR306_3.out x48_3 p308 q308
                                      cases e308
                                      replace p308 := eq_true p308
                                      replace q308 := eq_true q308
                                      have p39 : 0 ≤ ((ji36) : Int) := of_decide_eq_true (by first | (with_reducible assumption) | assumption)
                                      have q39 : (ji36) < (t290.size : Int) := of_decide_eq_true (by first | (with_reducible assumption) | assumption)
                                      have hx39 := bt_at t290 (ji36)
                                      replace p39 := eq_true p39
                                      replace q39 := eq_true q39
                                      go_wp2
                                      go_meet
                                      case rel => exact ⟨_, (((bt t290 (ji36)) == 92)), (by first | rfl | (simp; done) | (simp only [← hji36] <;> (first | rfl | simp)) | (simp [*]; done)), H', ⟨by have := HJ3.out; have := HK2.out; have := HK3.out; first | omega | exact Nat.le_refl _⟩, ⟨by (with_reducible repeat (first | apply Kd.N_alloc | apply Kd.N_drewN | apply Kd.N_drew)); exact HO_39.out⟩, ⟨by (with_reducible repeat (first | apply Kd.R_alloc | apply Kd.R_drewN | apply Kd.R_drew)); exact HO_290003.out⟩, ⟨by (with_reducible repeat (first | apply Kd.N_alloc | apply Kd.N_drewN | apply Kd.N_drew)); exact HO_290004.out⟩, ⟨by (with_reducible repeat (first | refine blk_drewN ?_ _ | refine blk_drew ?_ | refine blk_alloc ?_ _)); exact BK289.out⟩, ⟨by (with_reducible repeat (first | refine blk_drewN ?_ _ | refine blk_drew ?_ | refine blk_alloc ?_ _)); exact BK307.out⟩, ⟨by repeat (first | (with_reducible exact HR306_3.out) | (with_reducible refine Kd.C_alloc ?_ _) | (with_reducible refine Kd.C_drewN ?_ _) | (with_reducible refine Kd.C_drew ?_) | exact HR306_3.out)⟩, ⟨by repeat (first | (with_reducible exact HR306_4.out) | (with_reducible refine Kd.C_alloc ?_ _) | (with_reducible refine Kd.C_drewN ?_ _) | (with_reducible refine Kd.C_drew ?_) | exact HR306_4.out)⟩, ⟨by repeat (first | (with_reducible first | exact HB.out | apply below_alloc | apply pw_below_drewN | apply below_drew1 | refine below_set ?_ GE289.out | refine below_set ?_ GE307.out) | exact HB.out)⟩⟩
                                    · rw [if_neg c38] at H
                                      exact absurd H (by simp)
                                  · rw [if_neg c37] at H
                                    exact absurd H (by simp)
                                · rw [if_neg c35] at H
                                  exact absurd H (by simp)
                              · rw [if_neg c34] at H
                                exact absurd H (by simp)
                            · rw [if_neg c33] at H
                              have c33b0 : (((rd_T25 t301 x41_2).f0) == 6) = false := beq_eq_false_iff_ne.mpr c33
                              have c33b1 : (((rd_T25 t301 x41_2).f0) != 6) = true := bne_iff_ne.mpr c33
                              (first | rw [c33b0] | (simp only [i64_w, i32_w]; rw [c33b0]) | skip)
                              have H' := Aside0.mk H
                              clear H
                              have hnb42 := NB307_289.out
                              have hnc42 := NB289_307.out
                              have hcz43_0 : wr.cell? ⟨gb307, 0, none⟩ = some (.int .i64 ((rd_T25 t301 x41_2).f0)) := (blk_cell BK307.out 0).trans rfl
                              have hcz43_1 : wr.cell? ⟨gb307, 1, none⟩ = some (.int .i64 ((rd_T25 t301 x41_2).f1)) := (blk_cell BK307.out 1).trans rfl
                              have hcz43_2 : wr.cell? ⟨gb307, 2, none⟩ = some (.int .i64 ((rd_T25 t301 x41_2).f2)) := (blk_cell BK307.out 2).trans rfl
                              have hcz43_3 : wr.cell? ⟨gb307, 3, none⟩ = some (.slice A306_3 ((rd_T25 t301 x41_2).f3).length c306_3) := (blk_cell BK307.out 3).trans rfl
                              have hcz43_4 : wr.cell? ⟨gb307, 4, none⟩ = some (.slice A306_4 ((rd_T25 t301 x41_2).f4).length c306_4) := (blk_cell BK307.out 4).trans rfl
                              have hfz43_0 := blk_frozen BK307.out 0
                              have hfz43_1 := blk_frozen BK307.out 1
                              have hfz43_2 := blk_frozen BK307.out 2
                              have hfz43_3 := blk_frozen BK307.out 3
                              have hfz43_4 := blk_frozen BK307.out 4
                              go_wp2
                              go_meet
                              case rel => exact ⟨_, (false), (by first | rfl | (simp; done) | (simp [*]; done)), H', ⟨by have := HJ3.out; have := HK2.out; have := HK3.out; first | omega | exact Nat.le_refl _⟩, ⟨by (with_reducible repeat (first | apply Kd.N_alloc | apply Kd.N_drewN | apply Kd.N_drew)); exact HO_39.out⟩, ⟨by (with_reducible repeat (first | apply Kd.R_alloc | apply Kd.R_drewN | apply Kd.R_drew)); exact HO_290003.out⟩, ⟨by (with_reducible repeat (first | apply Kd.N_alloc | apply Kd.N_drewN | apply Kd.N_drew)); exact HO_290004.out⟩, ⟨by (with_reducible repeat (first | refine blk_drewN ?_ _ | refine blk_drew ?_ | refine blk_alloc ?_ _)); exact BK289.out⟩, ⟨by (with_reducible repeat (first | refine blk_drewN ?_ _ | refine blk_drew ?_ | refine blk_alloc ?_ _)); exact BK307.out⟩, ⟨by repeat (first | (with_reducible exact HR306_3.out) | (with_reducible refine Kd.C_alloc ?_ _) | (with_reducible refine Kd.C_drewN ?_ _) | (with_reducible refine Kd.C_drew ?_) | exact HR306_3.out)⟩, ⟨by repeat (first | (with_reducible exact HR306_4.out) | (with_reducible refine Kd.C_alloc ?_ _) | (with_reducible refine Kd.C_drewN ?_ _) | (with_reducible refine Kd.C_drew ?_) | exact HR306_4.out)⟩, ⟨by repeat (first | (with_reducible first | exact HB.out | apply below_alloc | apply pw_below_drewN | apply below_drew1 | refine below_set ?_ GE289.out | refine below_set ?_ GE307.out) | exact HB.out)⟩⟩
                          case rest =>
                            clear HC32
                            try clear c1
                            try clear c2
                            try clear c2b0
                            try clear c2b1
                            try clear p2
                            try clear c3
                            try clear p3
                            try clear q3
                            try clear hx3
                            try clear c4
                            try clear c5
                            try clear c6
                            try clear p6
                            try clear c10
                            try clear c11
                            try clear c25
                            try clear c25b0
                            try clear c26
                            try clear c26b0
                            try clear c27
                            try clear c27b0
                            try clear c29
                            try clear c30
                            try clear p30
                            try clear q30
                            try clear hx30
                            try clear c31
                            try clear c31b0
                            try clear c33
                            try clear c33b0
                            try clear c33b1
                            try clear c34
                            try clear c34b0
                            try clear c35
                            try clear c35b0
                            try clear c37
                            try clear c37b0
                            try clear c38
                            try clear c38b0
                            try clear p39
                            try clear q39
                            try clear hx39
                            try clear c40
                            try clear c42
                            try clear hcz15_0
                            try clear hcz15_1
                            try clear hcz15_2
                            try clear hcz15_3
                            try clear hcz15_4
                            try clear hcz18_0
                            try clear hcz18_1
                            try clear hcz18_2
                            try clear hcz18_3
                            try clear hcz18_4
                            try clear hcz22_0
                            try clear hcz22_1
                            try clear hcz22_2
                            try clear hcz22_3
                            try clear hcz22_4
                            try clear hcz30_0
                            try clear hcz30_1
                            try clear hcz30_2
                            try clear hcz30_3
                            try clear hcz30_4
                            try clear hcz41_0
                            try clear hcz41_1
                            try clear hcz41_2
                            try clear hcz41_3
                            try clear hcz41_4
                            try clear hcz43_0
                            try clear hcz43_1
                            try clear hcz43_2
                            try clear hcz43_3
                            try clear hcz43_4
                            try clear hcz7_0
                            try clear hcz7_1
                            try clear hcz7_2
                            try clear hcz7_3
                            try clear hcz7_4
                            try clear hfz15_0
                            try clear hfz15_1
                            try clear hfz15_2
                            try clear hfz15_3
                            try clear hfz15_4
                            try clear hfz18_0
                            try clear hfz18_1
                            try clear hfz18_2
                            try clear hfz18_3
                            try clear hfz18_4
                            try clear hfz22_0
                            try clear hfz22_1
                            try clear hfz22_2
                            try clear hfz22_3
                            try clear hfz22_4
                            try clear hfz30_0
                            try clear hfz30_1
                            try clear hfz30_2
                            try clear hfz30_3
                            try clear hfz30_4
                            try clear hfz41_0
                            try clear hfz41_1
                            try clear hfz41_2
                            try clear hfz41_3
                            try clear hfz41_4
                            try clear hfz43_0
                            try clear hfz43_1
                            try clear hfz43_2
                            try clear hfz43_3
                            try clear hfz43_4
                            try clear hfz7_0
                            try clear hfz7_1
                            try clear hfz7_2
                            try clear hfz7_3
                            try clear hfz7_4
                            try clear hx306_0
                            try clear hx306_1
                            try clear hx306_2
                            try clear hx306_3
                            try clear hx306_4
                            try clear hx308_0
                            try clear hx308_1
                            try clear p2
                            try clear p3
                            try clear p30
                            try clear p306
                            try clear p308
                            try clear p39
                            try clear q3
                            try clear q30
                            try clear q306
                            try clear q308
                            try clear q39
                            obtain ⟨kq, x65_31, rfl, HA, HJ31, HO_39, HO_290003, HO_290004, BK289, BK307, HR306_3, HR306_4, HB⟩ := hcut
                            cases kq with
                            | zero => exact absurd HA.out (by simp [laws_FnSjTail.j3])
                            | succ kj31 =>
                              have H := HA.out
                              clear HA
                              simp only [laws_FnSjTail.j3] at H
                              by_cases c44 : x65_31 = true
                              · subst c44
                                have H1 : (laws_FnSjTail.l1 kj31 t290 t301 (t301.length : Int) x41_2 (((rd_T25 t301 x41_2).f4).length : Int) (wrap64 (x48_3 + 1)) ((rd_T25 t301 x41_2).f0) ((rd_T25 t301 x41_2).f1) ((rd_T25 t301 x41_2).f2) ((rd_T25 t301 x41_2).f3) ((rd_T25 t301 x41_2).f4)) = some r := by rw [if_pos rfl] at H; exact H
                                clear H
                                have H := H1
                                clear H1
                                have H' := Aside0.mk H
                                clear H
                                go_wp2
                                go_roundg kj31
                                case measure => have := HJ3.out; have := HK2.out; have := HK3.out; have := HJ31.out; omega
                                case rel => exact ⟨(wrap64 (x48_3 + 1)), (by first | rfl | (simp; done) | (simp [*]; done)), H', ⟨by have := HJ3.out; have := HK2.out; have := HK3.out; have := HJ31.out; omega⟩, ⟨by (with_reducible repeat (first | apply Kd.N_alloc | apply Kd.N_drewN | apply Kd.N_drew)); exact HO_39.out⟩, ⟨by (with_reducible repeat (first | apply Kd.R_alloc | apply Kd.R_drewN | apply Kd.R_drew)); exact HO_290003.out⟩, ⟨by (with_reducible repeat (first | apply Kd.N_alloc | apply Kd.N_drewN | apply Kd.N_drew)); exact HO_290004.out⟩, ⟨by (with_reducible repeat (first | refine blk_drewN ?_ _ | refine blk_drew ?_ | refine blk_alloc ?_ _)); exact BK289.out⟩, ⟨by (with_reducible repeat (first | refine blk_drewN ?_ _ | refine blk_drew ?_ | refine blk_alloc ?_ _)); exact BK307.out⟩, ⟨by repeat (first | (with_reducible exact HR306_3.out) | (with_reducible refine Kd.C_alloc ?_ _) | (with_reducible refine Kd.C_drewN ?_ _) | (with_reducible refine Kd.C_drew ?_) | exact HR306_3.out)⟩, ⟨by repeat (first | (with_reducible exact HR306_4.out) | (with_reducible refine Kd.C_alloc ?_ _) | (with_reducible refine Kd.C_drewN ?_ _) | (with_reducible refine Kd.C_drew ?_) | exact HR306_4.out)⟩, ⟨by repeat (first | (with_reducible first | exact HB.out | apply below_alloc | apply pw_below_drewN | apply below_drew1 | refine below_set ?_ GE289.out | refine below_set ?_ GE307.out) | exact HB.out)⟩⟩
                              · replace c44 := Bool.eq_false_iff.mpr c44
                                subst c44
                                have H1 : (if x48_3 > 0 then (if 0 ≤ (wrap64 (x48_3 - 1)) then (if (wrap64 (x48_3 - 1)) < (((rd_T25 t301 x41_2).f4).length : Int) then (if 0 ≤ x48_3 then (if x48_3 < (((rd_T25 t301 x41_2).f4).length : Int) then (if 0 ≤ ((rd_T25 ((rd_T25 t301 x41_2).f4) x48_3).f1) then (if ((rd_T25 ((rd_T25 t301 x41_2).f4) x48_3).f1) ≤ (t290.size : Int) then ((impl_SjTail.f (t290.extract 0 (((rd_T25 ((rd_T25 t301 x41_2).f4) x48_3).f1) : Int).toNat)).bind fun bt311 => (if 0 ≤ ((rd_T25 ((rd_T25 t301 x41_2).f4) (wrap64 (x48_3 - 1))).f2) then (if ((rd_T25 ((rd_T25 t301 x41_2).f4) (wrap64 (x48_3 - 1))).f2) ≤ (t290.size : Int) then (if bt311.1.toList = (t290.extract 0 (((rd_T25 ((rd_T25 t301 x41_2).f4) (wrap64 (x48_3 - 1))).f2) : Int).toNat).toList then (if (bt311.2 != (x48_3 == 0)) = true then (some false) else (laws_FnSjTail.l1 kj31 t290 t301 (t301.length : Int) x41_2 (((rd_T25 t301 x41_2).f4).length : Int) (wrap64 (x48_3 + 1)) ((rd_T25 t301 x41_2).f0) ((rd_T25 t301 x41_2).f1) ((rd_T25 t301 x41_2).f2) ((rd_T25 t301 x41_2).f3) ((rd_T25 t301 x41_2).f4))) else (some false)) else (none)) else (none))) else (none)) else (none)) else (none)) else (none)) else (none)) else (none)) else (if 0 ≤ x48_3 then (if x48_3 < (((rd_T25 t301 x41_2).f4).length : Int) then (if 0 ≤ ((rd_T25 ((rd_T25 t301 x41_2).f4) x48_3).f1) then (if ((rd_T25 ((rd_T25 t301 x41_2).f4) x48_3).f1) ≤ (t290.size : Int) then ((impl_SjTail.f (t290.extract 0 (((rd_T25 ((rd_T25 t301 x41_2).f4) x48_3).f1) : Int).toNat)).bind fun bt314 => (if 0 ≤ (wrap64 (((rd_T25 t301 x41_2).f1) + 1)) then (if (wrap64 (((rd_T25 t301 x41_2).f1) + 1)) ≤ (t290.size : Int) then (if bt314.1.toList = (t290.extract 0 ((wrap64 (((rd_T25 t301 x41_2).f1) + 1)) : Int).toNat).toList then (if (bt314.2 != (x48_3 == 0)) = true then (some false) else (laws_FnSjTail.l1 kj31 t290 t301 (t301.length : Int) x41_2 (((rd_T25 t301 x41_2).f4).length : Int) (wrap64 (x48_3 + 1)) ((rd_T25 t301 x41_2).f0) ((rd_T25 t301 x41_2).f1) ((rd_T25 t301 x41_2).f2) ((rd_T25 t301 x41_2).f3) ((rd_T25 t301 x41_2).f4))) else (some false)) else (none)) else (none))) else (none)) else (none)) else (none)) else (none))) = some r := by rw [if_neg (show ¬ (false = true) by decide)] at H; exact H
                                clear H
                                have H := H1
                                clear H1
                                by_cases c45 : x48_3 > 0
                                · rw [if_pos c45] at H
                                  have c45b0 : decide (0 < x48_3) = true := decide_eq_true c45
                                  clear c45
                                  obtain ⟨ji46, hji46⟩ : ∃ j_ : Int, (wrap64 (x48_3 - 1)) = j_ := ⟨_, rfl⟩
                                  replace H : (if 0 ≤ (ji46) then (if (ji46) < (((rd_T25 t301 x41_2).f4).length : Int) then (if 0 ≤ x48_3 then (if x48_3 < (((rd_T25 t301 x41_2).f4).length : Int) then (if 0 ≤ ((rd_T25 ((rd_T25 t301 x41_2).f4) x48_3).f1) then (if ((rd_T25 ((rd_T25 t301 x41_2).f4) x48_3).f1) ≤ (t290.size : Int) then ((impl_SjTail.f (t290.extract 0 (((rd_T25 ((rd_T25 t301 x41_2).f4) x48_3).f1) : Int).toNat)).bind fun bt311 => (if 0 ≤ ((rd_T25 ((rd_T25 t301 x41_2).f4) (ji46)).f2) then (if ((rd_T25 ((rd_T25 t301 x41_2).f4) (ji46)).f2) ≤ (t290.size : Int) then (if bt311.1.toList = (t290.extract 0 (((rd_T25 ((rd_T25 t301 x41_2).f4) (ji46)).f2) : Int).toNat).toList then (if (bt311.2 != (x48_3 == 0)) = true then (some false) else (laws_FnSjTail.l1 kj31 t290 t301 (t301.length : Int) x41_2 (((rd_T25 t301 x41_2).f4).length : Int) (wrap64 (x48_3 + 1)) ((rd_T25 t301 x41_2).f0) ((rd_T25 t301 x41_2).f1) ((rd_T25 t301 x41_2).f2) ((rd_T25 t301 x41_2).f3) ((rd_T25 t301 x41_2).f4))) else (some false)) else (none)) else (none))) else (none)) else (none)) else (none)) else (none)) else (none)) else (none)) = some r := by first | (rw [hji46] at H; exact H) | (simp only [hji46] at H ⊢; exact H)
                                  have hji46w : (IntKind.i64.wrap (x48_3 - 1)) = ji46 := (i64_w _).trans hji46
                                  by_cases c47 : 0 ≤ (ji46)
                                  · rw [if_pos c47] at H
                                    have c47b0 : decide (0 ≤ (ji46)) = true := decide_eq_true c47
                                    clear c47
                                    by_cases c48 : (ji46) < (((rd_T25 t301 x41_2).f4).length : Int)
                                    · rw [if_pos c48] at H
                                      have c48b0 : decide ((ji46) < (((rd_T25 t301 x41_2).f4).length : Int)) = true := decide_eq_true c48
                                      clear c48
                                      by_cases c49 : 0 ≤ x48_3
                                      · rw [if_pos c49] at H
                                        have c49b0 : decide (0 ≤ x48_3) = true := decide_eq_true c49
                                        clear c49
                                        by_cases c50 : x48_3 < (((rd_T25 t301 x41_2).f4).length : Int)
                                        · rw [if_pos c50] at H
                                          have c50b0 : decide (x48_3 < (((rd_T25 t301 x41_2).f4).length : Int)) = true := decide_eq_true c50
                                          clear c50
                                          by_cases c51 : 0 ≤ ((rd_T25 ((rd_T25 t301 x41_2).f4) x48_3).f1)
                                          · rw [if_pos c51] at H
                                            have c51b0 := eq_true c51
                                            have c51b1 : decide (0 ≤ ((rd_T25 ((rd_T25 t301 x41_2).f4) x48_3).f1)) = true := decide_eq_true c51
                                            clear c51
                                            by_cases c52 : ((rd_T25 ((rd_T25 t301 x41_2).f4) x48_3).f1) ≤ (t290.size : Int)
                                            · rw [if_pos c52] at H
                                              have c52b0 := eq_true c52
                                              have c52b1 : decide (((rd_T25 ((rd_T25 t301 x41_2).f4) x48_3).f1) ≤ (t290.size : Int)) = true := decide_eq_true c52
                                              clear c52
                                              replace H := Option.bind_eq_some_iff.mp H
                                              obtain ⟨⟨t311, t312⟩, A530, H⟩ := H
                                              replace H : (if 0 ≤ ((rd_T25 ((rd_T25 t301 x41_2).f4) (ji46)).f2) then (if ((rd_T25 ((rd_T25 t301 x41_2).f4) (ji46)).f2) ≤ (t290.size : Int) then (if t311.toList = (t290.extract 0 (((rd_T25 ((rd_T25 t301 x41_2).f4) (ji46)).f2) : Int).toNat).toList then (if (t312 != (x48_3 == 0)) = true then (some false) else (laws_FnSjTail.l1 kj31 t290 t301 (t301.length : Int) x41_2 (((rd_T25 t301 x41_2).f4).length : Int) (wrap64 (x48_3 + 1)) ((rd_T25 t301 x41_2).f0) ((rd_T25 t301 x41_2).f1) ((rd_T25 t301 x41_2).f2) ((rd_T25 t301 x41_2).f3) ((rd_T25 t301 x41_2).f4))) else (some false)) else (none)) else (none)) = some r := H
                                              have A53 := Aside0.mk A530
                                              clear A530
                                              by_cases c54 : 0 ≤ ((rd_T25 ((rd_T25 t301 x41_2).f4) (ji46)).f2)
                                              · rw [if_pos c54] at H
                                                have c54b0 := eq_true c54
                                                have c54b1 : decide (0 ≤ ((rd_T25 ((rd_T25 t301 x41_2).f4) (ji46)).f2)) = true := decide_eq_true c54
                                                clear c54
                                                by_cases c55 : ((rd_T25 ((rd_T25 t301 x41_2).f4) (ji46)).f2) ≤ (t290.size : Int)
                                                · rw [if_pos c55] at H
                                                  have c55b0 := eq_true c55
                                                  have c55b1 : decide (((rd_T25 ((rd_T25 t301 x41_2).f4) (ji46)).f2) ≤ (t290.size : Int)) = true := decide_eq_true c55
                                                  clear c55
                                                  by_cases c56 : t311.toList = (t290.extract 0 (((rd_T25 ((rd_T25 t301 x41_2).f4) (ji46)).f2) : Int).toNat).toList
                                                  · rw [if_pos c56] at H
                                                    have c56b0 : (t311.toList == (t290.extract 0 (((rd_T25 ((rd_T25 t301 x41_2).f4) (ji46)).f2) : Int).toNat).toList) = true := beq_iff_eq.mpr c56
                                                    have c56b1 : (t311.toList != (t290.extract 0 (((rd_T25 ((rd_T25 t301 x41_2).f4) (ji46)).f2) : Int).toNat).toList) = false := bne_eq_false_iff_eq.mpr c56
                                                    clear c56
                                                    by_cases c57 : (t312 != (x48_3 == 0)) = true
                                                    · rw [if_pos c57] at H
                                                      have c57b0 : (t312 != (x48_3 == 0)) = true := c57
                                                      (try (have c57b1 : decide (t312 = (x48_3 == 0)) = false := by simpa using c57))
                                                      (try (have c57b2 : (t312 == (x48_3 == 0)) = false := by simpa using c57))
                                                      (try (have c57b3 : ¬ (t312 = (x48_3 == 0)) := by simpa using c57))
                                                      clear c57
                                                      obtain rfl := Option.some.inj H
                                                      have hnb58 := NB307_289.out
                                                      have hnc58 := NB289_307.out
                                                      have hcz59_0 : wc.cell? ⟨gb307, 0, none⟩ = some (.int .i64 ((rd_T25 t301 x41_2).f0)) := (blk_cell BK307.out 0).trans rfl
                                                      have hcz59_1 : wc.cell? ⟨gb307, 1, none⟩ = some (.int .i64 ((rd_T25 t301 x41_2).f1)) := (blk_cell BK307.out 1).trans rfl
                                                      have hcz59_2 : wc.cell? ⟨gb307, 2, none⟩ = some (.int .i64 ((rd_T25 t301 x41_2).f2)) := (blk_cell BK307.out 2).trans rfl
                                                      have hcz59_3 : wc.cell? ⟨gb307, 3, none⟩ = some (.slice A306_3 ((rd_T25 t301 x41_2).f3).length c306_3) := (blk_cell BK307.out 3).trans rfl
                                                      have hcz59_4 : wc.cell? ⟨gb307, 4, none⟩ = some (.slice A306_4 ((rd_T25 t301 x41_2).f4).length c306_4) := (blk_cell BK307.out 4).trans rfl
                                                      have hfz59_0 := blk_frozen BK307.out 0
                                                      have hfz59_1 := blk_frozen BK307.out 1
                                                      have hfz59_2 := blk_frozen BK307.out 2
                                                      have hfz59_3 := blk_frozen BK307.out 3
                                                      have hfz59_4 := blk_frozen BK307.out 4
                                                      have p309 : 0 ≤ ((ji46) : Int) := of_decide_eq_true (by first | (with_reducible assumption) | assumption)
                                                      have q309 : (ji46) < (((rd_T25 t301 x41_2).f4).length : Int) := of_decide_eq_true (by first | (with_reducible assumption) | assumption)
                                                      obtain ⟨ad309, A309_3, c309_3, A309_4, c309_4, e309, hx309_0, hx309_1, hx309_2, hx309_3, hx309_4, hl309_3, hi309_3, hl309_4, hi309_4⟩ := at_T25 HR306_4.out (ji46) p309 q309
                                                      cases e309
                                                      have HR309_3 := Aside0.mk hi309_3
                                                      have HC309_3 := Aside0.mk hl309_3
                                                      clear hi309_3 hl309_3
                                                      have HR309_4 := Aside0.mk hi309_4
                                                      have HC309_4 := Aside0.mk hl309_4
                                                      clear hi309_4 hl309_4
                                                      replace p309 := eq_true p309
                                                      replace q309 := eq_true q309
                                                      have p310 : 0 ≤ (x48_3 : Int) := of_decide_eq_true (by first | (with_reducible assumption) | assumption)
                                                      have q310 : x48_3 < (((rd_T25 t301 x41_2).f4).length : Int) := of_decide_eq_true (by first | (with_reducible assumption) | assumption)
                                                      obtain ⟨ad310, A310_3, c310_3, A310_4, c310_4, e310, hx310_0, hx310_1, hx310_2, hx310_3, hx310_4, hl310_3, hi310_3, hl310_4, hi310_4⟩ := at_T25 HR306_4.out x48_3 p310 q310
                                                      obtain rfl : ad309 = ad310 := (by injection e310)
                                                      have HR310_3 := Aside0.mk hi310_3
                                                      have HC310_3 := Aside0.mk hl310_3
                                                      clear hi310_3 hl310_3
                                                      have HR310_4 := Aside0.mk hi310_4
                                                      have HC310_4 := Aside0.mk hl310_4
                                                      clear hi310_4 hl310_4
                                                      replace p310 := eq_true p310
                                                      replace q310 := eq_true q310
                                                      go_wp2_with (first | ((with_reducible refine gate_callee (f := 7) rfl ?_); refine goesL_ (some 89) rfl rfl Try.func7 (by kernel_rfl) rfl #[.string (t290.extract 0 (((rd_T25 ((rd_T25 t301 x41_2).f4) x48_3).f1) : Int).toNat)] rfl (by (try simp only [List.map_toArray, List.map_cons, List.map_nil]); first | done | rfl | (simp only [List.length_drop, List.length_take]; rfl)) ?_; (with_reducible refine (impl_SjTail.calls (t290.extract 0 (((rd_T25 ((rd_T25 t301 x41_2).f4) x48_3).f1) : Int).toNat) t311 t312 _ A53.out).mono ?_); rintro e w60 ⟨rfl, hb⟩; refine ⟨_, rfl, ?_⟩; have n0_ := Aside0.mk (Kd.N_below (by (with_reducible repeat (first | apply Kd.N_alloc | apply Kd.N_drewN | apply Kd.N_drew)); exact HO_39.out) hb); have n1_ := Aside0.mk (Kd.R_below (by (with_reducible repeat (first | apply Kd.R_alloc | apply Kd.R_drewN | apply Kd.R_drew)); exact HO_290003.out) hb); have n2_ := Aside0.mk (Kd.N_below (by (with_reducible repeat (first | apply Kd.N_alloc | apply Kd.N_drewN | apply Kd.N_drew)); exact HO_290004.out) hb); have n3_ := Aside0.mk (blk_below (g := gb289) (o := .cells #[.int .i64 t291, .int .i64 t292, .int .i64 t293, .slice Ao19 t294.length co19, .slice Ao20 t297.length co20] 25 (0, 0)) (by (with_reducible repeat (first | refine blk_drewN ?_ _ | refine blk_drew ?_ | refine blk_alloc ?_ _)); exact BK289.out) hb); have n4_ := Aside0.mk (blk_below (g := gb307) (o := .cells #[.int .i64 ((rd_T25 t301 x41_2).f0), .int .i64 ((rd_T25 t301 x41_2).f1), .int .i64 ((rd_T25 t301 x41_2).f2), .slice A306_3 ((rd_T25 t301 x41_2).f3).length c306_3, .slice (some ad309) ((rd_T25 t301 x41_2).f4).length c306_4] 25 (0, 0)) (by (with_reducible repeat (first | refine blk_drewN ?_ _ | refine blk_drew ?_ | refine blk_alloc ?_ _)); exact BK307.out) hb); have n5_ := Aside0.mk (Kd.C_below (by repeat (first | (with_reducible exact HR306_3.out) | (with_reducible refine Kd.C_alloc ?_ _) | (with_reducible refine Kd.C_drewN ?_ _) | (with_reducible refine Kd.C_drew ?_) | exact HR306_3.out)) hb); have n6_ := Aside0.mk (Kd.C_below (by repeat (first | (with_reducible exact HR306_4.out) | (with_reducible refine Kd.C_alloc ?_ _) | (with_reducible refine Kd.C_drewN ?_ _) | (with_reducible refine Kd.C_drew ?_) | exact HR306_4.out)) hb); have n7_ := Aside0.mk (below_step (by repeat (first | (with_reducible first | exact HB.out | apply below_alloc | apply pw_below_drewN | apply below_drew1 | refine below_set ?_ GE289.out | refine below_set ?_ GE307.out) | exact HB.out)) hb); clear HO_39; clear HO_290003; clear HO_290004; clear BK289; clear BK307; clear HR306_3; clear HR306_4; clear HB; have HO_39 := n0_; have HO_290003 := n1_; have HO_290004 := n2_; have BK289 := n3_; have BK307 := n4_; have HR306_3 := n5_; have HR306_4 := n6_; have HB := n7_; clear n0_ n1_ n2_ n3_ n4_ n5_ n6_ n7_; (try clear hb); (try clear hb2); (try clear hk); (try clear hi)))
                                                      go_ret
                                                      exact ⟨by first | rfl | (simp [errW_none, errW_some] <;> rfl) | (simp only [← hji46]; first | rfl | (simp [errW_none, errW_some] <;> rfl)) | (simp [*, errW_none, errW_some] <;> rfl), by repeat (first | (with_reducible first | exact HB.out | apply below_alloc | apply pw_below_drewN | apply below_drew1 | refine below_set ?_ GE289.out | refine below_set ?_ GE307.out) | exact HB.out)⟩
                                                    · rw [if_neg c57] at H
                                                      have c57b0 : (t312 != (x48_3 == 0)) = false := by simpa using c57
                                                      (try (have c57b1 : decide (t312 = (x48_3 == 0)) = true := by simpa using c57))
                                                      (try (have c57b2 : (t312 == (x48_3 == 0)) = true := by simpa using c57))
                                                      clear c57
                                                      have H' := Aside0.mk H
                                                      clear H
                                                      have hnb61 := NB307_289.out
                                                      have hnc61 := NB289_307.out
                                                      have hcz62_0 : wc.cell? ⟨gb307, 0, none⟩ = some (.int .i64 ((rd_T25 t301 x41_2).f0)) := (blk_cell BK307.out 0).trans rfl
                                                      have hcz62_1 : wc.cell? ⟨gb307, 1, none⟩ = some (.int .i64 ((rd_T25 t301 x41_2).f1)) := (blk_cell BK307.out 1).trans rfl
                                                      have hcz62_2 : wc.cell? ⟨gb307, 2, none⟩ = some (.int .i64 ((rd_T25 t301 x41_2).f2)) := (blk_cell BK307.out 2).trans rfl
                                                      have hcz62_3 : wc.cell? ⟨gb307, 3, none⟩ = some (.slice A306_3 ((rd_T25 t301 x41_2).f3).length c306_3) := (blk_cell BK307.out 3).trans rfl
                                                      have hcz62_4 : wc.cell? ⟨gb307, 4, none⟩ = some (.slice A306_4 ((rd_T25 t301 x41_2).f4).length c306_4) := (blk_cell BK307.out 4).trans rfl
                                                      have hfz62_0 := blk_frozen BK307.out 0
                                                      have hfz62_1 := blk_frozen BK307.out 1
                                                      have hfz62_2 := blk_frozen BK307.out 2
                                                      have hfz62_3 := blk_frozen BK307.out 3
                                                      have hfz62_4 := blk_frozen BK307.out 4
                                                      have p309 : 0 ≤ ((ji46) : Int) := of_decide_eq_true (by first | (with_reducible assumption) | assumption)
                                                      have q309 : (ji46) < (((rd_T25 t301 x41_2).f4).length : Int) := of_decide_eq_true (by first | (with_reducible assumption) | assumption)
                                                      obtain ⟨ad309, A309_3, c309_3, A309_4, c309_4, e309, hx309_0, hx309_1, hx309_2, hx309_3, hx309_4, hl309_3, hi309_3, hl309_4, hi309_4⟩ := at_T25 HR306_4.out (ji46) p309 q309
                                                      cases e309
                                                      have HR309_3 := Aside0.mk hi309_3
                                                      have HC309_3 := Aside0.mk hl309_3
                                                      clear hi309_3 hl309_3
                                                      have HR309_4 := Aside0.mk hi309_4
                                                      have HC309_4 := Aside0.mk hl309_4
                                                      clear hi309_4 hl309_4
                                                      replace p309 := eq_true p309
                                                      replace q309 := eq_true q309
                                                      have p310 : 0 ≤ (x48_3 : Int) := of_decide_eq_true (by first | (with_reducible assumption) | assumption)
                                                      have q310 : x48_3 < (((rd_T25 t301 x41_2).f4).length : Int) := of_decide_eq_true (by first | (with_reducible assumption) | assumption)
                                                      obtain ⟨ad310, A310_3, c310_3, A310_4, c310_4, e310, hx310_0, hx310_1, hx310_2, hx310_3, hx310_4, hl310_3, hi310_3, hl310_4, hi310_4⟩ := at_T25 HR306_4.out x48_3 p310 q310
                                                      obtain rfl : ad309 = ad310 := (by injection e310)
                                                      have HR310_3 := Aside0.mk hi310_3
                                                      have HC310_3 := Aside0.mk hl310_3
                                                      clear hi310_3 hl310_3
                                                      have HR310_4 := Aside0.mk hi310_4
                                                      have HC310_4 := Aside0.mk hl310_4
                                                      clear hi310_4 hl310_4
                                                      replace p310 := eq_true p310
                                                      replace q310 := eq_true q310
                                                      go_wp2_with (first | ((with_reducible refine gate_callee (f := 7) rfl ?_); refine goesL_ (some 89) rfl rfl Try.func7 (by kernel_rfl) rfl #[.string (t290.extract 0 (((rd_T25 ((rd_T25 t301 x41_2).f4) x48_3).f1) : Int).toNat)] rfl (by (try simp only [List.map_toArray, List.map_cons, List.map_nil]); first | done | rfl | (simp only [List.length_drop, List.length_take]; rfl)) ?_; (with_reducible refine (impl_SjTail.calls (t290.extract 0 (((rd_T25 ((rd_T25 t301 x41_2).f4) x48_3).f1) : Int).toNat) t311 t312 _ A53.out).mono ?_); rintro e w63 ⟨rfl, hb⟩; refine ⟨_, rfl, ?_⟩; have n0_ := Aside0.mk (Kd.N_below (by (with_reducible repeat (first | apply Kd.N_alloc | apply Kd.N_drewN | apply Kd.N_drew)); exact HO_39.out) hb); have n1_ := Aside0.mk (Kd.R_below (by (with_reducible repeat (first | apply Kd.R_alloc | apply Kd.R_drewN | apply Kd.R_drew)); exact HO_290003.out) hb); have n2_ := Aside0.mk (Kd.N_below (by (with_reducible repeat (first | apply Kd.N_alloc | apply Kd.N_drewN | apply Kd.N_drew)); exact HO_290004.out) hb); have n3_ := Aside0.mk (blk_below (g := gb289) (o := .cells #[.int .i64 t291, .int .i64 t292, .int .i64 t293, .slice Ao19 t294.length co19, .slice Ao20 t297.length co20] 25 (0, 0)) (by (with_reducible repeat (first | refine blk_drewN ?_ _ | refine blk_drew ?_ | refine blk_alloc ?_ _)); exact BK289.out) hb); have n4_ := Aside0.mk (blk_below (g := gb307) (o := .cells #[.int .i64 ((rd_T25 t301 x41_2).f0), .int .i64 ((rd_T25 t301 x41_2).f1), .int .i64 ((rd_T25 t301 x41_2).f2), .slice A306_3 ((rd_T25 t301 x41_2).f3).length c306_3, .slice (some ad309) ((rd_T25 t301 x41_2).f4).length c306_4] 25 (0, 0)) (by (with_reducible repeat (first | refine blk_drewN ?_ _ | refine blk_drew ?_ | refine blk_alloc ?_ _)); exact BK307.out) hb); have n5_ := Aside0.mk (Kd.C_below (by repeat (first | (with_reducible exact HR306_3.out) | (with_reducible refine Kd.C_alloc ?_ _) | (with_reducible refine Kd.C_drewN ?_ _) | (with_reducible refine Kd.C_drew ?_) | exact HR306_3.out)) hb); have n6_ := Aside0.mk (Kd.C_below (by repeat (first | (with_reducible exact HR306_4.out) | (with_reducible refine Kd.C_alloc ?_ _) | (with_reducible refine Kd.C_drewN ?_ _) | (with_reducible refine Kd.C_drew ?_) | exact HR306_4.out)) hb); have n7_ := Aside0.mk (below_step (by repeat (first | (with_reducible first | exact HB.out | apply below_alloc | apply pw_below_drewN | apply below_drew1 | refine below_set ?_ GE289.out | refine below_set ?_ GE307.out) | exact HB.out)) hb); clear HO_39; clear HO_290003; clear HO_290004; clear BK289; clear BK307; clear HR306_3; clear HR306_4; clear HB; have HO_39 := n0_; have HO_290003 := n1_; have HO_290004 := n2_; have BK289 := n3_; have BK307 := n4_; have HR306_3 := n5_; have HR306_4 := n6_; have HB := n7_; clear n0_ n1_ n2_ n3_ n4_ n5_ n6_ n7_; (try clear hb); (try clear hb2); (try clear hk); (try clear hi)))
                                                      go_roundg kj31
                                                      case measure => have := HJ3.out; have := HK2.out; have := HK3.out; have := HJ31.out; omega
                                                      case rel => exact ⟨(wrap64 (x48_3 + 1)), (by first | rfl | (simp; done) | (simp [*]; done)), H', ⟨by have := HJ3.out; have := HK2.out; have := HK3.out; have := HJ31.out; omega⟩, ⟨by (with_reducible repeat (first | apply Kd.N_alloc | apply Kd.N_drewN | apply Kd.N_drew)); exact HO_39.out⟩, ⟨by (with_reducible repeat (first | apply Kd.R_alloc | apply Kd.R_drewN | apply Kd.R_drew)); exact HO_290003.out⟩, ⟨by (with_reducible repeat (first | apply Kd.N_alloc | apply Kd.N_drewN | apply Kd.N_drew)); exact HO_290004.out⟩, ⟨by (with_reducible repeat (first | refine blk_drewN ?_ _ | refine blk_drew ?_ | refine blk_alloc ?_ _)); exact BK289.out⟩, ⟨by (with_reducible repeat (first | refine blk_drewN ?_ _ | refine blk_drew ?_ | refine blk_alloc ?_ _)); exact BK307.out⟩, ⟨by repeat (first | (with_reducible exact HR306_3.out) | (with_reducible refine Kd.C_alloc ?_ _) | (with_reducible refine Kd.C_drewN ?_ _) | (with_reducible refine Kd.C_drew ?_) | exact HR306_3.out)⟩, ⟨by repeat (first | (with_reducible exact HR306_4.out) | (with_reducible refine Kd.C_alloc ?_ _) | (with_reducible refine Kd.C_drewN ?_ _) | (with_reducible refine Kd.C_drew ?_) | exact HR306_4.out)⟩, ⟨by repeat (first | (with_reducible first | exact HB.out | apply below_alloc | apply pw_below_drewN | apply below_drew1 | refine below_set ?_ GE289.out | refine below_set ?_ GE307.out) | exact HB.out)⟩⟩
                                                  · rw [if_neg c56] at H
                                                    have c56b0 : (t311.toList == (t290.extract 0 (((rd_T25 ((rd_T25 t301 x41_2).f4) (ji46)).f2) : Int).toNat).toList) = false := beq_eq_false_iff_ne.mpr c56
                                                    have c56b1 : (t311.toList != (t290.extract 0 (((rd_T25 ((rd_T25 t301 x41_2).f4) (ji46)).f2) : Int).toNat).toList) = true := bne_iff_ne.mpr c56
                                                    obtain rfl := Option.some.inj H
                                                    have hnb64 := NB307_289.out
                                                    have hnc64 := NB289_307.out
                                                    have hcz65_0 : wc.cell? ⟨gb307, 0, none⟩ = some (.int .i64 ((rd_T25 t301 x41_2).f0)) := (blk_cell BK307.out 0).trans rfl
                                                    have hcz65_1 : wc.cell? ⟨gb307, 1, none⟩ = some (.int .i64 ((rd_T25 t301 x41_2).f1)) := (blk_cell BK307.out 1).trans rfl
                                                    have hcz65_2 : wc.cell? ⟨gb307, 2, none⟩ = some (.int .i64 ((rd_T25 t301 x41_2).f2)) := (blk_cell BK307.out 2).trans rfl
                                                    have hcz65_3 : wc.cell? ⟨gb307, 3, none⟩ = some (.slice A306_3 ((rd_T25 t301 x41_2).f3).length c306_3) := (blk_cell BK307.out 3).trans rfl
                                                    have hcz65_4 : wc.cell? ⟨gb307, 4, none⟩ = some (.slice A306_4 ((rd_T25 t301 x41_2).f4).length c306_4) := (blk_cell BK307.out 4).trans rfl
                                                    have hfz65_0 := blk_frozen BK307.out 0
                                                    have hfz65_1 := blk_frozen BK307.out 1
                                                    have hfz65_2 := blk_frozen BK307.out 2
                                                    have hfz65_3 := blk_frozen BK307.out 3
                                                    have hfz65_4 := blk_frozen BK307.out 4
                                                    have p309 : 0 ≤ ((ji46) : Int) := of_decide_eq_true (by first | (with_reducible assumption) | assumption)
                                                    have q309 : (ji46) < (((rd_T25 t301 x41_2).f4).length : Int) := of_decide_eq_true (by first | (with_reducible assumption) | assumption)
                                                    obtain ⟨ad309, A309_3, c309_3, A309_4, c309_4, e309, hx309_0, hx309_1, hx309_2, hx309_3, hx309_4, hl309_3, hi309_3, hl309_4, hi309_4⟩ := at_T25 HR306_4.out (ji46) p309 q309
                                                    cases e309
                                                    have HR309_3 := Aside0.mk hi309_3
                                                    have HC309_3 := Aside0.mk hl309_3
                                                    clear hi309_3 hl309_3
                                                    have HR309_4 := Aside0.mk hi309_4
                                                    have HC309_4 := Aside0.mk hl309_4
                                                    clear hi309_4 hl309_4
                                                    replace p309 := eq_true p309
                                                    replace q309 := eq_true q309
                                                    have p310 : 0 ≤ (x48_3 : Int) := of_decide_eq_true (by first | (with_reducible assumption) | assumption)
                                                    have q310 : x48_3 < (((rd_T25 t301 x41_2).f4).length : Int) := of_decide_eq_true (by first | (with_reducible assumption) | assumption)
                                                    obtain ⟨ad310, A310_3, c310_3, A310_4, c310_4, e310, hx310_0, hx310_1, hx310_2, hx310_3, hx310_4, hl310_3, hi310_3, hl310_4, hi310_4⟩ := at_T25 HR306_4.out x48_3 p310 q310
                                                    obtain rfl : ad309 = ad310 := (by injection e310)
                                                    have HR310_3 := Aside0.mk hi310_3
                                                    have HC310_3 := Aside0.mk hl310_3
                                                    clear hi310_3 hl310_3
                                                    have HR310_4 := Aside0.mk hi310_4
                                                    have HC310_4 := Aside0.mk hl310_4
                                                    clear hi310_4 hl310_4
                                                    replace p310 := eq_true p310
                                                    replace q310 := eq_true q310
                                                    go_wp2_with (first | ((with_reducible refine gate_callee (f := 7) rfl ?_); refine goesL_ (some 89) rfl rfl Try.func7 (by kernel_rfl) rfl #[.string (t290.extract 0 (((rd_T25 ((rd_T25 t301 x41_2).f4) x48_3).f1) : Int).toNat)] rfl (by (try simp only [List.map_toArray, List.map_cons, List.map_nil]); first | done | rfl | (simp only [List.length_drop, List.length_take]; rfl)) ?_; (with_reducible refine (impl_SjTail.calls (t290.extract 0 (((rd_T25 ((rd_T25 t301 x41_2).f4) x48_3).f1) : Int).toNat) t311 t312 _ A53.out).mono ?_); rintro e w66 ⟨rfl, hb⟩; refine ⟨_, rfl, ?_⟩; have n0_ := Aside0.mk (Kd.N_below (by (with_reducible repeat (first | apply Kd.N_alloc | apply Kd.N_drewN | apply Kd.N_drew)); exact HO_39.out) hb); have n1_ := Aside0.mk (Kd.R_below (by (with_reducible repeat (first | apply Kd.R_alloc | apply Kd.R_drewN | apply Kd.R_drew)); exact HO_290003.out) hb); have n2_ := Aside0.mk (Kd.N_below (by (with_reducible repeat (first | apply Kd.N_alloc | apply Kd.N_drewN | apply Kd.N_drew)); exact HO_290004.out) hb); have n3_ := Aside0.mk (blk_below (g := gb289) (o := .cells #[.int .i64 t291, .int .i64 t292, .int .i64 t293, .slice Ao19 t294.length co19, .slice Ao20 t297.length co20] 25 (0, 0)) (by (with_reducible repeat (first | refine blk_drewN ?_ _ | refine blk_drew ?_ | refine blk_alloc ?_ _)); exact BK289.out) hb); have n4_ := Aside0.mk (blk_below (g := gb307) (o := .cells #[.int .i64 ((rd_T25 t301 x41_2).f0), .int .i64 ((rd_T25 t301 x41_2).f1), .int .i64 ((rd_T25 t301 x41_2).f2), .slice A306_3 ((rd_T25 t301 x41_2).f3).length c306_3, .slice (some ad309) ((rd_T25 t301 x41_2).f4).length c306_4] 25 (0, 0)) (by (with_reducible repeat (first | refine blk_drewN ?_ _ | refine blk_drew ?_ | refine blk_alloc ?_ _)); exact BK307.out) hb); have n5_ := Aside0.mk (Kd.C_below (by repeat (first | (with_reducible exact HR306_3.out) | (with_reducible refine Kd.C_alloc ?_ _) | (with_reducible refine Kd.C_drewN ?_ _) | (with_reducible refine Kd.C_drew ?_) | exact HR306_3.out)) hb); have n6_ := Aside0.mk (Kd.C_below (by repeat (first | (with_reducible exact HR306_4.out) | (with_reducible refine Kd.C_alloc ?_ _) | (with_reducible refine Kd.C_drewN ?_ _) | (with_reducible refine Kd.C_drew ?_) | exact HR306_4.out)) hb); have n7_ := Aside0.mk (below_step (by repeat (first | (with_reducible first | exact HB.out | apply below_alloc | apply pw_below_drewN | apply below_drew1 | refine below_set ?_ GE289.out | refine below_set ?_ GE307.out) | exact HB.out)) hb); clear HO_39; clear HO_290003; clear HO_290004; clear BK289; clear BK307; clear HR306_3; clear HR306_4; clear HB; have HO_39 := n0_; have HO_290003 := n1_; have HO_290004 := n2_; have BK289 := n3_; have BK307 := n4_; have HR306_3 := n5_; have HR306_4 := n6_; have HB := n7_; clear n0_ n1_ n2_ n3_ n4_ n5_ n6_ n7_; (try clear hb); (try clear hb2); (try clear hk); (try clear hi)))
                                                    go_ret
                                                    exact ⟨by first | rfl | (simp [errW_none, errW_some] <;> rfl) | (simp only [← hji46]; first | rfl | (simp [errW_none, errW_some] <;> rfl)) | (simp [*, errW_none, errW_some] <;> rfl), by repeat (first | (with_reducible first | exact HB.out | apply below_alloc | apply pw_below_drewN | apply below_drew1 | refine below_set ?_ GE289.out | refine below_set ?_ GE307.out) | exact HB.out)⟩
                                                · rw [if_neg c55] at H
                                                  exact absurd H (by simp)
                                              · rw [if_neg c54] at H
                                                exact absurd H (by simp)
                                            · rw [if_neg c52] at H
                                              exact absurd H (by simp)
                                          · rw [if_neg c51] at H
                                            exact absurd H (by simp)
                                        · rw [if_neg c50] at H
                                          exact absurd H (by simp)
                                      · rw [if_neg c49] at H
                                        exact absurd H (by simp)
                                    · rw [if_neg c48] at H
                                      exact absurd H (by simp)
                                  · rw [if_neg c47] at H
                                    exact absurd H (by simp)
                                · rw [if_neg c45] at H
                                  have c45b0 : decide (0 < x48_3) = false := decide_eq_false c45
                                  clear c45
                                  by_cases c67 : 0 ≤ x48_3
                                  · rw [if_pos c67] at H
                                    have c67b0 : decide (0 ≤ x48_3) = true := decide_eq_true c67
                                    clear c67
                                    by_cases c68 : x48_3 < (((rd_T25 t301 x41_2).f4).length : Int)
                                    · rw [if_pos c68] at H
                                      have c68b0 : decide (x48_3 < (((rd_T25 t301 x41_2).f4).length : Int)) = true := decide_eq_true c68
                                      clear c68
                                      by_cases c69 : 0 ≤ ((rd_T25 ((rd_T25 t301 x41_2).f4) x48_3).f1)
                                      · rw [if_pos c69] at H
                                        have c69b0 := eq_true c69
                                        have c69b1 : decide (0 ≤ ((rd_T25 ((rd_T25 t301 x41_2).f4) x48_3).f1)) = true := decide_eq_true c69
                                        clear c69
                                        by_cases c70 : ((rd_T25 ((rd_T25 t301 x41_2).f4) x48_3).f1) ≤ (t290.size : Int)
                                        · rw [if_pos c70] at H
                                          have c70b0 := eq_true c70
                                          have c70b1 : decide (((rd_T25 ((rd_T25 t301 x41_2).f4) x48_3).f1) ≤ (t290.size : Int)) = true := decide_eq_true c70
                                          clear c70
                                          replace H := Option.bind_eq_some_iff.mp H
                                          obtain ⟨⟨t314, t315⟩, A710, H⟩ := H
                                          replace H : (if 0 ≤ (wrap64 (((rd_T25 t301 x41_2).f1) + 1)) then (if (wrap64 (((rd_T25 t301 x41_2).f1) + 1)) ≤ (t290.size : Int) then (if t314.toList = (t290.extract 0 ((wrap64 (((rd_T25 t301 x41_2).f1) + 1)) : Int).toNat).toList then (if (t315 != (x48_3 == 0)) = true then (some false) else (laws_FnSjTail.l1 kj31 t290 t301 (t301.length : Int) x41_2 (((rd_T25 t301 x41_2).f4).length : Int) (wrap64 (x48_3 + 1)) ((rd_T25 t301 x41_2).f0) ((rd_T25 t301 x41_2).f1) ((rd_T25 t301 x41_2).f2) ((rd_T25 t301 x41_2).f3) ((rd_T25 t301 x41_2).f4))) else (some false)) else (none)) else (none)) = some r := H
                                          have A71 := Aside0.mk A710
                                          clear A710
                                          obtain ⟨ji72, hji72⟩ : ∃ j_ : Int, (wrap64 (((rd_T25 t301 x41_2).f1) + 1)) = j_ := ⟨_, rfl⟩
                                          replace H : (if 0 ≤ (ji72) then (if (ji72) ≤ (t290.size : Int) then (if t314.toList = (t290.extract 0 ((ji72) : Int).toNat).toList then (if (t315 != (x48_3 == 0)) = true then (some false) else (laws_FnSjTail.l1 kj31 t290 t301 (t301.length : Int) x41_2 (((rd_T25 t301 x41_2).f4).length : Int) (wrap64 (x48_3 + 1)) ((rd_T25 t301 x41_2).f0) ((rd_T25 t301 x41_2).f1) ((rd_T25 t301 x41_2).f2) ((rd_T25 t301 x41_2).f3) ((rd_T25 t301 x41_2).f4))) else (some false)) else (none)) else (none)) = some r := by first | (rw [hji72] at H; exact H) | (simp only [hji72] at H ⊢; exact H)
                                          (try rw [hji72] at A71)
                                          have hji72w : (IntKind.i64.wrap (((rd_T25 t301 x41_2).f1) + 1)) = ji72 := (i64_w _).trans hji72
                                          by_cases c73 : 0 ≤ (ji72)
                                          · rw [if_pos c73] at H
                                            have c73b0 := eq_true c73
                                            have c73b1 : decide (0 ≤ (ji72)) = true := decide_eq_true c73
                                            clear c73
                                            by_cases c74 : (ji72) ≤ (t290.size : Int)
                                            · rw [if_pos c74] at H
                                              have c74b0 := eq_true c74
                                              have c74b1 : decide ((ji72) ≤ (t290.size : Int)) = true := decide_eq_true c74
                                              clear c74
                                              by_cases c75 : t314.toList = (t290.extract 0 ((ji72) : Int).toNat).toList
                                              · rw [if_pos c75] at H
                                                have c75b0 : (t314.toList == (t290.extract 0 ((ji72) : Int).toNat).toList) = true := beq_iff_eq.mpr c75
                                                have c75b1 : (t314.toList != (t290.extract 0 ((ji72) : Int).toNat).toList) = false := bne_eq_false_iff_eq.mpr c75
                                                clear c75
                                                by_cases c76 : (t315 != (x48_3 == 0)) = true
                                                · rw [if_pos c76] at H
                                                  have c76b0 : (t315 != (x48_3 == 0)) = true := c76
                                                  (try (have c76b1 : decide (t315 = (x48_3 == 0)) = false := by simpa using c76))
                                                  (try (have c76b2 : (t315 == (x48_3 == 0)) = false := by simpa using c76))
                                                  (try (have c76b3 : ¬ (t315 = (x48_3 == 0)) := by simpa using c76))
                                                  clear c76
                                                  obtain rfl := Option.some.inj H
                                                  have hnb77 := NB307_289.out
                                                  have hnc77 := NB289_307.out
                                                  have hcz78_0 : wc.cell? ⟨gb307, 0, none⟩ = some (.int .i64 ((rd_T25 t301 x41_2).f0)) := (blk_cell BK307.out 0).trans rfl
                                                  have hcz78_1 : wc.cell? ⟨gb307, 1, none⟩ = some (.int .i64 ((rd_T25 t301 x41_2).f1)) := (blk_cell BK307.out 1).trans rfl
                                                  have hcz78_2 : wc.cell? ⟨gb307, 2, none⟩ = some (.int .i64 ((rd_T25 t301 x41_2).f2)) := (blk_cell BK307.out 2).trans rfl
                                                  have hcz78_3 : wc.cell? ⟨gb307, 3, none⟩ = some (.slice A306_3 ((rd_T25 t301 x41_2).f3).length c306_3) := (blk_cell BK307.out 3).trans rfl
                                                  have hcz78_4 : wc.cell? ⟨gb307, 4, none⟩ = some (.slice A306_4 ((rd_T25 t301 x41_2).f4).length c306_4) := (blk_cell BK307.out 4).trans rfl
                                                  have hfz78_0 := blk_frozen BK307.out 0
                                                  have hfz78_1 := blk_frozen BK307.out 1
                                                  have hfz78_2 := blk_frozen BK307.out 2
                                                  have hfz78_3 := blk_frozen BK307.out 3
                                                  have hfz78_4 := blk_frozen BK307.out 4
                                                  have p313 : 0 ≤ (x48_3 : Int) := of_decide_eq_true (by first | (with_reducible assumption) | assumption)
                                                  have q313 : x48_3 < (((rd_T25 t301 x41_2).f4).length : Int) := of_decide_eq_true (by first | (with_reducible assumption) | assumption)
                                                  obtain ⟨ad313, A313_3, c313_3, A313_4, c313_4, e313, hx313_0, hx313_1, hx313_2, hx313_3, hx313_4, hl313_3, hi313_3, hl313_4, hi313_4⟩ := at_T25 HR306_4.out x48_3 p313 q313
                                                  cases e313
                                                  have HR313_3 := Aside0.mk hi313_3
                                                  have HC313_3 := Aside0.mk hl313_3
                                                  clear hi313_3 hl313_3
                                                  have HR313_4 := Aside0.mk hi313_4
                                                  have HC313_4 := Aside0.mk hl313_4
                                                  clear hi313_4 hl313_4
                                                  replace p313 := eq_true p313
                                                  replace q313 := eq_true q313
                                                  go_wp2_with (first | ((with_reducible refine gate_callee (f := 7) rfl ?_); refine goesL_ (some 89) rfl rfl Try.func7 (by kernel_rfl) rfl #[.string (t290.extract 0 (((rd_T25 ((rd_T25 t301 x41_2).f4) x48_3).f1) : Int).toNat)] rfl (by (try simp only [List.map_toArray, List.map_cons, List.map_nil]); first | done | rfl | (simp only [List.length_drop, List.length_take]; rfl)) ?_; (with_reducible refine (impl_SjTail.calls (t290.extract 0 (((rd_T25 ((rd_T25 t301 x41_2).f4) x48_3).f1) : Int).toNat) t314 t315 _ A71.out).mono ?_); rintro e w79 ⟨rfl, hb⟩; refine ⟨_, rfl, ?_⟩; have n0_ := Aside0.mk (Kd.N_below (by (with_reducible repeat (first | apply Kd.N_alloc | apply Kd.N_drewN | apply Kd.N_drew)); exact HO_39.out) hb); have n1_ := Aside0.mk (Kd.R_below (by (with_reducible repeat (first | apply Kd.R_alloc | apply Kd.R_drewN | apply Kd.R_drew)); exact HO_290003.out) hb); have n2_ := Aside0.mk (Kd.N_below (by (with_reducible repeat (first | apply Kd.N_alloc | apply Kd.N_drewN | apply Kd.N_drew)); exact HO_290004.out) hb); have n3_ := Aside0.mk (blk_below (g := gb289) (o := .cells #[.int .i64 t291, .int .i64 t292, .int .i64 t293, .slice Ao19 t294.length co19, .slice Ao20 t297.length co20] 25 (0, 0)) (by (with_reducible repeat (first | refine blk_drewN ?_ _ | refine blk_drew ?_ | refine blk_alloc ?_ _)); exact BK289.out) hb); have n4_ := Aside0.mk (blk_below (g := gb307) (o := .cells #[.int .i64 ((rd_T25 t301 x41_2).f0), .int .i64 ((rd_T25 t301 x41_2).f1), .int .i64 ((rd_T25 t301 x41_2).f2), .slice A306_3 ((rd_T25 t301 x41_2).f3).length c306_3, .slice (some ad313) ((rd_T25 t301 x41_2).f4).length c306_4] 25 (0, 0)) (by (with_reducible repeat (first | refine blk_drewN ?_ _ | refine blk_drew ?_ | refine blk_alloc ?_ _)); exact BK307.out) hb); have n5_ := Aside0.mk (Kd.C_below (by repeat (first | (with_reducible exact HR306_3.out) | (with_reducible refine Kd.C_alloc ?_ _) | (with_reducible refine Kd.C_drewN ?_ _) | (with_reducible refine Kd.C_drew ?_) | exact HR306_3.out)) hb); have n6_ := Aside0.mk (Kd.C_below (by repeat (first | (with_reducible exact HR306_4.out) | (with_reducible refine Kd.C_alloc ?_ _) | (with_reducible refine Kd.C_drewN ?_ _) | (with_reducible refine Kd.C_drew ?_) | exact HR306_4.out)) hb); have n7_ := Aside0.mk (below_step (by repeat (first | (with_reducible first | exact HB.out | apply below_alloc | apply pw_below_drewN | apply below_drew1 | refine below_set ?_ GE289.out | refine below_set ?_ GE307.out) | exact HB.out)) hb); clear HO_39; clear HO_290003; clear HO_290004; clear BK289; clear BK307; clear HR306_3; clear HR306_4; clear HB; have HO_39 := n0_; have HO_290003 := n1_; have HO_290004 := n2_; have BK289 := n3_; have BK307 := n4_; have HR306_3 := n5_; have HR306_4 := n6_; have HB := n7_; clear n0_ n1_ n2_ n3_ n4_ n5_ n6_ n7_; (try clear hb); (try clear hb2); (try clear hk); (try clear hi)))
                                                  go_ret
                                                  exact ⟨by first | rfl | (simp [errW_none, errW_some] <;> rfl) | (simp only [← hji72]; first | rfl | (simp [errW_none, errW_some] <;> rfl)) | (simp [*, errW_none, errW_some] <;> rfl), by repeat (first | (with_reducible first | exact HB.out | apply below_alloc | apply pw_below_drewN | apply below_drew1 | refine below_set ?_ GE289.out | refine below_set ?_ GE307.out) | exact HB.out)⟩
                                                · rw [if_neg c76] at H
                                                  have c76b0 : (t315 != (x48_3 == 0)) = false := by simpa using c76
                                                  (try (have c76b1 : decide (t315 = (x48_3 == 0)) = true := by simpa using c76))
                                                  (try (have c76b2 : (t315 == (x48_3 == 0)) = true := by simpa using c76))
                                                  clear c76
                                                  have H' := Aside0.mk H
                                                  clear H
                                                  have hnb80 := NB307_289.out
                                                  have hnc80 := NB289_307.out
                                                  have hcz81_0 : wc.cell? ⟨gb307, 0, none⟩ = some (.int .i64 ((rd_T25 t301 x41_2).f0)) := (blk_cell BK307.out 0).trans rfl
                                                  have hcz81_1 : wc.cell? ⟨gb307, 1, none⟩ = some (.int .i64 ((rd_T25 t301 x41_2).f1)) := (blk_cell BK307.out 1).trans rfl
                                                  have hcz81_2 : wc.cell? ⟨gb307, 2, none⟩ = some (.int .i64 ((rd_T25 t301 x41_2).f2)) := (blk_cell BK307.out 2).trans rfl
                                                  have hcz81_3 : wc.cell? ⟨gb307, 3, none⟩ = some (.slice A306_3 ((rd_T25 t301 x41_2).f3).length c306_3) := (blk_cell BK307.out 3).trans rfl
                                                  have hcz81_4 : wc.cell? ⟨gb307, 4, none⟩ = some (.slice A306_4 ((rd_T25 t301 x41_2).f4).length c306_4) := (blk_cell BK307.out 4).trans rfl
                                                  have hfz81_0 := blk_frozen BK307.out 0
                                                  have hfz81_1 := blk_frozen BK307.out 1
                                                  have hfz81_2 := blk_frozen BK307.out 2
                                                  have hfz81_3 := blk_frozen BK307.out 3
                                                  have hfz81_4 := blk_frozen BK307.out 4
                                                  have p313 : 0 ≤ (x48_3 : Int) := of_decide_eq_true (by first | (with_reducible assumption) | assumption)
                                                  have q313 : x48_3 < (((rd_T25 t301 x41_2).f4).length : Int) := of_decide_eq_true (by first | (with_reducible assumption) | assumption)
                                                  obtain ⟨ad313, A313_3, c313_3, A313_4, c313_4, e313, hx313_0, hx313_1, hx313_2, hx313_3, hx313_4, hl313_3, hi313_3, hl313_4, hi313_4⟩ := at_T25 HR306_4.out x48_3 p313 q313
                                                  cases e313
                                                  have HR313_3 := Aside0.mk hi313_3
                                                  have HC313_3 := Aside0.mk hl313_3
                                                  clear hi313_3 hl313_3
                                                  have HR313_4 := Aside0.mk hi313_4
                                                  have HC313_4 := Aside0.mk hl313_4
                                                  clear hi313_4 hl313_4
                                                  replace p313 := eq_true p313
                                                  replace q313 := eq_true q313
                                                  go_wp2_with (first | ((with_reducible refine gate_callee (f := 7) rfl ?_); refine goesL_ (some 89) rfl rfl Try.func7 (by kernel_rfl) rfl #[.string (t290.extract 0 (((rd_T25 ((rd_T25 t301 x41_2).f4) x48_3).f1) : Int).toNat)] rfl (by (try simp only [List.map_toArray, List.map_cons, List.map_nil]); first | done | rfl | (simp only [List.length_drop, List.length_take]; rfl)) ?_; (with_reducible refine (impl_SjTail.calls (t290.extract 0 (((rd_T25 ((rd_T25 t301 x41_2).f4) x48_3).f1) : Int).toNat) t314 t315 _ A71.out).mono ?_); rintro e w82 ⟨rfl, hb⟩; refine ⟨_, rfl, ?_⟩; have n0_ := Aside0.mk (Kd.N_below (by (with_reducible repeat (first | apply Kd.N_alloc | apply Kd.N_drewN | apply Kd.N_drew)); exact HO_39.out) hb); have n1_ := Aside0.mk (Kd.R_below (by (with_reducible repeat (first | apply Kd.R_alloc | apply Kd.R_drewN | apply Kd.R_drew)); exact HO_290003.out) hb); have n2_ := Aside0.mk (Kd.N_below (by (with_reducible repeat (first | apply Kd.N_alloc | apply Kd.N_drewN | apply Kd.N_drew)); exact HO_290004.out) hb); have n3_ := Aside0.mk (blk_below (g := gb289) (o := .cells #[.int .i64 t291, .int .i64 t292, .int .i64 t293, .slice Ao19 t294.length co19, .slice Ao20 t297.length co20] 25 (0, 0)) (by (with_reducible repeat (first | refine blk_drewN ?_ _ | refine blk_drew ?_ | refine blk_alloc ?_ _)); exact BK289.out) hb); have n4_ := Aside0.mk (blk_below (g := gb307) (o := .cells #[.int .i64 ((rd_T25 t301 x41_2).f0), .int .i64 ((rd_T25 t301 x41_2).f1), .int .i64 ((rd_T25 t301 x41_2).f2), .slice A306_3 ((rd_T25 t301 x41_2).f3).length c306_3, .slice (some ad313) ((rd_T25 t301 x41_2).f4).length c306_4] 25 (0, 0)) (by (with_reducible repeat (first | refine blk_drewN ?_ _ | refine blk_drew ?_ | refine blk_alloc ?_ _)); exact BK307.out) hb); have n5_ := Aside0.mk (Kd.C_below (by repeat (first | (with_reducible exact HR306_3.out) | (with_reducible refine Kd.C_alloc ?_ _) | (with_reducible refine Kd.C_drewN ?_ _) | (with_reducible refine Kd.C_drew ?_) | exact HR306_3.out)) hb); have n6_ := Aside0.mk (Kd.C_below (by repeat (first | (with_reducible exact HR306_4.out) | (with_reducible refine Kd.C_alloc ?_ _) | (with_reducible refine Kd.C_drewN ?_ _) | (with_reducible refine Kd.C_drew ?_) | exact HR306_4.out)) hb); have n7_ := Aside0.mk (below_step (by repeat (first | (with_reducible first | exact HB.out | apply below_alloc | apply pw_below_drewN | apply below_drew1 | refine below_set ?_ GE289.out | refine below_set ?_ GE307.out) | exact HB.out)) hb); clear HO_39; clear HO_290003; clear HO_290004; clear BK289; clear BK307; clear HR306_3; clear HR306_4; clear HB; have HO_39 := n0_; have HO_290003 := n1_; have HO_290004 := n2_; have BK289 := n3_; have BK307 := n4_; have HR306_3 := n5_; have HR306_4 := n6_; have HB := n7_; clear n0_ n1_ n2_ n3_ n4_ n5_ n6_ n7_; (try clear hb); (try clear hb2); (try clear hk); (try clear hi)))
                                                  go_roundg kj31
                                                  case measure => have := HJ3.out; have := HK2.out; have := HK3.out; have := HJ31.out; omega
                                                  case rel => exact ⟨(wrap64 (x48_3 + 1)), (by first | rfl | (simp; done) | (simp [*]; done)), H', ⟨by have := HJ3.out; have := HK2.out; have := HK3.out; have := HJ31.out; omega⟩, ⟨by (with_reducible repeat (first | apply Kd.N_alloc | apply Kd.N_drewN | apply Kd.N_drew)); exact HO_39.out⟩, ⟨by (with_reducible repeat (first | apply Kd.R_alloc | apply Kd.R_drewN | apply Kd.R_drew)); exact HO_290003.out⟩, ⟨by (with_reducible repeat (first | apply Kd.N_alloc | apply Kd.N_drewN | apply Kd.N_drew)); exact HO_290004.out⟩, ⟨by (with_reducible repeat (first | refine blk_drewN ?_ _ | refine blk_drew ?_ | refine blk_alloc ?_ _)); exact BK289.out⟩, ⟨by (with_reducible repeat (first | refine blk_drewN ?_ _ | refine blk_drew ?_ | refine blk_alloc ?_ _)); exact BK307.out⟩, ⟨by repeat (first | (with_reducible exact HR306_3.out) | (with_reducible refine Kd.C_alloc ?_ _) | (with_reducible refine Kd.C_drewN ?_ _) | (with_reducible refine Kd.C_drew ?_) | exact HR306_3.out)⟩, ⟨by repeat (first | (with_reducible exact HR306_4.out) | (with_reducible refine Kd.C_alloc ?_ _) | (with_reducible refine Kd.C_drewN ?_ _) | (with_reducible refine Kd.C_drew ?_) | exact HR306_4.out)⟩, ⟨by repeat (first | (with_reducible first | exact HB.out | apply below_alloc | apply pw_below_drewN | apply below_drew1 | refine below_set ?_ GE289.out | refine below_set ?_ GE307.out) | exact HB.out)⟩⟩
                                              · rw [if_neg c75] at H
                                                have c75b0 : (t314.toList == (t290.extract 0 ((ji72) : Int).toNat).toList) = false := beq_eq_false_iff_ne.mpr c75
                                                have c75b1 : (t314.toList != (t290.extract 0 ((ji72) : Int).toNat).toList) = true := bne_iff_ne.mpr c75
                                                obtain rfl := Option.some.inj H
                                                have hnb83 := NB307_289.out
                                                have hnc83 := NB289_307.out
                                                have hcz84_0 : wc.cell? ⟨gb307, 0, none⟩ = some (.int .i64 ((rd_T25 t301 x41_2).f0)) := (blk_cell BK307.out 0).trans rfl
                                                have hcz84_1 : wc.cell? ⟨gb307, 1, none⟩ = some (.int .i64 ((rd_T25 t301 x41_2).f1)) := (blk_cell BK307.out 1).trans rfl
                                                have hcz84_2 : wc.cell? ⟨gb307, 2, none⟩ = some (.int .i64 ((rd_T25 t301 x41_2).f2)) := (blk_cell BK307.out 2).trans rfl
                                                have hcz84_3 : wc.cell? ⟨gb307, 3, none⟩ = some (.slice A306_3 ((rd_T25 t301 x41_2).f3).length c306_3) := (blk_cell BK307.out 3).trans rfl
                                                have hcz84_4 : wc.cell? ⟨gb307, 4, none⟩ = some (.slice A306_4 ((rd_T25 t301 x41_2).f4).length c306_4) := (blk_cell BK307.out 4).trans rfl
                                                have hfz84_0 := blk_frozen BK307.out 0
                                                have hfz84_1 := blk_frozen BK307.out 1
                                                have hfz84_2 := blk_frozen BK307.out 2
                                                have hfz84_3 := blk_frozen BK307.out 3
                                                have hfz84_4 := blk_frozen BK307.out 4
                                                have p313 : 0 ≤ (x48_3 : Int) := of_decide_eq_true (by first | (with_reducible assumption) | assumption)
                                                have q313 : x48_3 < (((rd_T25 t301 x41_2).f4).length : Int) := of_decide_eq_true (by first | (with_reducible assumption) | assumption)
                                                obtain ⟨ad313, A313_3, c313_3, A313_4, c313_4, e313, hx313_0, hx313_1, hx313_2, hx313_3, hx313_4, hl313_3, hi313_3, hl313_4, hi313_4⟩ := at_T25 HR306_4.out x48_3 p313 q313
                                                cases e313
                                                have HR313_3 := Aside0.mk hi313_3
                                                have HC313_3 := Aside0.mk hl313_3
                                                clear hi313_3 hl313_3
                                                have HR313_4 := Aside0.mk hi313_4
                                                have HC313_4 := Aside0.mk hl313_4
                                                clear hi313_4 hl313_4
                                                replace p313 := eq_true p313
                                                replace q313 := eq_true q313
                                                go_wp2_with (first | ((with_reducible refine gate_callee (f := 7) rfl ?_); refine goesL_ (some 89) rfl rfl Try.func7 (by kernel_rfl) rfl #[.string (t290.extract 0 (((rd_T25 ((rd_T25 t301 x41_2).f4) x48_3).f1) : Int).toNat)] rfl (by (try simp only [List.map_toArray, List.map_cons, List.map_nil]); first | done | rfl | (simp only [List.length_drop, List.length_take]; rfl)) ?_; (with_reducible refine (impl_SjTail.calls (t290.extract 0 (((rd_T25 ((rd_T25 t301 x41_2).f4) x48_3).f1) : Int).toNat) t314 t315 _ A71.out).mono ?_); rintro e w85 ⟨rfl, hb⟩; refine ⟨_, rfl, ?_⟩; have n0_ := Aside0.mk (Kd.N_below (by (with_reducible repeat (first | apply Kd.N_alloc | apply Kd.N_drewN | apply Kd.N_drew)); exact HO_39.out) hb); have n1_ := Aside0.mk (Kd.R_below (by (with_reducible repeat (first | apply Kd.R_alloc | apply Kd.R_drewN | apply Kd.R_drew)); exact HO_290003.out) hb); have n2_ := Aside0.mk (Kd.N_below (by (with_reducible repeat (first | apply Kd.N_alloc | apply Kd.N_drewN | apply Kd.N_drew)); exact HO_290004.out) hb); have n3_ := Aside0.mk (blk_below (g := gb289) (o := .cells #[.int .i64 t291, .int .i64 t292, .int .i64 t293, .slice Ao19 t294.length co19, .slice Ao20 t297.length co20] 25 (0, 0)) (by (with_reducible repeat (first | refine blk_drewN ?_ _ | refine blk_drew ?_ | refine blk_alloc ?_ _)); exact BK289.out) hb); have n4_ := Aside0.mk (blk_below (g := gb307) (o := .cells #[.int .i64 ((rd_T25 t301 x41_2).f0), .int .i64 ((rd_T25 t301 x41_2).f1), .int .i64 ((rd_T25 t301 x41_2).f2), .slice A306_3 ((rd_T25 t301 x41_2).f3).length c306_3, .slice (some ad313) ((rd_T25 t301 x41_2).f4).length c306_4] 25 (0, 0)) (by (with_reducible repeat (first | refine blk_drewN ?_ _ | refine blk_drew ?_ | refine blk_alloc ?_ _)); exact BK307.out) hb); have n5_ := Aside0.mk (Kd.C_below (by repeat (first | (with_reducible exact HR306_3.out) | (with_reducible refine Kd.C_alloc ?_ _) | (with_reducible refine Kd.C_drewN ?_ _) | (with_reducible refine Kd.C_drew ?_) | exact HR306_3.out)) hb); have n6_ := Aside0.mk (Kd.C_below (by repeat (first | (with_reducible exact HR306_4.out) | (with_reducible refine Kd.C_alloc ?_ _) | (with_reducible refine Kd.C_drewN ?_ _) | (with_reducible refine Kd.C_drew ?_) | exact HR306_4.out)) hb); have n7_ := Aside0.mk (below_step (by repeat (first | (with_reducible first | exact HB.out | apply below_alloc | apply pw_below_drewN | apply below_drew1 | refine below_set ?_ GE289.out | refine below_set ?_ GE307.out) | exact HB.out)) hb); clear HO_39; clear HO_290003; clear HO_290004; clear BK289; clear BK307; clear HR306_3; clear HR306_4; clear HB; have HO_39 := n0_; have HO_290003 := n1_; have HO_290004 := n2_; have BK289 := n3_; have BK307 := n4_; have HR306_3 := n5_; have HR306_4 := n6_; have HB := n7_; clear n0_ n1_ n2_ n3_ n4_ n5_ n6_ n7_; (try clear hb); (try clear hb2); (try clear hk); (try clear hi)))
                                                go_ret
                                                exact ⟨by first | rfl | (simp [errW_none, errW_some] <;> rfl) | (simp only [← hji72]; first | rfl | (simp [errW_none, errW_some] <;> rfl)) | (simp [*, errW_none, errW_some] <;> rfl), by repeat (first | (with_reducible first | exact HB.out | apply below_alloc | apply pw_below_drewN | apply below_drew1 | refine below_set ?_ GE289.out | refine below_set ?_ GE307.out) | exact HB.out)⟩
                                            · rw [if_neg c74] at H
                                              exact absurd H (by simp)
                                          · rw [if_neg c73] at H
                                            exact absurd H (by simp)
                                        · rw [if_neg c70] at H
                                          exact absurd H (by simp)
                                      · rw [if_neg c69] at H
                                        exact absurd H (by simp)
                                    · rw [if_neg c68] at H
                                      exact absurd H (by simp)
                                  · rw [if_neg c67] at H
                                    exact absurd H (by simp)
                        · rw [if_neg c31] at H
                          have c31b0 : decide (x48_3 < (((rd_T25 t301 x41_2).f4).length : Int)) = false := decide_eq_false c31
                          clear c31
                          have H' := Aside0.mk H
                          clear H
                          go_wp2
                          go_roundg k3
                          case measure => have := HJ3.out; have := HK2.out; have := HK3.out; omega
                          case rel => exact ⟨(wrap64 (x41_2 + 1)), (by first | rfl | (simp; done) | (simp [*]; done)), H', ⟨by have := HJ3.out; have := HK2.out; have := HK3.out; omega⟩, ⟨by (with_reducible repeat (first | apply Kd.N_alloc | apply Kd.N_drewN | apply Kd.N_drew)); exact Kd.N_mono HO_39.out (fun _ hk => hk.1)⟩, ⟨by (with_reducible repeat (first | apply Kd.R_alloc | apply Kd.R_drewN | apply Kd.R_drew)); exact HO_290003.out⟩, ⟨by (with_reducible repeat (first | apply Kd.N_alloc | apply Kd.N_drewN | apply Kd.N_drew)); exact Kd.N_mono HO_290004.out (fun _ hk => ⟨hk.1, ⟨hk.2.1, hk.2.2.1⟩⟩)⟩, ⟨by (with_reducible repeat (first | refine blk_drewN ?_ _ | refine blk_drew ?_ | refine blk_alloc ?_ _)); exact BK289.out⟩, ⟨by repeat (first | (with_reducible first | exact HB.out | apply below_alloc | apply pw_below_drewN | apply below_drew1 | refine below_set ?_ GE289.out | refine below_set ?_ GE307.out) | exact HB.out)⟩⟩
                  · rw [if_neg c27] at H
                    exact absurd H (by simp)
                · rw [if_neg c26] at H
                  exact absurd H (by simp)
              · rw [if_neg c25] at H
                have c25b0 : decide (x41_2 < (t301.length : Int)) = false := decide_eq_false c25
                clear c25
                replace H := Option.bind_eq_some_iff.mp H
                obtain ⟨⟨t304, t305⟩, A860, H⟩ := H
                replace H : (if t304.toList = ([91] : List UInt8) then (some t305) else (some false)) = some r := H
                have A86 := Aside0.mk A860
                clear A860
                by_cases c87 : t304.toList = ([91] : List UInt8)
                · rw [if_pos c87] at H
                  have c87b0 : (t304.toList == ([91] : List UInt8)) = true := beq_iff_eq.mpr c87
                  have c87b1 : (t304.toList != ([91] : List UInt8)) = false := bne_eq_false_iff_eq.mpr c87
                  clear c87
                  obtain rfl := Option.some.inj H
                  go_wp2_with (first | ((with_reducible refine gate_callee (f := 7) rfl ?_); refine goesL_ (some 105) rfl rfl Try.func7 (by kernel_rfl) rfl #[.string (⟨#[91]⟩ : ByteArray)] rfl (by (try simp only [List.map_toArray, List.map_cons, List.map_nil]); first | done | rfl | (simp only [List.length_drop, List.length_take]; rfl)) ?_; (with_reducible refine (impl_SjTail.calls (⟨#[91]⟩ : ByteArray) t304 t305 _ A86.out).mono ?_); rintro e w88 ⟨rfl, hb⟩; refine ⟨_, rfl, ?_⟩; have n0_ := Aside0.mk (Kd.N_below (by (with_reducible repeat (first | apply Kd.N_alloc | apply Kd.N_drewN | apply Kd.N_drew)); exact HO_39.out) hb); have n1_ := Aside0.mk (Kd.R_below (by (with_reducible repeat (first | apply Kd.R_alloc | apply Kd.R_drewN | apply Kd.R_drew)); exact HO_290003.out) hb); have n2_ := Aside0.mk (Kd.N_below (by (with_reducible repeat (first | apply Kd.N_alloc | apply Kd.N_drewN | apply Kd.N_drew)); exact HO_290004.out) hb); have n3_ := Aside0.mk (blk_below (g := gb289) (o := .cells #[.int .i64 t291, .int .i64 t292, .int .i64 t293, .slice Ao19 t294.length co19, .slice Ao20 t297.length co20] 25 (0, 0)) (by (with_reducible repeat (first | refine blk_drewN ?_ _ | refine blk_drew ?_ | refine blk_alloc ?_ _)); exact BK289.out) hb); have n4_ := Aside0.mk (below_step (by repeat (first | (with_reducible first | exact HB.out | apply below_alloc | apply pw_below_drewN | apply below_drew1 | refine below_set ?_ GE289.out) | exact HB.out)) hb); clear HO_39; clear HO_290003; clear HO_290004; clear BK289; clear HB; have HO_39 := n0_; have HO_290003 := n1_; have HO_290004 := n2_; have BK289 := n3_; have HB := n4_; clear n0_ n1_ n2_ n3_ n4_; (try clear hb); (try clear hb2); (try clear hk); (try clear hi)))
                  go_ret
                  exact ⟨by first | rfl | (simp [errW_none, errW_some] <;> rfl) | (simp [*, errW_none, errW_some] <;> rfl), by repeat (first | (with_reducible first | exact HB.out | apply below_alloc | apply pw_below_drewN | apply below_drew1 | refine below_set ?_ GE289.out) | exact HB.out)⟩
                · rw [if_neg c87] at H
                  have c87b0 : (t304.toList == ([91] : List UInt8)) = false := beq_eq_false_iff_ne.mpr c87
                  have c87b1 : (t304.toList != ([91] : List UInt8)) = true := bne_iff_ne.mpr c87
                  obtain rfl := Option.some.inj H
                  go_wp2_with (first | ((with_reducible refine gate_callee (f := 7) rfl ?_); refine goesL_ (some 105) rfl rfl Try.func7 (by kernel_rfl) rfl #[.string (⟨#[91]⟩ : ByteArray)] rfl (by (try simp only [List.map_toArray, List.map_cons, List.map_nil]); first | done | rfl | (simp only [List.length_drop, List.length_take]; rfl)) ?_; (with_reducible refine (impl_SjTail.calls (⟨#[91]⟩ : ByteArray) t304 t305 _ A86.out).mono ?_); rintro e w89 ⟨rfl, hb⟩; refine ⟨_, rfl, ?_⟩; have n0_ := Aside0.mk (Kd.N_below (by (with_reducible repeat (first | apply Kd.N_alloc | apply Kd.N_drewN | apply Kd.N_drew)); exact HO_39.out) hb); have n1_ := Aside0.mk (Kd.R_below (by (with_reducible repeat (first | apply Kd.R_alloc | apply Kd.R_drewN | apply Kd.R_drew)); exact HO_290003.out) hb); have n2_ := Aside0.mk (Kd.N_below (by (with_reducible repeat (first | apply Kd.N_alloc | apply Kd.N_drewN | apply Kd.N_drew)); exact HO_290004.out) hb); have n3_ := Aside0.mk (blk_below (g := gb289) (o := .cells #[.int .i64 t291, .int .i64 t292, .int .i64 t293, .slice Ao19 t294.length co19, .slice Ao20 t297.length co20] 25 (0, 0)) (by (with_reducible repeat (first | refine blk_drewN ?_ _ | refine blk_drew ?_ | refine blk_alloc ?_ _)); exact BK289.out) hb); have n4_ := Aside0.mk (below_step (by repeat (first | (with_reducible first | exact HB.out | apply below_alloc | apply pw_below_drewN | apply below_drew1 | refine below_set ?_ GE289.out) | exact HB.out)) hb); clear HO_39; clear HO_290003; clear HO_290004; clear BK289; clear HB; have HO_39 := n0_; have HO_290003 := n1_; have HO_290004 := n2_; have BK289 := n3_; have HB := n4_; clear n0_ n1_ n2_ n3_ n4_; (try clear hb); (try clear hb2); (try clear hk); (try clear hi)))
                  go_ret
                  exact ⟨by first | rfl | (simp [errW_none, errW_some] <;> rfl) | (simp [*, errW_none, errW_some] <;> rfl), by repeat (first | (with_reducible first | exact HB.out | apply below_alloc | apply pw_below_drewN | apply below_drew1 | refine below_set ?_ GE289.out) | exact HB.out)⟩

/-- THE ONE PURE STATEMENT of laws_FnSjTail: yours. -/
def laws_FnSjTail.Pure : Prop := ∀ (a0 : ByteArray), a0.size ≤ 140737488351232 → ∃ k, laws_FnSjTail.f k a0 = some true
theorem laws_FnSjTail.walk (P : laws_FnSjTail.Pure) (a0 : ByteArray) (w : World) (w0 : a0.size ≤ 140737488351232) :
    Calls Try.prog 3 #[.string a0] w fun e w' => e = .returned (.bool true) ∧ Below w.heap.size w w' := by
  obtain ⟨k, h⟩ := P a0 w0
  refine (laws_FnSjTail.calls k a0 true w h).mono ?_
  rintro e w' ⟨rfl, hd⟩
  exact ⟨rfl, hd⟩

end Go.Proofs.Ytbppoiedaojjmab.PFnSjTail
