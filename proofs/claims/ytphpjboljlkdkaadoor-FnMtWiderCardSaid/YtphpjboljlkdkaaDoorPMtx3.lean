/- Written by a program of this session (a turned copy of the print) out of the translation. -/
import Derived.Test.YtphpjboljlkdkaaDoorPMtx0
namespace Go.Proofs.YtphpjboljlkdkaaDoor.PMt
open Go.RowKit Go.Proofs.YtphpjboljlkdkaaDoorW.PrintWords Go.Proofs.YtphpjboljlkdkaaDoorW.PrintLast Go.Proofs.YtphpjboljlkdkaaDoorW.PrintMore
attribute [local go_sem] max2_int min2_int max_two min_two max_three min_three max_four min_four   -- for this text's walks alone
set_option linter.unusedVariables false
set_option linter.unusedSimpArgs false

/-! ### spec_Fits: function 54 -/
mutual
def spec_Fits.l0 : Nat → List Int → List Bool → List (S31) → Int → Int → Option (Bool)
  | 0, _, _, _, _, _ => none
  | k + 1, x0, x5, x16, x17, x18 => if x18 < x17 then (if 0 ≤ x18 then (if x18 < (x16.length : Int) then (if 0 ≤ (wrap64 ((x0.length : Int) + 1)) then (if (wrap64 ((x0.length : Int) + 1) : Int).toNat ≤ 281474976710656 then (spec_Fits.l1 k x0 x5 (List.replicate (wrap64 ((x0.length : Int) + 1) : Int).toNat false) 0 x16 x17 x18 ((rd_T31 x16 x18).f0) ((rd_T31 x16 x18).f1) ((rd_T31 x16 x18).f2)) else (none)) else (none)) else (none)) else (none)) else (if 0 ≤ (x0.length : Int) then (if (x0.length : Int) < (x5.length : Int) then (some (rdOf false x5 (x0.length : Int))) else (none)) else (none))
def spec_Fits.l1 : Nat → List Int → List Bool → List Bool → Int → List (S31) → Int → Int → Bool → Bool → Int → Option (Bool)
  | 0, _, _, _, _, _, _, _, _, _, _ => none
  | k + 1, x0, x5, x8, x9, x16, x17, x18, x134000, x134001, x134002 => if x9 ≤ (x0.length : Int) then (if x134000 = true then (if 0 ≤ x9 then (if x9 < (x5.length : Int) then (if rdOf false x5 x9 = true then (if x9 < (x8.length : Int) then (spec_Fits.l1 k x0 x5 (x8.set (x9 : Int).toNat true) (wrap64 (x9 + 1)) x16 x17 x18 x134000 x134001 x134002) else (none)) else (if x9 > 0 then (if 0 ≤ (wrap64 (x9 - 1)) then (if (wrap64 (x9 - 1)) < (x8.length : Int) then (if x9 < (x8.length : Int) then (spec_Fits.l1 k x0 x5 (x8.set (x9 : Int).toNat (rdOf false x8 (wrap64 (x9 - 1)))) (wrap64 (x9 + 1)) x16 x17 x18 x134000 x134001 x134002) else (none)) else (none)) else (none)) else (if x9 < (x8.length : Int) then (spec_Fits.l1 k x0 x5 (x8.set (x9 : Int).toNat false) (wrap64 (x9 + 1)) x16 x17 x18 x134000 x134001 x134002) else (none)))) else (none)) else (none)) else (if x9 > 0 then (if 0 ≤ (wrap64 (x9 - 1)) then (if (wrap64 (x9 - 1)) < (x5.length : Int) then (if rdOf false x5 (wrap64 (x9 - 1)) = true then (if x134001 = true then (if 0 ≤ x9 then (if x9 < (x8.length : Int) then (spec_Fits.l1 k x0 x5 (x8.set (x9 : Int).toNat true) (wrap64 (x9 + 1)) x16 x17 x18 x134000 x134001 x134002) else (none)) else (none)) else (if (wrap64 (x9 - 1)) < (x0.length : Int) then (if 0 ≤ x9 then (if x9 < (x8.length : Int) then (spec_Fits.l1 k x0 x5 (x8.set (x9 : Int).toNat (x134002 == (rd x0 (wrap64 (x9 - 1))))) (wrap64 (x9 + 1)) x16 x17 x18 x134000 x134001 x134002) else (none)) else (none)) else (none))) else (spec_Fits.l1 k x0 x5 x8 (wrap64 (x9 + 1)) x16 x17 x18 x134000 x134001 x134002)) else (none)) else (none)) else (spec_Fits.l1 k x0 x5 x8 (wrap64 (x9 + 1)) x16 x17 x18 x134000 x134001 x134002))) else (spec_Fits.l0 k x0 x8 x16 x17 (wrap64 (x18 + 1)))
end
def spec_Fits.f (k : Nat) (l0 : List Int) (l1 : List (S31)) : Option (Bool) := if 0 ≤ (wrap64 ((l0.length : Int) + 1)) then (if (wrap64 ((l0.length : Int) + 1) : Int).toNat ≤ 281474976710656 then ((some (List.replicate (wrap64 ((l0.length : Int) + 1) : Int).toNat false : List Bool)).bind fun y127 => (if 0 < (y127.length : Int) then (spec_Fits.l0 k l0 (y127.set (0 : Int).toNat true) l1 (l1.length : Int) 0) else (none))) else (none)) else (none)
theorem spec_Fits.mono_l : ∀ k, (∀ y0 y1 y2 y3 y4, LeO (spec_Fits.l0 k y0 y1 y2 y3 y4) (spec_Fits.l0 (k + 1) y0 y1 y2 y3 y4)) ∧ (∀ y0 y1 y2 y3 y4 y5 y6 y7 y8 y9, LeO (spec_Fits.l1 k y0 y1 y2 y3 y4 y5 y6 y7 y8 y9) (spec_Fits.l1 (k + 1) y0 y1 y2 y3 y4 y5 y6 y7 y8 y9))
  | 0 => ⟨fun _ _ _ _ _ r h => by simp [spec_Fits.l0] at h, fun _ _ _ _ _ _ _ _ _ _ r h => by simp [spec_Fits.l1] at h⟩
  | k + 1 => by
    obtain ⟨ih0, ih1⟩ := spec_Fits.mono_l k
    refine ⟨?_, ?_⟩
    · intro y0 y1 y2 y3 y4
      unfold spec_Fits.l0
      repeat' first
      | (with_reducible exact ih0 _ _ _ _ _)
      | (with_reducible exact ih1 _ _ _ _ _ _ _ _ _ _)
      | (with_reducible exact LeO.refl _)
      | (with_reducible exact LeO.none _)
      | (with_reducible refine LeO.ite ?_ ?_)
      | (with_reducible refine LeO.bind ?_ (fun _ => ?_))
      | exact ih0 _ _ _ _ _
      | exact ih1 _ _ _ _ _ _ _ _ _ _
      | exact LeO.none _
      | refine LeO.ite ?_ ?_
      | refine LeO.bind ?_ (fun _ => ?_)
    · intro y0 y1 y2 y3 y4 y5 y6 y7 y8 y9
      unfold spec_Fits.l1
      repeat' first
      | (with_reducible exact ih0 _ _ _ _ _)
      | (with_reducible exact ih1 _ _ _ _ _ _ _ _ _ _)
      | (with_reducible exact LeO.refl _)
      | (with_reducible exact LeO.none _)
      | (with_reducible refine LeO.ite ?_ ?_)
      | (with_reducible refine LeO.bind ?_ (fun _ => ?_))
      | exact ih0 _ _ _ _ _
      | exact ih1 _ _ _ _ _ _ _ _ _ _
      | exact LeO.none _
      | refine LeO.ite ?_ ?_
      | refine LeO.bind ?_ (fun _ => ?_)
theorem spec_Fits.mono : ∀ a0 a1 k, LeO (spec_Fits.f k a0 a1) (spec_Fits.f (k + 1) a0 a1) := by
  intro a0 a1 k
  obtain ⟨ih0, ih1⟩ := spec_Fits.mono_l k
  unfold spec_Fits.f
  repeat' first
      | (with_reducible exact ih0 _ _ _ _ _)
      | (with_reducible exact ih1 _ _ _ _ _ _ _ _ _ _)
      | (with_reducible exact LeO.refl _)
      | (with_reducible exact LeO.none _)
      | (with_reducible refine LeO.ite ?_ ?_)
      | (with_reducible refine LeO.bind ?_ (fun _ => ?_))
      | exact ih0 _ _ _ _ _
      | exact ih1 _ _ _ _ _ _ _ _ _ _
      | exact LeO.none _
      | refine LeO.ite ?_ ?_
      | refine LeO.bind ?_ (fun _ => ?_)
def spec_Fits.T13 : Bool × List (List Nat × List Nat) := (true, [([], []), ([], []), ([], []), ([2], [2]), ([3], [3]), ([4], [4]), ([5, 4], [4, 5]), ([4], [4]), ([4], [4]), ([8, 4], [4, 8]), ([7, 9, 4], [4, 7, 9]), ([10, 4], [4, 10]), ([6, 11, 4], [4, 6, 11]), ([4, 12], [4, 12]), ([0, 1, 0, 1, 2, 3, 4, 5, 6, 7, 8, 9, 10, 11, 12, 13], [0, 1]), ([14, 13, 4, 0, 1, 2, 3, 4, 5, 6, 7, 8, 9, 10, 11, 12, 13], [13, 14])])
def spec_Fits.B13 : List Nat := [0, 0, 0, 4, 12, 28, 60, 28, 28, 284, 924, 1948, 4092, 8188, 16383, 32767]
theorem spec_Fits.tab13 : rtab .any (opsOf Tryd.f54 13) = spec_Fits.T13 := by kernel_rfl
theorem spec_Fits.bits13 : waitsOk spec_Fits.T13.2 spec_Fits.B13 = true := by kernel_rfl
set_option maxHeartbeats 8000000 in
set_option maxRecDepth 100000 in
theorem spec_Fits.calls (k : Nat) (A0 : Option Addr) (c0 : Nat) (l0 : List Int) (A1 : Option Addr) (c1 : Nat) (l1 : List (S31)) (r : Bool) (w : World) (hr0 : Kd.C (Kd.int .i64) w A0 l0.length l0) (hc0 : l0.length ≤ c0) (hr1 : Kd.C k31 w A1 l1.length l1) (hc1 : l1.length ≤ c1) (h : spec_Fits.f k l0 l1 = some r) :
    Calls Tryd.prog 54 #[.slice A0 l0.length c0, .slice A1 l1.length c1] w fun e w' => e = .returned (.bool r) ∧ Below w.heap.size w w' := by
  have hu31 := Tryd.underlying31
  have HR0 := Aside0.mk hr0
  have HC0 := Aside0.mk hc0
  clear hr0 hc0
  have HR1 := Aside0.mk hr1
  have HC1 := Aside0.mk hc1
  clear hr1 hc1
  have HB := Aside0.mk (Below.refl w.heap.size w)
  have H : (if 0 ≤ (wrap64 ((l0.length : Int) + 1)) then (if (wrap64 ((l0.length : Int) + 1) : Int).toNat ≤ 281474976710656 then ((some (List.replicate (wrap64 ((l0.length : Int) + 1) : Int).toNat false : List Bool)).bind fun y127 => (if 0 < (y127.length : Int) then (spec_Fits.l0 k l0 (y127.set (0 : Int).toNat true) l1 (l1.length : Int) 0) else (none))) else (none)) else (none)) = some r := h
  clear h
  obtain ⟨ji3, hji3⟩ : ∃ j_ : Int, (wrap64 ((l0.length : Int) + 1)) = j_ := ⟨_, rfl⟩
  replace H : (if 0 ≤ (ji3) then (if (ji3 : Int).toNat ≤ 281474976710656 then ((some (List.replicate (ji3 : Int).toNat false : List Bool)).bind fun y127 => (if 0 < (y127.length : Int) then (spec_Fits.l0 k l0 (y127.set (0 : Int).toNat true) l1 (l1.length : Int) 0) else (none))) else (none)) else (none)) = some r := by first | (rw [hji3] at H; exact H) | (simp only [hji3] at H ⊢; exact H)
  have hji3w : (IntKind.i64.wrap ((l0.length : Int) + 1)) = ji3 := (i64_w _).trans hji3
  by_cases c4 : 0 ≤ (ji3)
  · rw [if_pos c4] at H
    have c4b0 := eq_true c4
    have c4b1 : decide (0 ≤ (ji3)) = true := decide_eq_true c4
    clear c4
    by_cases c5 : (ji3 : Int).toNat ≤ 281474976710656
    · rw [if_pos c5] at H
      have c5b0 := eq_true c5
      have c5b1 : decide ((ji3 : Int).toNat ≤ 281474976710656) = true := decide_eq_true c5
      clear c5
      obtain ⟨y127, hy127⟩ : ∃ y_ : List Bool, y_ = (List.replicate (ji3 : Int).toNat false) := ⟨_, rfl⟩
      replace H : (if 0 < (y127.length : Int) then (spec_Fits.l0 k l0 (y127.set (0 : Int).toNat true) l1 (l1.length : Int) 0) else (none)) = some r := by first | (rw [hy127]; with_reducible exact H) | (have H2_ := (Option.bind_some _ _).symm.trans H; rw [hy127]; with_reducible exact H2_) | (have H2_ := (Option.bind_some _ _).symm.trans H; with_reducible exact H2_) | with_reducible exact H | (rw [hy127]; exact H) | exact H
      have Ny127 := Aside0.mk hy127
      clear hy127
      by_cases c6 : 0 < (y127.length : Int)
      · rw [if_pos c6] at H
        have c6b0 : decide (0 < (y127.length : Int)) = true := decide_eq_true c6
        have c6b1 : decide (0 < y127.length) = true := decide_eq_true (by omega)
        clear c6
        obtain ⟨y130, hy130⟩ : ∃ y_ : List Bool, y_ = (y127.set (0 : Int).toNat true) := ⟨_, rfl⟩
        replace H : (spec_Fits.l0 k l0 y130 l1 (l1.length : Int) 0) = some r := by first | (rw [hy130]; with_reducible exact H) | (have H2_ := (Option.bind_some _ _).symm.trans H; rw [hy130]; with_reducible exact H2_) | (have H2_ := (Option.bind_some _ _).symm.trans H; with_reducible exact H2_) | with_reducible exact H | (rw [hy130]; exact H) | exact H
        have Ny130 := Aside0.mk hy130
        clear hy130
        have H' := Aside0.mk H
        clear H
        go_enter Tryd.func54, Tryd.ntmps54
        go_wp2_with (first | ((with_reducible refine gate_dst (N := 13) rfl ?_); refine Kd.R_make Kd.bool _ 4 rfl (N := 13) rfl 119 _ _ rfl ji3 rfl rfl Tryd.underlying119 (.bool false) 1 info4 rfl (by decide) (by omega) false (ok := fun _ => True) (okp := fun _ => True) rfl (fun _ hk => hk) trivial (of_decide_eq_true (by first | (with_reducible assumption) | assumption)) (Nat.le_trans (Nat.mul_le_mul_right _ (of_decide_eq_true (by first | (with_reducible assumption) | assumption) : ji3.toNat ≤ 281474976710656)) (by omega)) (Below.refl _ _) (Nat.le_refl _) ?_; intro v128 w8 ho9 hb hg_ hnew_; clear hg_ hnew_; (first | rw [← Ny127.out] at ho9 | (simp only [Int.reduceToNat] at ho9; rw [← Ny127.out] at ho9)); have n0_ := Aside0.mk (Kd.R_lower ho9 (below_size (by repeat (first | (with_reducible first | exact HB.out | apply below_alloc | apply pw_below_drewN | apply below_drew1) | exact HB.out)))); have n1_ := Aside0.mk (below_step (by repeat (first | (with_reducible first | exact HB.out | apply below_alloc | apply pw_below_drewN | apply below_drew1) | exact HB.out)) hb); clear HB; have HO129 := n0_; have HB := n1_; clear n0_ n1_; clear hb ho9; have p7 : 0 ≤ (0 : Int) := (by omega); have q7 : (0 : Int) < ((y127.length : Int) : Int) := of_decide_eq_true (by first | (with_reducible assumption) | assumption); have qi7 : (0 < y127.length) = True := eq_true (by omega); obtain ⟨go7, co7, eo7, gb7, gl7, cl7, HG7⟩ := Kd.R_form HO129.out (by omega); (first | cases eo7 | (injection eo7 with ea_ en_ ec_; (first | subst ea_ | (injection ea_ with ea_; subst ea_)); subst ec_; clear en_)); have GB7 := Aside0.mk gb7; have GG7 := Aside0.mk HG7; clear gb7 gl7 HG7; obtain ⟨hx7_0, hf7_0⟩ := Kd.R_celln false HO129.out (0 : Int) p7 q7; (try rw [show ((0 : Int)).toNat = 0 from rfl] at hx7_0); (try simp only [Nat.reduceMul, Nat.zero_mul, Nat.zero_add, Nat.reduceAdd] at hx7_0); (try rw [show ((0 : Int)).toNat = 0 from rfl] at hf7_0); (try simp only [Nat.reduceMul, Nat.zero_mul, Nat.zero_add, Nat.reduceAdd] at hf7_0); replace p7 := eq_true p7; replace q7 := eq_true q7; obtain ⟨hy10_, hz10_⟩ := Kd.R_celln false HO129.out (0 : Int) (by omega) (of_decide_eq_true (by first | (with_reducible assumption) | assumption)); (try simp only [Int.reduceToNat, Int.toNat_zero, Int.toNat_ofNat, Nat.reduceMul, Nat.zero_mul, Nat.zero_add] at hy10_ hz10_); (try rw [show ((0 : Int)).toNat = 0 from rfl] at hy10_); (try rw [show ((0 : Int)).toNat = 0 from rfl] at hz10_); have HP10 := Kd.R_putg HO129.out (0 : Int) true) | ((with_reducible refine gate_store (t := 4) (p := 15) rfl ?_); refine store_event (t := 4) (p := 15) (v := ?vo_w11) (w1 := (w8.setCell ⟨go7, (0 : Int).toNat, none⟩ (.bool true))) ?hg ?ho ?hn ?hr ?_; (case ho => rfl); (case hg => rfl); (case hn => rfl); (case hr => first | (go_simp; done) | (go_simp; rfl)); intro w11 hw; have hg : w8.grownBy w11 (some go7) := (by rw [hw]; exact HP10.2); have hp_ : Kd.R Kd.bool 4 w11 w.heap.size (fun _ => True) (.slice (some ⟨go7, 0, none⟩) y127.length co7) y130 := (by rw [hw, Ny130.out]; exact HP10.1); clear HP10; have n0_ := Aside0.mk (hp_); have n1_ := Aside0.mk ((by rw [hw]; exact below_set (HB.out) GB7.out : Below w.heap.size w w11)); clear HO129; clear HB; have HO129 := n0_; have HB := n1_; clear n0_ n1_; clear hg hw hp_))
        (try simp only [Act.put, List.setIfInBounds_toArray, List.set_cons_succ, List.set_cons_zero])
        go_loopg [5, 18] k (fun kq v5 v18 w' => ∃ (x5_1 : List Bool) (x18_1 : Int), v18 = .int .i64 x18_1 ∧ Aside0 (spec_Fits.l0 kq l0 x5_1 l1 (l1.length : Int) x18_1 = some r) ∧ Aside0 (kq ≤ k) ∧ Aside0 (Kd.R Kd.bool 4 w' w.heap.size (fun _ => True) v5 x5_1) ∧ Aside0 (Below w.heap.size w w'))
        case atStart => exact ⟨(y130), (0), (by first | rfl | (simp; done) | (simp [*]; done)), H', ⟨Nat.le_refl _⟩, ⟨by (with_reducible repeat (first | apply Kd.R_alloc | apply Kd.R_drewN | apply Kd.R_drew)); exact HO129.out⟩, ⟨by repeat (first | (with_reducible first | exact HB.out | apply below_alloc | apply pw_below_drewN | apply below_drew1) | exact HB.out)⟩⟩
        case round =>
          clear H'
          try clear c1
          try clear p2
          try clear c4
          try clear c4b0
          try clear c4b1
          try clear c5
          try clear c5b0
          try clear c5b1
          try clear c6
          try clear c6b0
          try clear c6b1
          try clear p6
          try clear p7
          try clear q7
          try clear hx7
          try clear qi7
          try clear hf7
          try clear hx7_0
          try clear p7
          try clear q7
          obtain ⟨x5_1, x18_1, rfl, HA, HK1, HO_5, HB⟩ := hrel
          cases gk with
          | zero => exact absurd HA.out (by simp [spec_Fits.l0])
          | succ k1 =>
            have H := HA.out
            clear HA
            simp only [spec_Fits.l0] at H
            by_cases c12 : x18_1 < (l1.length : Int)
            · rw [if_pos c12] at H
              have c12b0 : decide (x18_1 < (l1.length : Int)) = true := decide_eq_true c12
              clear c12
              by_cases c13 : 0 ≤ x18_1
              · rw [if_pos c13] at H
                have c13b0 : decide (0 ≤ x18_1) = true := decide_eq_true c13
                clear c13
                by_cases c14 : x18_1 < (l1.length : Int)
                · rw [if_pos c14] at H
                  have c14b0 : decide (x18_1 < (l1.length : Int)) = true := decide_eq_true c14
                  clear c14
                  obtain ⟨ji15, hji15⟩ : ∃ j_ : Int, (wrap64 ((l0.length : Int) + 1)) = j_ := ⟨_, rfl⟩
                  replace H : (if 0 ≤ (ji15) then (if (ji15 : Int).toNat ≤ 281474976710656 then (spec_Fits.l1 k1 l0 x5_1 (List.replicate (ji15 : Int).toNat false) 0 l1 (l1.length : Int) x18_1 ((rd_T31 l1 x18_1).f0) ((rd_T31 l1 x18_1).f1) ((rd_T31 l1 x18_1).f2)) else (none)) else (none)) = some r := by first | (rw [hji15] at H; exact H) | (simp only [hji15] at H ⊢; exact H)
                  have hji15w : (IntKind.i64.wrap ((l0.length : Int) + 1)) = ji15 := (i64_w _).trans hji15
                  obtain rfl : ji15 = ji3 := hji15w.symm.trans hji3w
                  by_cases c16 : 0 ≤ (ji15)
                  · rw [if_pos c16] at H
                    have c16b0 := eq_true c16
                    have c16b1 : decide (0 ≤ (ji15)) = true := decide_eq_true c16
                    clear c16
                    by_cases c17 : (ji15 : Int).toNat ≤ 281474976710656
                    · rw [if_pos c17] at H
                      have c17b0 := eq_true c17
                      have c17b1 : decide ((ji15 : Int).toNat ≤ 281474976710656) = true := decide_eq_true c17
                      clear c17
                      obtain ⟨y134, hy134⟩ : ∃ y_ : List Bool, y_ = (List.replicate (ji15 : Int).toNat false) := ⟨_, rfl⟩
                      replace H : (spec_Fits.l1 k1 l0 x5_1 y134 0 l1 (l1.length : Int) x18_1 ((rd_T31 l1 x18_1).f0) ((rd_T31 l1 x18_1).f1) ((rd_T31 l1 x18_1).f2)) = some r := by first | (rw [hy134]; with_reducible exact H) | (have H2_ := (Option.bind_some _ _).symm.trans H; rw [hy134]; with_reducible exact H2_) | (have H2_ := (Option.bind_some _ _).symm.trans H; with_reducible exact H2_) | with_reducible exact H | (rw [hy134]; exact H) | exact H
                      have Ny134 := Aside0.mk hy134
                      clear hy134
                      have H' := Aside0.mk H
                      clear H
                      have p132 : 0 ≤ (x18_1 : Int) := of_decide_eq_true (by first | (with_reducible assumption) | assumption)
                      have q132 : x18_1 < (l1.length : Int) := of_decide_eq_true (by first | (with_reducible assumption) | assumption)
                      obtain ⟨ad132, e132, hx132_0, hx132_1, hx132_2⟩ := at_T31 HR1.out x18_1 p132 q132
                      cases e132
                      replace hx132_0 := (HB.out.cell (World.block_lt_of_cell? w _ hx132_0)).trans hx132_0
                      replace hx132_1 := (HB.out.cell (World.block_lt_of_cell? w _ hx132_1)).trans hx132_1
                      replace hx132_2 := (HB.out.cell (World.block_lt_of_cell? w _ hx132_2)).trans hx132_2
                      replace p132 := eq_true p132
                      replace q132 := eq_true q132
                      go_wp2_with (first | ((with_reducible refine gate_dst (N := 7) rfl ?_); refine box_event ?hg (N := 7) ?hd (cs := #[.bool false, .bool false, .int .i64 0]) (t := 31) ?hr ?_; (case hd => rfl); (case hg => rfl); (case hr => first | (go_simp; done) | (go_simp; rfl)); intro gb133 hg w18 hbox hb; have n0_ := Aside0.mk (Kd.R_below (by (with_reducible repeat (first | apply Kd.R_alloc | apply Kd.R_drewN | apply Kd.R_drew)); exact HO_5.out) hb); have n1_ := Aside0.mk (below_step (by repeat (first | (with_reducible first | exact HB.out | apply below_alloc | apply pw_below_drewN | apply below_drew1) | exact HB.out)) hb); have n2_ := Aside0.mk (hbox); have n3_ := Aside0.mk ((by rw [hg]; exact (below_size (by repeat (first | (with_reducible first | exact HB.out | apply below_alloc | apply pw_below_drewN | apply below_drew1) | exact HB.out))) : w.heap.size ≤ gb133)); have n4_ := Aside0.mk ((by rw [hg]; exact (below_size (by repeat (first | (with_reducible first | exact HB.out | apply below_alloc | apply pw_below_drewN | apply below_drew1) | exact HB.out))) : w.heap.size ≤ gb133)); clear HO_5; clear HB; have HO_5 := n0_; have HB := n1_; have BK133 := n2_; have GW133 := n3_; have GE133 := n4_; clear n0_ n1_ n2_ n3_ n4_; clear hb hbox hg; have hcz19_0 : w18.cell? ⟨gb133, 0, none⟩ = some (.bool false) := (blk_cell BK133.out 0).trans rfl; have hcz19_1 : w18.cell? ⟨gb133, 1, none⟩ = some (.bool false) := (blk_cell BK133.out 1).trans rfl; have hcz19_2 : w18.cell? ⟨gb133, 2, none⟩ = some (.int .i64 0) := (blk_cell BK133.out 2).trans rfl; have hfz19_0 := blk_frozen BK133.out 0; have hfz19_1 := blk_frozen BK133.out 1; have hfz19_2 := blk_frozen BK133.out 2) | ((with_reducible refine gate_dst (N := 25) rfl ?_); refine Kd.R_make Kd.bool _ 4 rfl (N := 25) rfl 119 _ _ rfl ji15 rfl rfl Tryd.underlying119 (.bool false) 1 info4 rfl (by decide) (by omega) false (ok := fun _ => True) (okp := fun _ => True) rfl (fun _ hk => hk) trivial (of_decide_eq_true (by first | (with_reducible assumption) | assumption)) (Nat.le_trans (Nat.mul_le_mul_right _ (of_decide_eq_true (by first | (with_reducible assumption) | assumption) : ji15.toNat ≤ 281474976710656)) (by omega)) (Below.refl _ _) (Nat.le_refl _) ?_; intro v135 w20 ho21 hb hg_ hnew_; clear hg_ hnew_; (first | rw [← Ny134.out] at ho21 | (simp only [Int.reduceToNat] at ho21; rw [← Ny134.out] at ho21)); have n0_ := Aside0.mk (Kd.R_elder' (by (with_reducible repeat (first | apply Kd.R_alloc | apply Kd.R_drewN | apply Kd.R_drew)); exact (Kd.R_mono (Kd.R_far (p := ⟨gb133, 2, none⟩) (Kd.R_far (p := ⟨gb133, 1, none⟩) (Kd.R_far (p := ⟨gb133, 0, none⟩) (Kd.R_types HO_5.out BK133.out (by decide)) (fun _ hk => hk.2) (.bool ((rd_T31 l1 x18_1).f0))) (fun _ hk => hk.2) (.bool ((rd_T31 l1 x18_1).f1))) (fun _ hk => hk.2) (.int .i64 ((rd_T31 l1 x18_1).f2))) (fun _ h_ => h_.1))) (Kd.R_base ho21) hb); have n1_ := Aside0.mk (Kd.R_lower (Kd.R_new' ho21 (Kd.R_lt (by (with_reducible repeat (first | apply Kd.R_alloc | apply Kd.R_drewN | apply Kd.R_drew)); exact (Kd.R_mono (Kd.R_far (p := ⟨gb133, 2, none⟩) (Kd.R_far (p := ⟨gb133, 1, none⟩) (Kd.R_far (p := ⟨gb133, 0, none⟩) (Kd.R_types HO_5.out BK133.out (by decide)) (fun _ hk => hk.2) (.bool ((rd_T31 l1 x18_1).f0))) (fun _ hk => hk.2) (.bool ((rd_T31 l1 x18_1).f1))) (fun _ hk => hk.2) (.int .i64 ((rd_T31 l1 x18_1).f2))) (fun _ h_ => h_.1))))) (below_size (by repeat (first | (with_reducible first | exact HB.out | apply below_alloc | apply pw_below_drewN | apply below_drew1 | refine below_set ?_ GE133.out) | exact HB.out)))); have n2_ := Aside0.mk (blk_below (g := gb133) (o := .cells #[.bool ((rd_T31 l1 x18_1).f0), .bool ((rd_T31 l1 x18_1).f1), .int .i64 ((rd_T31 l1 x18_1).f2)] 31 (0, 0)) (by (with_reducible repeat (first | refine blk_drewN ?_ _ | refine blk_drew ?_ | refine blk_alloc ?_ _)); refine blk_put (cs := #[.bool ((rd_T31 l1 x18_1).f0), .bool ((rd_T31 l1 x18_1).f1), .int .i64 0]) ?_ 2 _ rfl; (with_reducible repeat (first | refine blk_drewN ?_ _ | refine blk_drew ?_ | refine blk_alloc ?_ _)); refine blk_put (cs := #[.bool ((rd_T31 l1 x18_1).f0), .bool false, .int .i64 0]) ?_ 1 _ rfl; (with_reducible repeat (first | refine blk_drewN ?_ _ | refine blk_drew ?_ | refine blk_alloc ?_ _)); refine blk_put (cs := #[.bool false, .bool false, .int .i64 0]) ?_ 0 _ rfl; (with_reducible repeat (first | refine blk_drewN ?_ _ | refine blk_drew ?_ | refine blk_alloc ?_ _)); exact BK133.out) hb); have n3_ := Aside0.mk (below_step (by repeat (first | (with_reducible first | exact HB.out | apply below_alloc | apply pw_below_drewN | apply below_drew1 | refine below_set ?_ GE133.out) | exact HB.out)) hb); clear HO_5; clear BK133; clear HB; have HO_5 := n0_; have HO136 := n1_; have BK133 := n2_; have HB := n3_; clear n0_ n1_ n2_ n3_; clear hb ho21))
                      (try simp only [Act.put, List.setIfInBounds_toArray, List.set_cons_succ, List.set_cons_zero])
                      go_loopg [9] k1 (fun kq v9 w' => ∃ (x8_2 : List Bool) (x9_2 : Int), v9 = .int .i64 x9_2 ∧ Aside0 (spec_Fits.l1 kq l0 x5_1 x8_2 x9_2 l1 (l1.length : Int) x18_1 ((rd_T31 l1 x18_1).f0) ((rd_T31 l1 x18_1).f1) ((rd_T31 l1 x18_1).f2) = some r) ∧ Aside0 (kq ≤ k1) ∧ Aside0 (Kd.R Kd.bool 4 w' w.heap.size (fun k_ => some k_ ≠ (v135 : Value).ownBlock) u5 x5_1) ∧ Aside0 (Kd.R Kd.bool 4 w' w.heap.size (fun k_ => some k_ ≠ (u5 : Value).ownBlock) v135 x8_2) ∧ Aside0 (w'.heap[gb133]? = some (.cells #[.bool ((rd_T31 l1 x18_1).f0), .bool ((rd_T31 l1 x18_1).f1), .int .i64 ((rd_T31 l1 x18_1).f2)] 31 (0, 0))) ∧ Aside0 (Below w.heap.size w w'))
                      case atStart => exact ⟨(y134), (0), (by first | rfl | (simp; done) | (simp [*]; done)), H', ⟨Nat.le_refl _⟩, ⟨by (with_reducible repeat (first | apply Kd.R_alloc | apply Kd.R_drewN | apply Kd.R_drew)); exact Kd.R_mono HO_5.out (fun _ hk => hk.2)⟩, ⟨by (with_reducible repeat (first | apply Kd.R_alloc | apply Kd.R_drewN | apply Kd.R_drew)); exact Kd.R_mono HO136.out (fun _ hk => hk.2)⟩, ⟨by (with_reducible repeat (first | refine blk_drewN ?_ _ | refine blk_drew ?_ | refine blk_alloc ?_ _)); exact BK133.out⟩, ⟨by repeat (first | (with_reducible first | exact HB.out | apply below_alloc | apply pw_below_drewN | apply below_drew1 | refine below_set ?_ GE133.out) | exact HB.out)⟩⟩
                      case round =>
                        clear H'
                        try clear c1
                        try clear p1
                        try clear q1
                        try clear hx1
                        try clear p2
                        try clear c4
                        try clear c4b0
                        try clear c4b1
                        try clear c5
                        try clear c5b0
                        try clear c5b1
                        try clear c6
                        try clear c6b0
                        try clear c6b1
                        try clear p6
                        try clear p7
                        try clear q7
                        try clear hx7
                        try clear qi7
                        try clear hf7
                        try clear c12
                        try clear c12b0
                        try clear c13
                        try clear c13b0
                        try clear p13
                        try clear q13
                        try clear hx13
                        try clear c14
                        try clear c14b0
                        try clear c16
                        try clear c16b0
                        try clear c16b1
                        try clear c17
                        try clear c17b0
                        try clear c17b1
                        try clear hcz19_0
                        try clear hcz19_1
                        try clear hcz19_2
                        try clear hfz19_0
                        try clear hfz19_1
                        try clear hfz19_2
                        try clear hx132_0
                        try clear hx132_1
                        try clear hx132_2
                        try clear hx7_0
                        try clear p132
                        try clear p2
                        try clear p6
                        try clear p7
                        try clear q132
                        try clear q7
                        obtain ⟨x8_2, x9_2, rfl, HA, HK2, HO_5, HO_8, BK133, HB⟩ := hrel
                        cases gk with
                        | zero => exact absurd HA.out (by simp [spec_Fits.l1])
                        | succ k2 =>
                          have H := HA.out
                          clear HA
                          simp only [spec_Fits.l1] at H
                          by_cases c22 : x9_2 ≤ (l0.length : Int)
                          · rw [if_pos c22] at H
                            have c22b0 : decide (x9_2 ≤ (l0.length : Int)) = true := decide_eq_true c22
                            clear c22
                            by_cases c23 : ((rd_T31 l1 x18_1).f0) = true
                            · rw [if_pos c23] at H
                              have c23b0 : ((rd_T31 l1 x18_1).f0) = true := c23
                              clear c23
                              by_cases c24 : 0 ≤ x9_2
                              · rw [if_pos c24] at H
                                have c24b0 : decide (0 ≤ x9_2) = true := decide_eq_true c24
                                clear c24
                                by_cases c25 : x9_2 < (x5_1.length : Int)
                                · rw [if_pos c25] at H
                                  have c25b0 : decide (x9_2 < (x5_1.length : Int)) = true := decide_eq_true c25
                                  clear c25
                                  obtain ⟨bq26, hbq26⟩ : ∃ b_ : Bool, b_ = (rdOf false x5_1 x9_2) := ⟨_, rfl⟩
                                  replace H : (if bq26 = true then (if x9_2 < (x8_2.length : Int) then (spec_Fits.l1 k2 l0 x5_1 (x8_2.set (x9_2 : Int).toNat true) (wrap64 (x9_2 + 1)) l1 (l1.length : Int) x18_1 ((rd_T31 l1 x18_1).f0) ((rd_T31 l1 x18_1).f1) ((rd_T31 l1 x18_1).f2)) else (none)) else (if x9_2 > 0 then (if 0 ≤ (wrap64 (x9_2 - 1)) then (if (wrap64 (x9_2 - 1)) < (x8_2.length : Int) then (if x9_2 < (x8_2.length : Int) then (spec_Fits.l1 k2 l0 x5_1 (x8_2.set (x9_2 : Int).toNat (rdOf false x8_2 (wrap64 (x9_2 - 1)))) (wrap64 (x9_2 + 1)) l1 (l1.length : Int) x18_1 ((rd_T31 l1 x18_1).f0) ((rd_T31 l1 x18_1).f1) ((rd_T31 l1 x18_1).f2)) else (none)) else (none)) else (none)) else (if x9_2 < (x8_2.length : Int) then (spec_Fits.l1 k2 l0 x5_1 (x8_2.set (x9_2 : Int).toNat false) (wrap64 (x9_2 + 1)) l1 (l1.length : Int) x18_1 ((rd_T31 l1 x18_1).f0) ((rd_T31 l1 x18_1).f1) ((rd_T31 l1 x18_1).f2)) else (none)))) = some r := by rw [← hbq26] at H; exact H
                                  have Nbq26 := Aside0.mk hbq26
                                  clear hbq26
                                  by_cases c27 : bq26 = true
                                  · subst c27
                                    have H1 : (if x9_2 < (x8_2.length : Int) then (spec_Fits.l1 k2 l0 x5_1 (x8_2.set (x9_2 : Int).toNat true) (wrap64 (x9_2 + 1)) l1 (l1.length : Int) x18_1 ((rd_T31 l1 x18_1).f0) ((rd_T31 l1 x18_1).f1) ((rd_T31 l1 x18_1).f2)) else (none)) = some r := by rw [if_pos rfl] at H; exact H
                                    clear H
                                    have H := H1
                                    clear H1
                                    by_cases c28 : x9_2 < (x8_2.length : Int)
                                    · rw [if_pos c28] at H
                                      have c28b0 : decide (x9_2 < (x8_2.length : Int)) = true := decide_eq_true c28
                                      clear c28
                                      obtain ⟨y138, hy138⟩ : ∃ y_ : List Bool, y_ = (x8_2.set (x9_2 : Int).toNat true) := ⟨_, rfl⟩
                                      replace H : (spec_Fits.l1 k2 l0 x5_1 y138 (wrap64 (x9_2 + 1)) l1 (l1.length : Int) x18_1 ((rd_T31 l1 x18_1).f0) ((rd_T31 l1 x18_1).f1) ((rd_T31 l1 x18_1).f2)) = some r := by first | (rw [hy138]; with_reducible exact H) | (have H2_ := (Option.bind_some _ _).symm.trans H; rw [hy138]; with_reducible exact H2_) | (have H2_ := (Option.bind_some _ _).symm.trans H; with_reducible exact H2_) | with_reducible exact H | (rw [hy138]; exact H) | exact H
                                      have Ny138 := Aside0.mk hy138
                                      clear hy138
                                      have H' := Aside0.mk H
                                      clear H
                                      have hcz30_0 : wr.cell? ⟨gb133, 0, none⟩ = some (.bool ((rd_T31 l1 x18_1).f0)) := (blk_cell BK133.out 0).trans rfl
                                      have hcz30_1 : wr.cell? ⟨gb133, 1, none⟩ = some (.bool ((rd_T31 l1 x18_1).f1)) := (blk_cell BK133.out 1).trans rfl
                                      have hcz30_2 : wr.cell? ⟨gb133, 2, none⟩ = some (.int .i64 ((rd_T31 l1 x18_1).f2)) := (blk_cell BK133.out 2).trans rfl
                                      have hfz30_0 := blk_frozen BK133.out 0
                                      have hfz30_1 := blk_frozen BK133.out 1
                                      have hfz30_2 := blk_frozen BK133.out 2
                                      obtain ⟨Ao31, co31, eo31⟩ := Kd.R_slice HO_5.out
                                      subst eo31
                                      have p137 : 0 ≤ (x9_2 : Int) := of_decide_eq_true (by first | (with_reducible assumption) | assumption)
                                      have q137 : x9_2 < (x5_1.length : Int) := of_decide_eq_true (by first | (with_reducible assumption) | assumption)
                                      obtain ⟨ad137, e137, hx137_0⟩ := Kd.at_bool (Kd.R_reads' HO_5.out).2.2 x9_2 p137 q137
                                      (try rw [← Nbq26.out] at hx137_0)
                                      cases e137
                                      replace p137 := eq_true p137
                                      replace q137 := eq_true q137
                                      have p29 : 0 ≤ (x9_2 : Int) := of_decide_eq_true (by first | (with_reducible assumption) | assumption)
                                      have q29 : (x9_2 : Int) < ((x8_2.length : Int) : Int) := of_decide_eq_true (by first | (with_reducible assumption) | assumption)
                                      obtain ⟨go29, co29, eo29, gb29, gl29, cl29, HG29⟩ := Kd.R_form HO_8.out (by omega)
                                      (first | cases eo29 | (injection eo29 with ea_ en_ ec_; (first | subst ea_ | (injection ea_ with ea_; subst ea_)); subst ec_; clear en_))
                                      have GB29 := Aside0.mk gb29
                                      have GG29 := Aside0.mk HG29
                                      clear gb29 gl29 HG29
                                      obtain ⟨hx29_0, hf29_0⟩ := Kd.R_celln false HO_8.out (x9_2 : Int) p29 q29
                                      replace p29 := eq_true p29
                                      replace q29 := eq_true q29
                                      have HP32 := Kd.R_putg HO_8.out (x9_2 : Int) true
                                      go_wp2_with (first | ((with_reducible refine gate_store (t := 4) (p := 52) rfl ?_); refine store_event (t := 4) (p := 52) (v := ?vo_w33) (w1 := (wr.setCell ⟨go29, (x9_2 : Int).toNat, none⟩ (.bool true))) ?hg ?ho ?hn ?hr ?_; (case ho => rfl); (case hg => rfl); (case hn => rfl); (case hr => first | (go_simp; done) | (go_simp; rfl)); intro w33 hw; have hg : wr.grownBy w33 (some go29) := (by rw [hw]; exact HP32.2); have hp_ : Kd.R Kd.bool 4 w33 w.heap.size (fun k_ => some k_ ≠ (.slice (some ad137) x5_1.length co31 : Value).ownBlock) (.slice (some ⟨go29, 0, none⟩) x8_2.length co29) y138 := (by rw [hw, Ny138.out]; exact HP32.1); clear HP32; have n0_ := Aside0.mk (Kd.R_after (v := (.slice (some ⟨go29, 0, none⟩) x8_2.length co29)) (v1 := (.slice (some ⟨go29, 0, none⟩) x8_2.length co29)) (ok := (fun _ => True)) (by (with_reducible repeat (first | apply Kd.R_alloc | apply Kd.R_drewN | apply Kd.R_drew)); exact Kd.R_mono HO_5.out (fun _ hk => ⟨trivial, hk⟩)) hg (.inl rfl)); have n1_ := Aside0.mk (hp_); have n2_ := Aside0.mk (blk_grown (g := gb133) (o := .cells #[.bool ((rd_T31 l1 x18_1).f0), .bool ((rd_T31 l1 x18_1).f1), .int .i64 ((rd_T31 l1 x18_1).f2)] 31 (0, 0)) (by (with_reducible repeat (first | refine blk_drewN ?_ _ | refine blk_drew ?_ | refine blk_alloc ?_ _)); exact BK133.out) hg (Kd.R_ne HO_8.out BK133.out (by decide))); have n3_ := Aside0.mk ((by rw [hw]; exact below_set (HB.out) GB29.out : Below w.heap.size w w33)); clear HO_5; clear HO_8; clear BK133; clear HB; have HO_5 := n0_; have HO_8 := n1_; have BK133 := n2_; have HB := n3_; clear n0_ n1_ n2_ n3_; clear hg hw hp_))
                                      go_roundg k2
                                      case measure => have := HK1.out; have := HK2.out; omega
                                      case rel => exact ⟨(y138), (wrap64 (x9_2 + 1)), (by first | rfl | (simp; done) | (simp [*]; done)), H', ⟨by have := HK1.out; have := HK2.out; omega⟩, ⟨by (with_reducible repeat (first | apply Kd.R_alloc | apply Kd.R_drewN | apply Kd.R_drew)); exact Kd.R_mono HO_5.out (fun _ hk => hk.2)⟩, ⟨by (with_reducible repeat (first | apply Kd.R_alloc | apply Kd.R_drewN | apply Kd.R_drew)); exact HO_8.out⟩, ⟨by (with_reducible repeat (first | refine blk_drewN ?_ _ | refine blk_drew ?_ | refine blk_alloc ?_ _)); exact BK133.out⟩, ⟨by repeat (first | (with_reducible first | exact HB.out | apply below_alloc | apply pw_below_drewN | apply below_drew1 | refine below_set ?_ GE133.out) | exact HB.out)⟩⟩
                                    · rw [if_neg c28] at H
                                      exact absurd H (by simp)
                                  · replace c27 := Bool.eq_false_iff.mpr c27
                                    subst c27
                                    have H1 : (if x9_2 > 0 then (if 0 ≤ (wrap64 (x9_2 - 1)) then (if (wrap64 (x9_2 - 1)) < (x8_2.length : Int) then (if x9_2 < (x8_2.length : Int) then (spec_Fits.l1 k2 l0 x5_1 (x8_2.set (x9_2 : Int).toNat (rdOf false x8_2 (wrap64 (x9_2 - 1)))) (wrap64 (x9_2 + 1)) l1 (l1.length : Int) x18_1 ((rd_T31 l1 x18_1).f0) ((rd_T31 l1 x18_1).f1) ((rd_T31 l1 x18_1).f2)) else (none)) else (none)) else (none)) else (if x9_2 < (x8_2.length : Int) then (spec_Fits.l1 k2 l0 x5_1 (x8_2.set (x9_2 : Int).toNat false) (wrap64 (x9_2 + 1)) l1 (l1.length : Int) x18_1 ((rd_T31 l1 x18_1).f0) ((rd_T31 l1 x18_1).f1) ((rd_T31 l1 x18_1).f2)) else (none))) = some r := by rw [if_neg (show ¬ (false = true) by decide)] at H; exact H
                                    clear H
                                    have H := H1
                                    clear H1
                                    by_cases c34 : x9_2 > 0
                                    · rw [if_pos c34] at H
                                      have c34b0 : decide (0 < x9_2) = true := decide_eq_true c34
                                      clear c34
                                      obtain ⟨ji35, hji35⟩ : ∃ j_ : Int, (wrap64 (x9_2 - 1)) = j_ := ⟨_, rfl⟩
                                      replace H : (if 0 ≤ (ji35) then (if (ji35) < (x8_2.length : Int) then (if x9_2 < (x8_2.length : Int) then (spec_Fits.l1 k2 l0 x5_1 (x8_2.set (x9_2 : Int).toNat (rdOf false x8_2 (ji35))) (wrap64 (x9_2 + 1)) l1 (l1.length : Int) x18_1 ((rd_T31 l1 x18_1).f0) ((rd_T31 l1 x18_1).f1) ((rd_T31 l1 x18_1).f2)) else (none)) else (none)) else (none)) = some r := by first | (rw [hji35] at H; exact H) | (simp only [hji35] at H ⊢; exact H)
                                      have hji35w : (IntKind.i64.wrap (x9_2 - 1)) = ji35 := (i64_w _).trans hji35
                                      by_cases c36 : 0 ≤ (ji35)
                                      · rw [if_pos c36] at H
                                        have c36b0 : decide (0 ≤ (ji35)) = true := decide_eq_true c36
                                        clear c36
                                        by_cases c37 : (ji35) < (x8_2.length : Int)
                                        · rw [if_pos c37] at H
                                          have c37b0 : decide ((ji35) < (x8_2.length : Int)) = true := decide_eq_true c37
                                          clear c37
                                          by_cases c38 : x9_2 < (x8_2.length : Int)
                                          · rw [if_pos c38] at H
                                            have c38b0 : decide (x9_2 < (x8_2.length : Int)) = true := decide_eq_true c38
                                            clear c38
                                            obtain ⟨y140, hy140⟩ : ∃ y_ : List Bool, y_ = (x8_2.set (x9_2 : Int).toNat (rdOf false x8_2 (ji35))) := ⟨_, rfl⟩
                                            replace H : (spec_Fits.l1 k2 l0 x5_1 y140 (wrap64 (x9_2 + 1)) l1 (l1.length : Int) x18_1 ((rd_T31 l1 x18_1).f0) ((rd_T31 l1 x18_1).f1) ((rd_T31 l1 x18_1).f2)) = some r := by first | (rw [hy140]; with_reducible exact H) | (have H2_ := (Option.bind_some _ _).symm.trans H; rw [hy140]; with_reducible exact H2_) | (have H2_ := (Option.bind_some _ _).symm.trans H; with_reducible exact H2_) | with_reducible exact H | (rw [hy140]; exact H) | exact H
                                            have Ny140 := Aside0.mk hy140
                                            clear hy140
                                            have H' := Aside0.mk H
                                            clear H
                                            have hcz40_0 : wr.cell? ⟨gb133, 0, none⟩ = some (.bool ((rd_T31 l1 x18_1).f0)) := (blk_cell BK133.out 0).trans rfl
                                            have hcz40_1 : wr.cell? ⟨gb133, 1, none⟩ = some (.bool ((rd_T31 l1 x18_1).f1)) := (blk_cell BK133.out 1).trans rfl
                                            have hcz40_2 : wr.cell? ⟨gb133, 2, none⟩ = some (.int .i64 ((rd_T31 l1 x18_1).f2)) := (blk_cell BK133.out 2).trans rfl
                                            have hfz40_0 := blk_frozen BK133.out 0
                                            have hfz40_1 := blk_frozen BK133.out 1
                                            have hfz40_2 := blk_frozen BK133.out 2
                                            obtain ⟨Ao41, co41, eo41⟩ := Kd.R_slice HO_5.out
                                            subst eo41
                                            have p137 : 0 ≤ (x9_2 : Int) := of_decide_eq_true (by first | (with_reducible assumption) | assumption)
                                            have q137 : x9_2 < (x5_1.length : Int) := of_decide_eq_true (by first | (with_reducible assumption) | assumption)
                                            obtain ⟨ad137, e137, hx137_0⟩ := Kd.at_bool (Kd.R_reads' HO_5.out).2.2 x9_2 p137 q137
                                            (try rw [← Nbq26.out] at hx137_0)
                                            cases e137
                                            replace p137 := eq_true p137
                                            replace q137 := eq_true q137
                                            obtain ⟨Ao42, co42, eo42⟩ := Kd.R_slice HO_8.out
                                            subst eo42
                                            have p139 : 0 ≤ ((ji35) : Int) := of_decide_eq_true (by first | (with_reducible assumption) | assumption)
                                            have q139 : (ji35) < (x8_2.length : Int) := of_decide_eq_true (by first | (with_reducible assumption) | assumption)
                                            obtain ⟨ad139, e139, hx139_0⟩ := Kd.at_bool (Kd.R_reads' HO_8.out).2.2 (ji35) p139 q139
                                            (try rw [← Nbq26.out] at hx139_0)
                                            cases e139
                                            replace p139 := eq_true p139
                                            replace q139 := eq_true q139
                                            have p39 : 0 ≤ (x9_2 : Int) := of_decide_eq_true (by first | (with_reducible assumption) | assumption)
                                            have q39 : (x9_2 : Int) < ((x8_2.length : Int) : Int) := of_decide_eq_true (by first | (with_reducible assumption) | assumption)
                                            obtain ⟨go39, co39, eo39, gb39, gl39, cl39, HG39⟩ := Kd.R_form HO_8.out (by omega)
                                            (first | cases eo39 | (injection eo39 with ea_ en_ ec_; (first | subst ea_ | (injection ea_ with ea_; subst ea_)); subst ec_; clear en_))
                                            have GB39 := Aside0.mk gb39
                                            have GG39 := Aside0.mk HG39
                                            clear gb39 gl39 HG39
                                            (first | simp only [add_plain] at hx139_0 | skip)
                                            obtain ⟨hx39_0, hf39_0⟩ := Kd.R_celln false HO_8.out (x9_2 : Int) p39 q39
                                            replace p39 := eq_true p39
                                            replace q39 := eq_true q39
                                            have HP43 := Kd.R_putg HO_8.out (x9_2 : Int) (rdOf false x8_2 (ji35))
                                            go_wp2_with (first | ((with_reducible refine gate_store (t := 4) (p := 52) rfl ?_); refine store_event (t := 4) (p := 52) (v := ?vo_w44) (w1 := (wr.setCell ⟨go39, (x9_2 : Int).toNat, none⟩ (.bool (rdOf false x8_2 (ji35))))) ?hg ?ho ?hn ?hr ?_; (case ho => rfl); (case hg => rfl); (case hn => rfl); (case hr => first | (go_simp; done) | (go_simp; rfl)); intro w44 hw; have hg : wr.grownBy w44 (some go39) := (by rw [hw]; exact HP43.2); have hp_ : Kd.R Kd.bool 4 w44 w.heap.size (fun k_ => some k_ ≠ (.slice (some ad137) x5_1.length co41 : Value).ownBlock) (.slice (some ⟨go39, 0, none⟩) x8_2.length co42) y140 := (by rw [hw, Ny140.out]; exact HP43.1); clear HP43; have n0_ := Aside0.mk (Kd.R_after (v := (.slice (some ⟨go39, 0, none⟩) x8_2.length co42)) (v1 := (.slice (some ⟨go39, 0, none⟩) x8_2.length co42)) (ok := (fun _ => True)) (by (with_reducible repeat (first | apply Kd.R_alloc | apply Kd.R_drewN | apply Kd.R_drew)); exact Kd.R_mono HO_5.out (fun _ hk => ⟨trivial, hk⟩)) hg (.inl rfl)); have n1_ := Aside0.mk (hp_); have n2_ := Aside0.mk (blk_grown (g := gb133) (o := .cells #[.bool ((rd_T31 l1 x18_1).f0), .bool ((rd_T31 l1 x18_1).f1), .int .i64 ((rd_T31 l1 x18_1).f2)] 31 (0, 0)) (by (with_reducible repeat (first | refine blk_drewN ?_ _ | refine blk_drew ?_ | refine blk_alloc ?_ _)); exact BK133.out) hg (Kd.R_ne HO_8.out BK133.out (by decide))); have n3_ := Aside0.mk ((by rw [hw]; exact below_set (HB.out) GB39.out : Below w.heap.size w w44)); clear HO_5; clear HO_8; clear BK133; clear HB; have HO_5 := n0_; have HO_8 := n1_; have BK133 := n2_; have HB := n3_; clear n0_ n1_ n2_ n3_; clear hg hw hp_))
                                            go_roundg k2
                                            case measure => have := HK1.out; have := HK2.out; omega
                                            case rel => exact ⟨(y140), (wrap64 (x9_2 + 1)), (by first | rfl | (simp; done) | (simp [*]; done)), H', ⟨by have := HK1.out; have := HK2.out; omega⟩, ⟨by (with_reducible repeat (first | apply Kd.R_alloc | apply Kd.R_drewN | apply Kd.R_drew)); exact Kd.R_mono HO_5.out (fun _ hk => hk.2)⟩, ⟨by (with_reducible repeat (first | apply Kd.R_alloc | apply Kd.R_drewN | apply Kd.R_drew)); exact HO_8.out⟩, ⟨by (with_reducible repeat (first | refine blk_drewN ?_ _ | refine blk_drew ?_ | refine blk_alloc ?_ _)); exact BK133.out⟩, ⟨by repeat (first | (with_reducible first | exact HB.out | apply below_alloc | apply pw_below_drewN | apply below_drew1 | refine below_set ?_ GE133.out) | exact HB.out)⟩⟩
                                          · rw [if_neg c38] at H
                                            exact absurd H (by simp)
                                        · rw [if_neg c37] at H
                                          exact absurd H (by simp)
                                      · rw [if_neg c36] at H
                                        exact absurd H (by simp)
                                    · rw [if_neg c34] at H
                                      have c34b0 : decide (0 < x9_2) = false := decide_eq_false c34
                                      clear c34
                                      by_cases c45 : x9_2 < (x8_2.length : Int)
                                      · rw [if_pos c45] at H
                                        have c45b0 : decide (x9_2 < (x8_2.length : Int)) = true := decide_eq_true c45
                                        clear c45
                                        obtain ⟨y141, hy141⟩ : ∃ y_ : List Bool, y_ = (x8_2.set (x9_2 : Int).toNat false) := ⟨_, rfl⟩
                                        replace H : (spec_Fits.l1 k2 l0 x5_1 y141 (wrap64 (x9_2 + 1)) l1 (l1.length : Int) x18_1 ((rd_T31 l1 x18_1).f0) ((rd_T31 l1 x18_1).f1) ((rd_T31 l1 x18_1).f2)) = some r := by first | (rw [hy141]; with_reducible exact H) | (have H2_ := (Option.bind_some _ _).symm.trans H; rw [hy141]; with_reducible exact H2_) | (have H2_ := (Option.bind_some _ _).symm.trans H; with_reducible exact H2_) | with_reducible exact H | (rw [hy141]; exact H) | exact H
                                        have Ny141 := Aside0.mk hy141
                                        clear hy141
                                        have H' := Aside0.mk H
                                        clear H
                                        have hcz47_0 : wr.cell? ⟨gb133, 0, none⟩ = some (.bool ((rd_T31 l1 x18_1).f0)) := (blk_cell BK133.out 0).trans rfl
                                        have hcz47_1 : wr.cell? ⟨gb133, 1, none⟩ = some (.bool ((rd_T31 l1 x18_1).f1)) := (blk_cell BK133.out 1).trans rfl
                                        have hcz47_2 : wr.cell? ⟨gb133, 2, none⟩ = some (.int .i64 ((rd_T31 l1 x18_1).f2)) := (blk_cell BK133.out 2).trans rfl
                                        have hfz47_0 := blk_frozen BK133.out 0
                                        have hfz47_1 := blk_frozen BK133.out 1
                                        have hfz47_2 := blk_frozen BK133.out 2
                                        obtain ⟨Ao48, co48, eo48⟩ := Kd.R_slice HO_5.out
                                        subst eo48
                                        have p137 : 0 ≤ (x9_2 : Int) := of_decide_eq_true (by first | (with_reducible assumption) | assumption)
                                        have q137 : x9_2 < (x5_1.length : Int) := of_decide_eq_true (by first | (with_reducible assumption) | assumption)
                                        obtain ⟨ad137, e137, hx137_0⟩ := Kd.at_bool (Kd.R_reads' HO_5.out).2.2 x9_2 p137 q137
                                        (try rw [← Nbq26.out] at hx137_0)
                                        cases e137
                                        replace p137 := eq_true p137
                                        replace q137 := eq_true q137
                                        have p46 : 0 ≤ (x9_2 : Int) := of_decide_eq_true (by first | (with_reducible assumption) | assumption)
                                        have q46 : (x9_2 : Int) < ((x8_2.length : Int) : Int) := of_decide_eq_true (by first | (with_reducible assumption) | assumption)
                                        obtain ⟨go46, co46, eo46, gb46, gl46, cl46, HG46⟩ := Kd.R_form HO_8.out (by omega)
                                        (first | cases eo46 | (injection eo46 with ea_ en_ ec_; (first | subst ea_ | (injection ea_ with ea_; subst ea_)); subst ec_; clear en_))
                                        have GB46 := Aside0.mk gb46
                                        have GG46 := Aside0.mk HG46
                                        clear gb46 gl46 HG46
                                        obtain ⟨hx46_0, hf46_0⟩ := Kd.R_celln false HO_8.out (x9_2 : Int) p46 q46
                                        replace p46 := eq_true p46
                                        replace q46 := eq_true q46
                                        have HP49 := Kd.R_putg HO_8.out (x9_2 : Int) false
                                        go_wp2_with (first | ((with_reducible refine gate_store (t := 4) (p := 52) rfl ?_); refine store_event (t := 4) (p := 52) (v := ?vo_w50) (w1 := (wr.setCell ⟨go46, (x9_2 : Int).toNat, none⟩ (.bool false))) ?hg ?ho ?hn ?hr ?_; (case ho => rfl); (case hg => rfl); (case hn => rfl); (case hr => first | (go_simp; done) | (go_simp; rfl)); intro w50 hw; have hg : wr.grownBy w50 (some go46) := (by rw [hw]; exact HP49.2); have hp_ : Kd.R Kd.bool 4 w50 w.heap.size (fun k_ => some k_ ≠ (.slice (some ad137) x5_1.length co48 : Value).ownBlock) (.slice (some ⟨go46, 0, none⟩) x8_2.length co46) y141 := (by rw [hw, Ny141.out]; exact HP49.1); clear HP49; have n0_ := Aside0.mk (Kd.R_after (v := (.slice (some ⟨go46, 0, none⟩) x8_2.length co46)) (v1 := (.slice (some ⟨go46, 0, none⟩) x8_2.length co46)) (ok := (fun _ => True)) (by (with_reducible repeat (first | apply Kd.R_alloc | apply Kd.R_drewN | apply Kd.R_drew)); exact Kd.R_mono HO_5.out (fun _ hk => ⟨trivial, hk⟩)) hg (.inl rfl)); have n1_ := Aside0.mk (hp_); have n2_ := Aside0.mk (blk_grown (g := gb133) (o := .cells #[.bool ((rd_T31 l1 x18_1).f0), .bool ((rd_T31 l1 x18_1).f1), .int .i64 ((rd_T31 l1 x18_1).f2)] 31 (0, 0)) (by (with_reducible repeat (first | refine blk_drewN ?_ _ | refine blk_drew ?_ | refine blk_alloc ?_ _)); exact BK133.out) hg (Kd.R_ne HO_8.out BK133.out (by decide))); have n3_ := Aside0.mk ((by rw [hw]; exact below_set (HB.out) GB46.out : Below w.heap.size w w50)); clear HO_5; clear HO_8; clear BK133; clear HB; have HO_5 := n0_; have HO_8 := n1_; have BK133 := n2_; have HB := n3_; clear n0_ n1_ n2_ n3_; clear hg hw hp_))
                                        go_roundg k2
                                        case measure => have := HK1.out; have := HK2.out; omega
                                        case rel => exact ⟨(y141), (wrap64 (x9_2 + 1)), (by first | rfl | (simp; done) | (simp [*]; done)), H', ⟨by have := HK1.out; have := HK2.out; omega⟩, ⟨by (with_reducible repeat (first | apply Kd.R_alloc | apply Kd.R_drewN | apply Kd.R_drew)); exact Kd.R_mono HO_5.out (fun _ hk => hk.2)⟩, ⟨by (with_reducible repeat (first | apply Kd.R_alloc | apply Kd.R_drewN | apply Kd.R_drew)); exact HO_8.out⟩, ⟨by (with_reducible repeat (first | refine blk_drewN ?_ _ | refine blk_drew ?_ | refine blk_alloc ?_ _)); exact BK133.out⟩, ⟨by repeat (first | (with_reducible first | exact HB.out | apply below_alloc | apply pw_below_drewN | apply below_drew1 | refine below_set ?_ GE133.out) | exact HB.out)⟩⟩
                                      · rw [if_neg c45] at H
                                        exact absurd H (by simp)
                                · rw [if_neg c25] at H
                                  exact absurd H (by simp)
                              · rw [if_neg c24] at H
                                exact absurd H (by simp)
                            · rw [if_neg c23] at H
                              have c23b0 : ((rd_T31 l1 x18_1).f0) = false := by simpa using c23
                              clear c23
                              by_cases c51 : x9_2 > 0
                              · rw [if_pos c51] at H
                                have c51b0 : decide (0 < x9_2) = true := decide_eq_true c51
                                clear c51
                                obtain ⟨ji52, hji52⟩ : ∃ j_ : Int, (wrap64 (x9_2 - 1)) = j_ := ⟨_, rfl⟩
                                replace H : (if 0 ≤ (ji52) then (if (ji52) < (x5_1.length : Int) then (if rdOf false x5_1 (ji52) = true then (if ((rd_T31 l1 x18_1).f1) = true then (if 0 ≤ x9_2 then (if x9_2 < (x8_2.length : Int) then (spec_Fits.l1 k2 l0 x5_1 (x8_2.set (x9_2 : Int).toNat true) (wrap64 (x9_2 + 1)) l1 (l1.length : Int) x18_1 ((rd_T31 l1 x18_1).f0) ((rd_T31 l1 x18_1).f1) ((rd_T31 l1 x18_1).f2)) else (none)) else (none)) else (if (ji52) < (l0.length : Int) then (if 0 ≤ x9_2 then (if x9_2 < (x8_2.length : Int) then (spec_Fits.l1 k2 l0 x5_1 (x8_2.set (x9_2 : Int).toNat (((rd_T31 l1 x18_1).f2) == (rd l0 (ji52)))) (wrap64 (x9_2 + 1)) l1 (l1.length : Int) x18_1 ((rd_T31 l1 x18_1).f0) ((rd_T31 l1 x18_1).f1) ((rd_T31 l1 x18_1).f2)) else (none)) else (none)) else (none))) else (spec_Fits.l1 k2 l0 x5_1 x8_2 (wrap64 (x9_2 + 1)) l1 (l1.length : Int) x18_1 ((rd_T31 l1 x18_1).f0) ((rd_T31 l1 x18_1).f1) ((rd_T31 l1 x18_1).f2))) else (none)) else (none)) = some r := by first | (rw [hji52] at H; exact H) | (simp only [hji52] at H ⊢; exact H)
                                have hji52w : (IntKind.i64.wrap (x9_2 - 1)) = ji52 := (i64_w _).trans hji52
                                by_cases c53 : 0 ≤ (ji52)
                                · rw [if_pos c53] at H
                                  have c53b0 : decide (0 ≤ (ji52)) = true := decide_eq_true c53
                                  clear c53
                                  by_cases c54 : (ji52) < (x5_1.length : Int)
                                  · rw [if_pos c54] at H
                                    have c54b0 : decide ((ji52) < (x5_1.length : Int)) = true := decide_eq_true c54
                                    clear c54
                                    obtain ⟨bq55, hbq55⟩ : ∃ b_ : Bool, b_ = (rdOf false x5_1 (ji52)) := ⟨_, rfl⟩
                                    replace H : (if bq55 = true then (if ((rd_T31 l1 x18_1).f1) = true then (if 0 ≤ x9_2 then (if x9_2 < (x8_2.length : Int) then (spec_Fits.l1 k2 l0 x5_1 (x8_2.set (x9_2 : Int).toNat true) (wrap64 (x9_2 + 1)) l1 (l1.length : Int) x18_1 ((rd_T31 l1 x18_1).f0) ((rd_T31 l1 x18_1).f1) ((rd_T31 l1 x18_1).f2)) else (none)) else (none)) else (if (ji52) < (l0.length : Int) then (if 0 ≤ x9_2 then (if x9_2 < (x8_2.length : Int) then (spec_Fits.l1 k2 l0 x5_1 (x8_2.set (x9_2 : Int).toNat (((rd_T31 l1 x18_1).f2) == (rd l0 (ji52)))) (wrap64 (x9_2 + 1)) l1 (l1.length : Int) x18_1 ((rd_T31 l1 x18_1).f0) ((rd_T31 l1 x18_1).f1) ((rd_T31 l1 x18_1).f2)) else (none)) else (none)) else (none))) else (spec_Fits.l1 k2 l0 x5_1 x8_2 (wrap64 (x9_2 + 1)) l1 (l1.length : Int) x18_1 ((rd_T31 l1 x18_1).f0) ((rd_T31 l1 x18_1).f1) ((rd_T31 l1 x18_1).f2))) = some r := by rw [← hbq55] at H; exact H
                                    have Nbq55 := Aside0.mk hbq55
                                    clear hbq55
                                    by_cases c56 : bq55 = true
                                    · subst c56
                                      have H1 : (if ((rd_T31 l1 x18_1).f1) = true then (if 0 ≤ x9_2 then (if x9_2 < (x8_2.length : Int) then (spec_Fits.l1 k2 l0 x5_1 (x8_2.set (x9_2 : Int).toNat true) (wrap64 (x9_2 + 1)) l1 (l1.length : Int) x18_1 ((rd_T31 l1 x18_1).f0) ((rd_T31 l1 x18_1).f1) ((rd_T31 l1 x18_1).f2)) else (none)) else (none)) else (if (ji52) < (l0.length : Int) then (if 0 ≤ x9_2 then (if x9_2 < (x8_2.length : Int) then (spec_Fits.l1 k2 l0 x5_1 (x8_2.set (x9_2 : Int).toNat (((rd_T31 l1 x18_1).f2) == (rd l0 (ji52)))) (wrap64 (x9_2 + 1)) l1 (l1.length : Int) x18_1 ((rd_T31 l1 x18_1).f0) ((rd_T31 l1 x18_1).f1) ((rd_T31 l1 x18_1).f2)) else (none)) else (none)) else (none))) = some r := by rw [if_pos rfl] at H; exact H
                                      clear H
                                      have H := H1
                                      clear H1
                                      by_cases c57 : ((rd_T31 l1 x18_1).f1) = true
                                      · rw [if_pos c57] at H
                                        have c57b0 : ((rd_T31 l1 x18_1).f1) = true := c57
                                        clear c57
                                        by_cases c58 : 0 ≤ x9_2
                                        · rw [if_pos c58] at H
                                          have c58b0 : decide (0 ≤ x9_2) = true := decide_eq_true c58
                                          clear c58
                                          by_cases c59 : x9_2 < (x8_2.length : Int)
                                          · rw [if_pos c59] at H
                                            have c59b0 : decide (x9_2 < (x8_2.length : Int)) = true := decide_eq_true c59
                                            clear c59
                                            obtain ⟨y143, hy143⟩ : ∃ y_ : List Bool, y_ = (x8_2.set (x9_2 : Int).toNat true) := ⟨_, rfl⟩
                                            replace H : (spec_Fits.l1 k2 l0 x5_1 y143 (wrap64 (x9_2 + 1)) l1 (l1.length : Int) x18_1 ((rd_T31 l1 x18_1).f0) ((rd_T31 l1 x18_1).f1) ((rd_T31 l1 x18_1).f2)) = some r := by first | (rw [hy143]; with_reducible exact H) | (have H2_ := (Option.bind_some _ _).symm.trans H; rw [hy143]; with_reducible exact H2_) | (have H2_ := (Option.bind_some _ _).symm.trans H; with_reducible exact H2_) | with_reducible exact H | (rw [hy143]; exact H) | exact H
                                            have Ny143 := Aside0.mk hy143
                                            clear hy143
                                            have H' := Aside0.mk H
                                            clear H
                                            have hcz61_0 : wr.cell? ⟨gb133, 0, none⟩ = some (.bool ((rd_T31 l1 x18_1).f0)) := (blk_cell BK133.out 0).trans rfl
                                            have hcz61_1 : wr.cell? ⟨gb133, 1, none⟩ = some (.bool ((rd_T31 l1 x18_1).f1)) := (blk_cell BK133.out 1).trans rfl
                                            have hcz61_2 : wr.cell? ⟨gb133, 2, none⟩ = some (.int .i64 ((rd_T31 l1 x18_1).f2)) := (blk_cell BK133.out 2).trans rfl
                                            have hfz61_0 := blk_frozen BK133.out 0
                                            have hfz61_1 := blk_frozen BK133.out 1
                                            have hfz61_2 := blk_frozen BK133.out 2
                                            obtain ⟨Ao62, co62, eo62⟩ := Kd.R_slice HO_5.out
                                            subst eo62
                                            have p142 : 0 ≤ ((ji52) : Int) := of_decide_eq_true (by first | (with_reducible assumption) | assumption)
                                            have q142 : (ji52) < (x5_1.length : Int) := of_decide_eq_true (by first | (with_reducible assumption) | assumption)
                                            obtain ⟨ad142, e142, hx142_0⟩ := Kd.at_bool (Kd.R_reads' HO_5.out).2.2 (ji52) p142 q142
                                            (try rw [← Nbq55.out] at hx142_0)
                                            cases e142
                                            replace p142 := eq_true p142
                                            replace q142 := eq_true q142
                                            try go_wp2
                                            have n0_ := Aside0.mk (Kd.R_drew HO_5.out)
                                            have n1_ := Aside0.mk (Kd.R_drew HO_8.out)
                                            have n2_ := Aside0.mk (blk_drew BK133.out)
                                            have n3_ := Aside0.mk (below_drew1 HB.out)
                                            clear HO_5
                                            clear HO_8
                                            clear BK133
                                            clear HB
                                            have HO_5 := n0_
                                            have HO_8 := n1_
                                            have BK133 := n2_
                                            have HB := n3_
                                            clear n0_ n1_ n2_ n3_
                                            have p60 : 0 ≤ (x9_2 : Int) := of_decide_eq_true (by first | (with_reducible assumption) | assumption)
                                            have q60 : (x9_2 : Int) < ((x8_2.length : Int) : Int) := of_decide_eq_true (by first | (with_reducible assumption) | assumption)
                                            obtain ⟨go60, co60, eo60, gb60, gl60, cl60, HG60⟩ := Kd.R_form HO_8.out (by omega)
                                            (first | cases eo60 | (injection eo60 with ea_ en_ ec_; (first | subst ea_ | (injection ea_ with ea_; subst ea_)); subst ec_; clear en_))
                                            have GB60 := Aside0.mk gb60
                                            have GG60 := Aside0.mk HG60
                                            clear gb60 gl60 HG60
                                            obtain ⟨hx60_0, hf60_0⟩ := Kd.R_celln false HO_8.out (x9_2 : Int) p60 q60
                                            replace p60 := eq_true p60
                                            replace q60 := eq_true q60
                                            have HP64 := Kd.R_putn HO_8.out (x9_2 : Int) true
                                            rw [← Ny143.out] at HP64
                                            have HQ64 := Aside0.mk HP64
                                            clear HP64
                                            refine start_ (n := 16) (S := fun w' => w'.cell? ⟨gb133, 0, none⟩ = some (.bool ((rd_T31 l1 x18_1).f0)) ∧ w'.cell? ⟨gb133, 1, none⟩ = some (.bool ((rd_T31 l1 x18_1).f1)) ∧ w'.cell? ⟨gb133, 2, none⟩ = some (.int .i64 ((rd_T31 l1 x18_1).f2))) (ds := [15]) #[false, false, false, false, false, false, false, false, false, false, false, false, false, false, false, false] (by kernel_rfl) rfl rfl ⟨(blk_cell BK133.out 0).trans rfl, (blk_cell BK133.out 1).trans rfl, (blk_cell BK133.out 2).trans rfl⟩ (fun hHeld => ?_); refine with_tabW spec_Fits.tab13 spec_Fits.bits13 (fun HT_ HW_ => ?_)
                                            generalize wr.drew = w63 at HO_5 HO_8 BK133 HB GG60 HQ64 hf60_0 hx60_0 hHeld ⊢
                                            refine pure_ (i := 0) (N := some 63) (v := ?_) (a' := ?_) #[true, false, false, false, false, false, false, false, false, false, false, false, false, false, false, false] rfl rfl (any_of HT_.out (by kernel_rfl)) (fun _ _ _ h => h) (Or.inl ⟨by rfl, ?_⟩) ?_ ?_
                                            rotate_left
                                            · intro w'
                                              go_simp
                                              with_reducible rfl
                                            rotate_left
                                            · simp only [Act.put, List.setIfInBounds_toArray, List.set_cons_zero, List.set_cons_succ, i64_w, i32_w]
                                              rfl
                                            refine pure_ (i := 1) (N := some 64) (v := ?_) (a' := ?_) #[true, true, false, false, false, false, false, false, false, false, false, false, false, false, false, false] rfl rfl (any_of HT_.out (by kernel_rfl)) (fun _ _ _ h => h) (Or.inl ⟨by rfl, ?_⟩) ?_ ?_
                                            rotate_left
                                            · intro w'
                                              go_simp
                                              with_reducible rfl
                                            rotate_left
                                            · simp only [Act.put, List.setIfInBounds_toArray, List.set_cons_zero, List.set_cons_succ, i64_w, i32_w]
                                              rfl
                                            refine pure_ (i := 2) (N := some 65) (v := ?_) (a' := ?_) #[true, true, true, false, false, false, false, false, false, false, false, false, false, false, false, false] rfl rfl (any_of HT_.out (by kernel_rfl)) (fun _ _ _ h => h) (Or.inl ⟨by rfl, ?_⟩) ?_ ?_
                                            rotate_left
                                            · intro w'
                                              go_simp
                                              with_reducible rfl
                                            rotate_left
                                            · simp only [Act.put, List.setIfInBounds_toArray, List.set_cons_zero, List.set_cons_succ, i64_w, i32_w]
                                              rfl
                                            refine take_ (i := 3) (N := some 66) (v := ?_) (a' := ?_) #[true, true, true, true, false, false, false, false, false, false, false, false, false, false, false, false] rfl rfl (take_ofW HT_.out HW_.out (by kernel_rfl)) (fun _ _ _ h => h) (Or.inl ⟨by rfl, ?_⟩) hHeld ?_ ?_
                                            rotate_left
                                            · rintro w' ⟨s0, s1, s2⟩
                                              go_simp
                                              with_reducible rfl
                                            rotate_left
                                            · simp only [Act.put, List.setIfInBounds_toArray, List.set_cons_zero, List.set_cons_succ, i64_w, i32_w]
                                              rfl
                                            refine pure_ (i := 4) (N := some 67) (v := ?_) (a' := ?_) #[true, true, true, true, true, false, false, false, false, false, false, false, false, false, false, false] rfl rfl (any_of HT_.out (by kernel_rfl)) (fun _ _ _ h => h) (Or.inl ⟨by rfl, ?_⟩) ?_ ?_
                                            rotate_left
                                            · intro w'
                                              go_simp
                                              with_reducible rfl
                                            rotate_left
                                            · simp only [Act.put, List.setIfInBounds_toArray, List.set_cons_zero, List.set_cons_succ, i64_w, i32_w]
                                              rfl
                                            refine pure_ (i := 5) (N := some 68) (v := undef) (a' := ?_) #[true, true, true, true, true, true, false, false, false, false, false, false, false, false, false, false] rfl rfl (any_of HT_.out (by kernel_rfl)) (fun _ _ _ h => h) (Or.inr ⟨by rfl, rfl⟩) ?_ ?_
                                            rotate_left
                                            · simp only [Act.put, List.setIfInBounds_toArray, List.set_cons_zero, List.set_cons_succ, i64_w, i32_w]
                                              rfl
                                            refine pure_ (i := 6) (N := some 69) (v := undef) (a' := ?_) #[true, true, true, true, true, true, true, false, false, false, false, false, false, false, false, false] rfl rfl (any_of HT_.out (by kernel_rfl)) (fun _ _ _ h => h) (Or.inr ⟨by rfl, rfl⟩) ?_ ?_
                                            rotate_left
                                            · simp only [Act.put, List.setIfInBounds_toArray, List.set_cons_zero, List.set_cons_succ, i64_w, i32_w]
                                              rfl
                                            refine pure_ (i := 7) (N := some 70) (v := undef) (a' := ?_) #[true, true, true, true, true, true, true, true, false, false, false, false, false, false, false, false] rfl rfl (any_of HT_.out (by kernel_rfl)) (fun _ _ _ h => h) (Or.inr ⟨by rfl, rfl⟩) ?_ ?_
                                            rotate_left
                                            · simp only [Act.put, List.setIfInBounds_toArray, List.set_cons_zero, List.set_cons_succ, i64_w, i32_w]
                                              rfl
                                            refine pure_ (i := 8) (N := some 71) (v := undef) (a' := ?_) #[true, true, true, true, true, true, true, true, true, false, false, false, false, false, false, false] rfl rfl (any_of HT_.out (by kernel_rfl)) (fun _ _ _ h => h) (Or.inr ⟨by rfl, rfl⟩) ?_ ?_
                                            rotate_left
                                            · simp only [Act.put, List.setIfInBounds_toArray, List.set_cons_zero, List.set_cons_succ, i64_w, i32_w]
                                              rfl
                                            refine pure_ (i := 9) (N := some 72) (v := undef) (a' := ?_) #[true, true, true, true, true, true, true, true, true, true, false, false, false, false, false, false] rfl rfl (any_of HT_.out (by kernel_rfl)) (fun _ _ _ h => h) (Or.inr ⟨by rfl, rfl⟩) ?_ ?_
                                            rotate_left
                                            · simp only [Act.put, List.setIfInBounds_toArray, List.set_cons_zero, List.set_cons_succ, i64_w, i32_w]
                                              rfl
                                            refine pure_ (i := 10) (N := some 73) (v := undef) (a' := ?_) #[true, true, true, true, true, true, true, true, true, true, true, false, false, false, false, false] rfl rfl (any_of HT_.out (by kernel_rfl)) (fun _ _ _ h => h) (Or.inr ⟨by rfl, rfl⟩) ?_ ?_
                                            rotate_left
                                            · simp only [Act.put, List.setIfInBounds_toArray, List.set_cons_zero, List.set_cons_succ, i64_w, i32_w]
                                              rfl
                                            refine pure_ (i := 11) (N := some 74) (v := undef) (a' := ?_) #[true, true, true, true, true, true, true, true, true, true, true, true, false, false, false, false] rfl rfl (any_of HT_.out (by kernel_rfl)) (fun _ _ _ h => h) (Or.inr ⟨by rfl, rfl⟩) ?_ ?_
                                            rotate_left
                                            · simp only [Act.put, List.setIfInBounds_toArray, List.set_cons_zero, List.set_cons_succ, i64_w, i32_w]
                                              rfl
                                            refine pure_ (i := 12) (N := some 75) (v := undef) (a' := ?_) #[true, true, true, true, true, true, true, true, true, true, true, true, true, false, false, false] rfl rfl (any_of HT_.out (by kernel_rfl)) (fun _ _ _ h => h) (Or.inr ⟨by rfl, rfl⟩) ?_ ?_
                                            rotate_left
                                            · simp only [Act.put, List.setIfInBounds_toArray, List.set_cons_zero, List.set_cons_succ, i64_w, i32_w]
                                              rfl
                                            refine pure_ (i := 13) (N := some 76) (v := ?_) (a' := ?_) #[true, true, true, true, true, true, true, true, true, true, true, true, true, true, false, false] rfl rfl (any_of HT_.out (by kernel_rfl)) (fun _ _ _ h => h) (Or.inl ⟨by rfl, ?_⟩) ?_ ?_
                                            rotate_left
                                            · intro w'
                                              go_simp
                                              with_reducible rfl
                                            rotate_left
                                            · simp only [Act.put, List.setIfInBounds_toArray, List.set_cons_zero, List.set_cons_succ, i64_w, i32_w]
                                              rfl
                                            refine pure_ (i := 14) (N := some 77) (v := ?_) (a' := ?_) #[true, true, true, true, true, true, true, true, true, true, true, true, true, true, true, false] rfl rfl (any_of HT_.out (by kernel_rfl)) (fun _ _ _ h => h) (Or.inl ⟨by rfl, ?_⟩) ?_ ?_
                                            rotate_left
                                            · intro w'
                                              go_simp
                                              with_reducible rfl
                                            rotate_left
                                            · simp only [Act.put, List.setIfInBounds_toArray, List.set_cons_zero, List.set_cons_succ, i64_w, i32_w]
                                              rfl
                                            refine last_ (i := 15) (N := none) #[true, true, true, true, true, true, true, true, true, true, true, true, true, true, true, true] rfl rfl (one_of HT_.out (by kernel_rfl)) (by decide) (fun K hK => ?_)
                                            refine skip_ (w1 := ?_) (by rfl) rfl ?_ ?_
                                            rotate_left
                                            · go_simp
                                              rfl
                                            refine hK.out _ _ ?_
                                            clear hK K
                                            refine done_ (done_of HT_.out (by kernel_rfl)) ?_
                                            try go_wp2
                                            go_roundg k2
                                            case measure => have := HK1.out; have := HK2.out; omega
                                            case rel => exact ⟨(y143), (wrap64 (x9_2 + 1)), (by first | rfl | (simp; done) | (simp [*]; done)), H', ⟨by have := HK1.out; have := HK2.out; omega⟩, ⟨by (with_reducible repeat (first | apply Kd.R_alloc | apply Kd.R_drewN | apply Kd.R_drew)); exact Kd.R_mono (Kd.R_far (p := ⟨go60, (x9_2 : Int).toNat, none⟩) (Kd.R_mono HO_5.out (fun k_ hk => (⟨hk, fun e_ => hk (by rw [e_]; rfl)⟩ : _ ∧ k_ ≠ go60))) (fun _ hk => hk.2) (.bool true)) (fun _ hk => hk.1)⟩, ⟨by (with_reducible repeat (first | apply Kd.R_alloc | apply Kd.R_drewN | apply Kd.R_drew)); exact HQ64.out⟩, ⟨by (with_reducible repeat (first | refine blk_drewN ?_ _ | refine blk_drew ?_ | refine blk_alloc ?_ _)); refine blk_far ?_ (by have h_ := Kd.R_ne HO_8.out BK133.out (by decide); intro e_; exact h_ (by rw [e_]; rfl)) _; (with_reducible repeat (first | refine blk_drewN ?_ _ | refine blk_drew ?_ | refine blk_alloc ?_ _)); exact BK133.out⟩, ⟨by repeat (first | (with_reducible first | exact HB.out | apply below_alloc | apply pw_below_drewN | apply below_drew1 | refine below_set ?_ GB60.out | refine below_set ?_ GE133.out) | exact HB.out)⟩⟩
                                          · rw [if_neg c59] at H
                                            exact absurd H (by simp)
                                        · rw [if_neg c58] at H
                                          exact absurd H (by simp)
                                      · rw [if_neg c57] at H
                                        have c57b0 : ((rd_T31 l1 x18_1).f1) = false := by simpa using c57
                                        clear c57
                                        by_cases c65 : (ji52) < (l0.length : Int)
                                        · rw [if_pos c65] at H
                                          have c65b0 : decide ((ji52) < (l0.length : Int)) = true := decide_eq_true c65
                                          clear c65
                                          by_cases c66 : 0 ≤ x9_2
                                          · rw [if_pos c66] at H
                                            have c66b0 : decide (0 ≤ x9_2) = true := decide_eq_true c66
                                            clear c66
                                            by_cases c67 : x9_2 < (x8_2.length : Int)
                                            · rw [if_pos c67] at H
                                              have c67b0 : decide (x9_2 < (x8_2.length : Int)) = true := decide_eq_true c67
                                              clear c67
                                              obtain ⟨y145, hy145⟩ : ∃ y_ : List Bool, y_ = (x8_2.set (x9_2 : Int).toNat (((rd_T31 l1 x18_1).f2) == (rd l0 (ji52)))) := ⟨_, rfl⟩
                                              replace H : (spec_Fits.l1 k2 l0 x5_1 y145 (wrap64 (x9_2 + 1)) l1 (l1.length : Int) x18_1 ((rd_T31 l1 x18_1).f0) ((rd_T31 l1 x18_1).f1) ((rd_T31 l1 x18_1).f2)) = some r := by first | (rw [hy145]; with_reducible exact H) | (have H2_ := (Option.bind_some _ _).symm.trans H; rw [hy145]; with_reducible exact H2_) | (have H2_ := (Option.bind_some _ _).symm.trans H; with_reducible exact H2_) | with_reducible exact H | (rw [hy145]; exact H) | exact H
                                              have Ny145 := Aside0.mk hy145
                                              clear hy145
                                              have H' := Aside0.mk H
                                              clear H
                                              have hcz69_0 : wr.cell? ⟨gb133, 0, none⟩ = some (.bool ((rd_T31 l1 x18_1).f0)) := (blk_cell BK133.out 0).trans rfl
                                              have hcz69_1 : wr.cell? ⟨gb133, 1, none⟩ = some (.bool ((rd_T31 l1 x18_1).f1)) := (blk_cell BK133.out 1).trans rfl
                                              have hcz69_2 : wr.cell? ⟨gb133, 2, none⟩ = some (.int .i64 ((rd_T31 l1 x18_1).f2)) := (blk_cell BK133.out 2).trans rfl
                                              have hfz69_0 := blk_frozen BK133.out 0
                                              have hfz69_1 := blk_frozen BK133.out 1
                                              have hfz69_2 := blk_frozen BK133.out 2
                                              obtain ⟨Ao70, co70, eo70⟩ := Kd.R_slice HO_5.out
                                              subst eo70
                                              have p142 : 0 ≤ ((ji52) : Int) := of_decide_eq_true (by first | (with_reducible assumption) | assumption)
                                              have q142 : (ji52) < (x5_1.length : Int) := of_decide_eq_true (by first | (with_reducible assumption) | assumption)
                                              obtain ⟨ad142, e142, hx142_0⟩ := Kd.at_bool (Kd.R_reads' HO_5.out).2.2 (ji52) p142 q142
                                              (try rw [← Nbq55.out] at hx142_0)
                                              cases e142
                                              replace p142 := eq_true p142
                                              replace q142 := eq_true q142
                                              try go_wp2
                                              have n0_ := Aside0.mk (Kd.R_drew HO_5.out)
                                              have n1_ := Aside0.mk (Kd.R_drew HO_8.out)
                                              have n2_ := Aside0.mk (blk_drew BK133.out)
                                              have n3_ := Aside0.mk (below_drew1 HB.out)
                                              clear HO_5
                                              clear HO_8
                                              clear BK133
                                              clear HB
                                              have HO_5 := n0_
                                              have HO_8 := n1_
                                              have BK133 := n2_
                                              have HB := n3_
                                              clear n0_ n1_ n2_ n3_
                                              have p144 : 0 ≤ ((ji52) : Int) := of_decide_eq_true (by first | (with_reducible assumption) | assumption)
                                              have q144 : (ji52) < (l0.length : Int) := of_decide_eq_true (by first | (with_reducible assumption) | assumption)
                                              obtain ⟨ad144, e144, hx144_0⟩ := Kd.at_int HR0.out (ji52) p144 q144
                                              have hw144_0 := hx144_0
                                              cases e144
                                              replace hx144_0 := (HB.out.cell (World.block_lt_of_cell? w _ hx144_0)).trans hx144_0
                                              replace p144 := eq_true p144
                                              replace q144 := eq_true q144
                                              have p68 : 0 ≤ (x9_2 : Int) := of_decide_eq_true (by first | (with_reducible assumption) | assumption)
                                              have q68 : (x9_2 : Int) < ((x8_2.length : Int) : Int) := of_decide_eq_true (by first | (with_reducible assumption) | assumption)
                                              obtain ⟨go68, co68, eo68, gb68, gl68, cl68, HG68⟩ := Kd.R_form HO_8.out (by omega)
                                              (first | cases eo68 | (injection eo68 with ea_ en_ ec_; (first | subst ea_ | (injection ea_ with ea_; subst ea_)); subst ec_; clear en_))
                                              have GB68 := Aside0.mk gb68
                                              have GG68 := Aside0.mk HG68
                                              clear gb68 gl68 HG68
                                              obtain ⟨hx68_0, hf68_0⟩ := Kd.R_celln false HO_8.out (x9_2 : Int) p68 q68
                                              replace p68 := eq_true p68
                                              replace q68 := eq_true q68
                                              have HP72 := Kd.R_putn HO_8.out (x9_2 : Int) (((rd_T31 l1 x18_1).f2) == (rd l0 (ji52)))
                                              rw [← Ny145.out] at HP72
                                              have HQ72 := Aside0.mk HP72
                                              clear HP72
                                              refine start_ (n := 16) (S := fun w' => w'.cell? ⟨gb133, 0, none⟩ = some (.bool ((rd_T31 l1 x18_1).f0)) ∧ w'.cell? ⟨gb133, 1, none⟩ = some (.bool ((rd_T31 l1 x18_1).f1)) ∧ w'.cell? ⟨gb133, 2, none⟩ = some (.int .i64 ((rd_T31 l1 x18_1).f2)) ∧ w'.cell? (ad144.add ((ji52)).toNat) = some (.int .i64 (rd l0 (ji52)))) (ds := [15]) #[false, false, false, false, false, false, false, false, false, false, false, false, false, false, false, false] (by kernel_rfl) rfl rfl ⟨(blk_cell BK133.out 0).trans rfl, (blk_cell BK133.out 1).trans rfl, (blk_cell BK133.out 2).trans rfl, ((HB.out.cell (World.block_lt_of_cell? w _ hw144_0)).trans hw144_0)⟩ (fun hHeld => ?_); refine with_tabW spec_Fits.tab13 spec_Fits.bits13 (fun HT_ HW_ => ?_)
                                              generalize wr.drew = w71 at HO_5 HO_8 BK133 HB GG68 HQ72 hf68_0 hx144_0 hx68_0 hHeld ⊢
                                              refine pure_ (i := 0) (N := some 63) (v := ?_) (a' := ?_) #[true, false, false, false, false, false, false, false, false, false, false, false, false, false, false, false] rfl rfl (any_of HT_.out (by kernel_rfl)) (fun _ _ _ h => h) (Or.inl ⟨by rfl, ?_⟩) ?_ ?_
                                              rotate_left
                                              · intro w'
                                                go_simp
                                                with_reducible rfl
                                              rotate_left
                                              · simp only [Act.put, List.setIfInBounds_toArray, List.set_cons_zero, List.set_cons_succ, i64_w, i32_w]
                                                rfl
                                              refine pure_ (i := 1) (N := some 64) (v := ?_) (a' := ?_) #[true, true, false, false, false, false, false, false, false, false, false, false, false, false, false, false] rfl rfl (any_of HT_.out (by kernel_rfl)) (fun _ _ _ h => h) (Or.inl ⟨by rfl, ?_⟩) ?_ ?_
                                              rotate_left
                                              · intro w'
                                                go_simp
                                                with_reducible rfl
                                              rotate_left
                                              · simp only [Act.put, List.setIfInBounds_toArray, List.set_cons_zero, List.set_cons_succ, i64_w, i32_w]
                                                rfl
                                              refine pure_ (i := 2) (N := some 65) (v := ?_) (a' := ?_) #[true, true, true, false, false, false, false, false, false, false, false, false, false, false, false, false] rfl rfl (any_of HT_.out (by kernel_rfl)) (fun _ _ _ h => h) (Or.inl ⟨by rfl, ?_⟩) ?_ ?_
                                              rotate_left
                                              · intro w'
                                                go_simp
                                                with_reducible rfl
                                              rotate_left
                                              · simp only [Act.put, List.setIfInBounds_toArray, List.set_cons_zero, List.set_cons_succ, i64_w, i32_w]
                                                rfl
                                              refine take_ (i := 3) (N := some 66) (v := ?_) (a' := ?_) #[true, true, true, true, false, false, false, false, false, false, false, false, false, false, false, false] rfl rfl (take_ofW HT_.out HW_.out (by kernel_rfl)) (fun _ _ _ h => h) (Or.inl ⟨by rfl, ?_⟩) hHeld ?_ ?_
                                              rotate_left
                                              · rintro w' ⟨s0, s1, s2, s3⟩
                                                go_simp
                                                with_reducible rfl
                                              rotate_left
                                              · simp only [Act.put, List.setIfInBounds_toArray, List.set_cons_zero, List.set_cons_succ, i64_w, i32_w]
                                                rfl
                                              refine pure_ (i := 4) (N := some 67) (v := ?_) (a' := ?_) #[true, true, true, true, true, false, false, false, false, false, false, false, false, false, false, false] rfl rfl (any_of HT_.out (by kernel_rfl)) (fun _ _ _ h => h) (Or.inl ⟨by rfl, ?_⟩) ?_ ?_
                                              rotate_left
                                              · intro w'
                                                go_simp
                                                with_reducible rfl
                                              rotate_left
                                              · simp only [Act.put, List.setIfInBounds_toArray, List.set_cons_zero, List.set_cons_succ, i64_w, i32_w]
                                                rfl
                                              refine pure_ (i := 5) (N := some 68) (v := ?_) (a' := ?_) #[true, true, true, true, true, true, false, false, false, false, false, false, false, false, false, false] rfl rfl (any_of HT_.out (by kernel_rfl)) (fun _ _ _ h => h) (Or.inl ⟨by rfl, ?_⟩) ?_ ?_
                                              rotate_left
                                              · intro w'
                                                go_simp
                                                with_reducible rfl
                                              rotate_left
                                              · simp only [Act.put, List.setIfInBounds_toArray, List.set_cons_zero, List.set_cons_succ, i64_w, i32_w]
                                                rfl
                                              refine pure_ (i := 7) (N := some 70) (v := ?_) (a' := ?_) #[true, true, true, true, true, true, false, true, false, false, false, false, false, false, false, false] rfl rfl (any_of HT_.out (by kernel_rfl)) (fun _ _ _ h => h) (Or.inl ⟨by rfl, ?_⟩) ?_ ?_
                                              rotate_left
                                              · intro w'
                                                go_simp
                                                with_reducible rfl
                                              rotate_left
                                              · simp only [Act.put, List.setIfInBounds_toArray, List.set_cons_zero, List.set_cons_succ, i64_w, i32_w]
                                                rfl
                                              refine pure_ (i := 8) (N := some 71) (v := ?_) (a' := ?_) #[true, true, true, true, true, true, false, true, true, false, false, false, false, false, false, false] rfl rfl (any_of HT_.out (by kernel_rfl)) (fun _ _ _ h => h) (Or.inl ⟨by rfl, ?_⟩) ?_ ?_
                                              rotate_left
                                              · intro w'
                                                go_simp
                                                with_reducible rfl
                                              rotate_left
                                              · simp only [Act.put, List.setIfInBounds_toArray, List.set_cons_zero, List.set_cons_succ, i64_w, i32_w]
                                                rfl
                                              refine pure_ (i := 9) (N := some 72) (v := ?_) (a' := ?_) #[true, true, true, true, true, true, false, true, true, true, false, false, false, false, false, false] rfl rfl (any_of HT_.out (by kernel_rfl)) (fun _ _ _ h => h) (Or.inl ⟨by rfl, ?_⟩) ?_ ?_
                                              rotate_left
                                              · intro w'
                                                go_simp
                                                with_reducible rfl
                                              rotate_left
                                              · simp only [Act.put, List.setIfInBounds_toArray, List.set_cons_zero, List.set_cons_succ, i64_w, i32_w]
                                                rfl
                                              refine pure_ (i := 10) (N := some 73) (v := ?_) (a' := ?_) #[true, true, true, true, true, true, false, true, true, true, true, false, false, false, false, false] rfl rfl (any_of HT_.out (by kernel_rfl)) (fun _ _ _ h => h) (Or.inl ⟨by rfl, ?_⟩) ?_ ?_
                                              rotate_left
                                              · intro w'
                                                go_simp
                                                with_reducible rfl
                                              rotate_left
                                              · simp only [Act.put, List.setIfInBounds_toArray, List.set_cons_zero, List.set_cons_succ, i64_w, i32_w]
                                                rfl
                                              refine take_ (i := 6) (N := some 69) (v := ?_) (a' := ?_) #[true, true, true, true, true, true, true, true, true, true, true, false, false, false, false, false] rfl rfl (take_ofW HT_.out HW_.out (by kernel_rfl)) (fun _ _ _ h => h) (Or.inl ⟨by rfl, ?_⟩) hHeld ?_ ?_
                                              rotate_left
                                              · rintro w' ⟨s0, s1, s2, s3⟩
                                                go_simp
                                                with_reducible rfl
                                              rotate_left
                                              · simp only [Act.put, List.setIfInBounds_toArray, List.set_cons_zero, List.set_cons_succ, i64_w, i32_w]
                                                rfl
                                              refine take_ (i := 11) (N := some 74) (v := ?_) (a' := ?_) #[true, true, true, true, true, true, true, true, true, true, true, true, false, false, false, false] rfl rfl (take_ofW HT_.out HW_.out (by kernel_rfl)) (fun _ _ _ h => h) (Or.inl ⟨by rfl, ?_⟩) hHeld ?_ ?_
                                              rotate_left
                                              · rintro w' ⟨s0, s1, s2, s3⟩
                                                go_simp
                                                with_reducible rfl
                                              rotate_left
                                              · simp only [Act.put, List.setIfInBounds_toArray, List.set_cons_zero, List.set_cons_succ, i64_w, i32_w]
                                                rfl
                                              refine pure_ (i := 12) (N := some 75) (v := ?_) (a' := ?_) #[true, true, true, true, true, true, true, true, true, true, true, true, true, false, false, false] rfl rfl (any_of HT_.out (by kernel_rfl)) (fun _ _ _ h => h) (Or.inl ⟨by rfl, ?_⟩) ?_ ?_
                                              rotate_left
                                              · intro w'
                                                go_simp
                                                with_reducible rfl
                                              rotate_left
                                              · simp only [Act.put, List.setIfInBounds_toArray, List.set_cons_zero, List.set_cons_succ, i64_w, i32_w]
                                                rfl
                                              refine pure_ (i := 13) (N := some 76) (v := ?_) (a' := ?_) #[true, true, true, true, true, true, true, true, true, true, true, true, true, true, false, false] rfl rfl (any_of HT_.out (by kernel_rfl)) (fun _ _ _ h => h) (Or.inl ⟨by rfl, ?_⟩) ?_ ?_
                                              rotate_left
                                              · intro w'
                                                go_simp
                                                with_reducible rfl
                                              rotate_left
                                              · simp only [Act.put, List.setIfInBounds_toArray, List.set_cons_zero, List.set_cons_succ, i64_w, i32_w]
                                                rfl
                                              refine pure_ (i := 14) (N := some 77) (v := ?_) (a' := ?_) #[true, true, true, true, true, true, true, true, true, true, true, true, true, true, true, false] rfl rfl (any_of HT_.out (by kernel_rfl)) (fun _ _ _ h => h) (Or.inl ⟨by rfl, ?_⟩) ?_ ?_
                                              rotate_left
                                              · intro w'
                                                go_simp
                                                with_reducible rfl
                                              rotate_left
                                              · simp only [Act.put, List.setIfInBounds_toArray, List.set_cons_zero, List.set_cons_succ, i64_w, i32_w]
                                                rfl
                                              refine last_ (i := 15) (N := none) #[true, true, true, true, true, true, true, true, true, true, true, true, true, true, true, true] rfl rfl (one_of HT_.out (by kernel_rfl)) (by decide) (fun K hK => ?_)
                                              refine skip_ (w1 := ?_) (by rfl) rfl ?_ ?_
                                              rotate_left
                                              · go_simp
                                                rfl
                                              refine hK.out _ _ ?_
                                              clear hK K
                                              refine done_ (done_of HT_.out (by kernel_rfl)) ?_
                                              try go_wp2
                                              go_roundg k2
                                              case measure => have := HK1.out; have := HK2.out; omega
                                              case rel => exact ⟨(y145), (wrap64 (x9_2 + 1)), (by first | rfl | (simp; done) | (simp [*]; done)), H', ⟨by have := HK1.out; have := HK2.out; omega⟩, ⟨by (with_reducible repeat (first | apply Kd.R_alloc | apply Kd.R_drewN | apply Kd.R_drew)); exact Kd.R_mono (Kd.R_far (p := ⟨go68, (x9_2 : Int).toNat, none⟩) (Kd.R_mono HO_5.out (fun k_ hk => (⟨hk, fun e_ => hk (by rw [e_]; rfl)⟩ : _ ∧ k_ ≠ go68))) (fun _ hk => hk.2) (.bool (((rd_T31 l1 x18_1).f2) == (rd l0 (ji52))))) (fun _ hk => hk.1)⟩, ⟨by (with_reducible repeat (first | apply Kd.R_alloc | apply Kd.R_drewN | apply Kd.R_drew)); exact HQ72.out⟩, ⟨by (with_reducible repeat (first | refine blk_drewN ?_ _ | refine blk_drew ?_ | refine blk_alloc ?_ _)); refine blk_far ?_ (by have h_ := Kd.R_ne HO_8.out BK133.out (by decide); intro e_; exact h_ (by rw [e_]; rfl)) _; (with_reducible repeat (first | refine blk_drewN ?_ _ | refine blk_drew ?_ | refine blk_alloc ?_ _)); exact BK133.out⟩, ⟨by repeat (first | (with_reducible first | exact HB.out | apply below_alloc | apply pw_below_drewN | apply below_drew1 | refine below_set ?_ GB68.out | refine below_set ?_ GE133.out) | exact HB.out)⟩⟩
                                            · rw [if_neg c67] at H
                                              exact absurd H (by simp)
                                          · rw [if_neg c66] at H
                                            exact absurd H (by simp)
                                        · rw [if_neg c65] at H
                                          exact absurd H (by simp)
                                    · replace c56 := Bool.eq_false_iff.mpr c56
                                      subst c56
                                      have H1 : (spec_Fits.l1 k2 l0 x5_1 x8_2 (wrap64 (x9_2 + 1)) l1 (l1.length : Int) x18_1 ((rd_T31 l1 x18_1).f0) ((rd_T31 l1 x18_1).f1) ((rd_T31 l1 x18_1).f2)) = some r := by rw [if_neg (show ¬ (false = true) by decide)] at H; exact H
                                      clear H
                                      have H := H1
                                      clear H1
                                      have H' := Aside0.mk H
                                      clear H
                                      have hcz73_0 : wr.cell? ⟨gb133, 0, none⟩ = some (.bool ((rd_T31 l1 x18_1).f0)) := (blk_cell BK133.out 0).trans rfl
                                      have hcz73_1 : wr.cell? ⟨gb133, 1, none⟩ = some (.bool ((rd_T31 l1 x18_1).f1)) := (blk_cell BK133.out 1).trans rfl
                                      have hcz73_2 : wr.cell? ⟨gb133, 2, none⟩ = some (.int .i64 ((rd_T31 l1 x18_1).f2)) := (blk_cell BK133.out 2).trans rfl
                                      have hfz73_0 := blk_frozen BK133.out 0
                                      have hfz73_1 := blk_frozen BK133.out 1
                                      have hfz73_2 := blk_frozen BK133.out 2
                                      obtain ⟨Ao74, co74, eo74⟩ := Kd.R_slice HO_5.out
                                      subst eo74
                                      have p142 : 0 ≤ ((ji52) : Int) := of_decide_eq_true (by first | (with_reducible assumption) | assumption)
                                      have q142 : (ji52) < (x5_1.length : Int) := of_decide_eq_true (by first | (with_reducible assumption) | assumption)
                                      obtain ⟨ad142, e142, hx142_0⟩ := Kd.at_bool (Kd.R_reads' HO_5.out).2.2 (ji52) p142 q142
                                      (try rw [← Nbq55.out] at hx142_0)
                                      cases e142
                                      replace p142 := eq_true p142
                                      replace q142 := eq_true q142
                                      go_wp2
                                      go_roundg k2
                                      case measure => have := HK1.out; have := HK2.out; omega
                                      case rel => exact ⟨(x8_2), (wrap64 (x9_2 + 1)), (by first | rfl | (simp; done) | (simp [*]; done)), H', ⟨by have := HK1.out; have := HK2.out; omega⟩, ⟨by (with_reducible repeat (first | apply Kd.R_alloc | apply Kd.R_drewN | apply Kd.R_drew)); exact HO_5.out⟩, ⟨by (with_reducible repeat (first | apply Kd.R_alloc | apply Kd.R_drewN | apply Kd.R_drew)); exact HO_8.out⟩, ⟨by (with_reducible repeat (first | refine blk_drewN ?_ _ | refine blk_drew ?_ | refine blk_alloc ?_ _)); exact BK133.out⟩, ⟨by repeat (first | (with_reducible first | exact HB.out | apply below_alloc | apply pw_below_drewN | apply below_drew1 | refine below_set ?_ GE133.out) | exact HB.out)⟩⟩
                                  · rw [if_neg c54] at H
                                    exact absurd H (by simp)
                                · rw [if_neg c53] at H
                                  exact absurd H (by simp)
                              · rw [if_neg c51] at H
                                have c51b0 : decide (0 < x9_2) = false := decide_eq_false c51
                                clear c51
                                have H' := Aside0.mk H
                                clear H
                                have hcz75_0 : wr.cell? ⟨gb133, 0, none⟩ = some (.bool ((rd_T31 l1 x18_1).f0)) := (blk_cell BK133.out 0).trans rfl
                                have hcz75_1 : wr.cell? ⟨gb133, 1, none⟩ = some (.bool ((rd_T31 l1 x18_1).f1)) := (blk_cell BK133.out 1).trans rfl
                                have hcz75_2 : wr.cell? ⟨gb133, 2, none⟩ = some (.int .i64 ((rd_T31 l1 x18_1).f2)) := (blk_cell BK133.out 2).trans rfl
                                have hfz75_0 := blk_frozen BK133.out 0
                                have hfz75_1 := blk_frozen BK133.out 1
                                have hfz75_2 := blk_frozen BK133.out 2
                                go_wp2
                                go_roundg k2
                                case measure => have := HK1.out; have := HK2.out; omega
                                case rel => exact ⟨(x8_2), (wrap64 (x9_2 + 1)), (by first | rfl | (simp; done) | (simp [*]; done)), H', ⟨by have := HK1.out; have := HK2.out; omega⟩, ⟨by (with_reducible repeat (first | apply Kd.R_alloc | apply Kd.R_drewN | apply Kd.R_drew)); exact HO_5.out⟩, ⟨by (with_reducible repeat (first | apply Kd.R_alloc | apply Kd.R_drewN | apply Kd.R_drew)); exact HO_8.out⟩, ⟨by (with_reducible repeat (first | refine blk_drewN ?_ _ | refine blk_drew ?_ | refine blk_alloc ?_ _)); exact BK133.out⟩, ⟨by repeat (first | (with_reducible first | exact HB.out | apply below_alloc | apply pw_below_drewN | apply below_drew1 | refine below_set ?_ GE133.out) | exact HB.out)⟩⟩
                          · rw [if_neg c22] at H
                            have c22b0 : decide (x9_2 ≤ (l0.length : Int)) = false := decide_eq_false c22
                            clear c22
                            have H' := Aside0.mk H
                            clear H
                            go_wp2
                            go_roundg k2
                            case measure => have := HK1.out; have := HK2.out; omega
                            case rel => exact ⟨(x8_2), (wrap64 (x18_1 + 1)), (by first | rfl | (simp; done) | (simp [*]; done)), H', ⟨by have := HK1.out; have := HK2.out; omega⟩, ⟨by (with_reducible repeat (first | apply Kd.R_alloc | apply Kd.R_drewN | apply Kd.R_drew)); exact Kd.R_mono HO_8.out (fun _ hk => trivial)⟩, ⟨by repeat (first | (with_reducible first | exact HB.out | apply below_alloc | apply pw_below_drewN | apply below_drew1 | refine below_set ?_ GE133.out) | exact HB.out)⟩⟩
                    · rw [if_neg c17] at H
                      exact absurd H (by simp)
                  · rw [if_neg c16] at H
                    exact absurd H (by simp)
                · rw [if_neg c14] at H
                  exact absurd H (by simp)
              · rw [if_neg c13] at H
                exact absurd H (by simp)
            · rw [if_neg c12] at H
              have c12b0 : decide (x18_1 < (l1.length : Int)) = false := decide_eq_false c12
              clear c12
              by_cases c76 : 0 ≤ (l0.length : Int)
              · rw [if_pos c76] at H
                have c76b0 : decide (0 ≤ (l0.length : Int)) = true := decide_eq_true c76
                have c76b1 : decide (0 ≤ l0.length) = true := decide_eq_true (by omega)
                clear c76
                by_cases c77 : (l0.length : Int) < (x5_1.length : Int)
                · rw [if_pos c77] at H
                  have c77b0 : decide ((l0.length : Int) < (x5_1.length : Int)) = true := decide_eq_true c77
                  have c77b1 : decide (l0.length < x5_1.length) = true := decide_eq_true (Int.ofNat_lt.mp c77)
                  clear c77
                  obtain rfl := Option.some.inj H
                  obtain ⟨Ao78, co78, eo78⟩ := Kd.R_slice HO_5.out
                  subst eo78
                  have p131 : 0 ≤ ((l0.length : Int) : Int) := of_decide_eq_true (by first | (with_reducible assumption) | assumption)
                  have q131 : (l0.length : Int) < (x5_1.length : Int) := of_decide_eq_true (by first | (with_reducible assumption) | assumption)
                  obtain ⟨ad131, e131, hx131_0⟩ := Kd.at_bool (Kd.R_reads' HO_5.out).2.2 (l0.length : Int) p131 q131
                  cases e131
                  (try simp only [Go.IntWalk.toNatUp] at hx131_0)
                  replace p131 := eq_true p131
                  replace q131 := eq_true q131
                  go_wp2
                  go_ret
                  exact ⟨by first | rfl | (simp [errW_none, errW_some] <;> rfl) | (simp only [← hji3]; first | rfl | (simp [errW_none, errW_some] <;> rfl)) | (simp [*, errW_none, errW_some] <;> rfl), by repeat (first | (with_reducible first | exact HB.out | apply below_alloc | apply pw_below_drewN | apply below_drew1) | exact HB.out)⟩
                · rw [if_neg c77] at H
                  exact absurd H (by simp)
              · rw [if_neg c76] at H
                exact absurd H (by simp)
      · rw [if_neg c6] at H
        exact absurd H (by simp)
    · rw [if_neg c5] at H
      exact absurd H (by simp)
  · rw [if_neg c4] at H
    exact absurd H (by simp)

end Go.Proofs.YtphpjboljlkdkaaDoor.PMt
