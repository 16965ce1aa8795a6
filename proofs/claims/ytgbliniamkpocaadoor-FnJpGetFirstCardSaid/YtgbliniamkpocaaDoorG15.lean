/- Texts of this claim, laid together. -/
import Derived.Test.YtgbliniamkpocaaDoorJpUqa
import Derived.Test.YtgbliniamkpocaaDoorG13
import Derived.Test.YtgbliniamkpocaaDoorG14
/- spec.More (as the kit's print walks it). -/
namespace Go.Proofs.YtgbliniamkpocaaDoor.Jp
open Go.RowKit Go.Proofs.YtgbliniamkpocaaDoorW.PrintWords Go.Proofs.YtgbliniamkpocaaDoorW.PrintLast Go.Proofs.YtgbliniamkpocaaDoorW.PrintMore
theorem info9 : (Tryd.prog.info? 9).map (fun i => (i.zero, i.size, i.bytes)) = some (some (.string ⟨#[]⟩), 1, 16) := by kernel_rfl

/-! ### spec_More: function 20 -/
def spec_More.f (l0 : List ByteArray) (a1 : ByteArray) : Option (List ByteArray) := (some (([] : List ByteArray) : List ByteArray)).bind fun y384 => (if y384.length + l0.length < 8796093022208 then ((some (y384 ++ l0 : List ByteArray)).bind fun y387 => (if y387.length < 8796093022208 then (some (y387 ++ [a1])) else (none))) else (none))
set_option maxHeartbeats 8000000 in
set_option maxRecDepth 100000 in
theorem spec_More.calls (A0 : Option Addr) (c0 : Nat) (l0 : List ByteArray) (a1 : ByteArray) (r : List ByteArray) (w : World) (hr0 : Kd.C Kd.string w A0 l0.length l0) (hc0 : l0.length ≤ c0) (h : spec_More.f l0 a1 = some r) :
    Calls Tryd.prog 20 #[.slice A0 l0.length c0, .string a1] w fun e w' => ∃ v0_ : Value, e = .returned (v0_) ∧ Kd.R Kd.string 9 w' w.heap.size (fun _ => True) v0_ r ∧ Below w.heap.size w w' := by
  have HR0 := Aside0.mk hr0
  have HC0 := Aside0.mk hc0
  clear hr0 hc0
  have HB := Aside0.mk (Below.refl w.heap.size w)
  have H : ((some (([] : List ByteArray) : List ByteArray)).bind fun y384 => (if y384.length + l0.length < 8796093022208 then ((some (y384 ++ l0 : List ByteArray)).bind fun y387 => (if y387.length < 8796093022208 then (some (y387 ++ [a1])) else (none))) else (none))) = some r := h
  clear h
  obtain ⟨y384, hy384⟩ : ∃ y_ : List ByteArray, y_ = (([] : List ByteArray)) := ⟨_, rfl⟩
  replace H : (if y384.length + l0.length < 8796093022208 then ((some (y384 ++ l0 : List ByteArray)).bind fun y387 => (if y387.length < 8796093022208 then (some (y387 ++ [a1])) else (none))) else (none)) = some r := by first | (rw [hy384]; with_reducible exact H) | (have H2_ := (Option.bind_some _ _).symm.trans H; rw [hy384]; with_reducible exact H2_) | (have H2_ := (Option.bind_some _ _).symm.trans H; with_reducible exact H2_) | with_reducible exact H | (rw [hy384]; exact H) | exact H
  have Ny384 := Aside0.mk hy384
  clear hy384
  by_cases c3 : y384.length + l0.length < 8796093022208
  · rw [if_pos c3] at H
    have LMc3 := Aside0.mk c3
    clear c3
    obtain ⟨y387, hy387⟩ : ∃ y_ : List ByteArray, y_ = (y384 ++ l0) := ⟨_, rfl⟩
    replace H : (if y387.length < 8796093022208 then (some (y387 ++ [a1])) else (none)) = some r := by first | (rw [hy387]; with_reducible exact H) | (have H2_ := (Option.bind_some _ _).symm.trans H; rw [hy387]; with_reducible exact H2_) | (have H2_ := (Option.bind_some _ _).symm.trans H; with_reducible exact H2_) | with_reducible exact H | (rw [hy387]; exact H) | exact H
    have Ny387 := Aside0.mk hy387
    clear hy387
    by_cases c4 : y387.length < 8796093022208
    · rw [if_pos c4] at H
      have LMc4 := Aside0.mk c4
      clear c4
      obtain ⟨y390, hy390⟩ : ∃ y_ : List ByteArray, y_ = (y387 ++ [a1]) := ⟨_, rfl⟩
      replace H : (some y390) = some r := by first | (rw [hy390]; with_reducible exact H) | (have H2_ := (Option.bind_some _ _).symm.trans H; rw [hy390]; with_reducible exact H2_) | (have H2_ := (Option.bind_some _ _).symm.trans H; with_reducible exact H2_) | with_reducible exact H | (rw [hy390]; exact H) | exact H
      have Ny390 := Aside0.mk hy390
      clear hy390
      obtain rfl := Option.some.inj H
      go_enter Tryd.func20, Tryd.ntmps20
      go_wp2_with (first | ((with_reducible refine gate_dst (N := 5) rfl ?_); refine Kd.R_lit Kd.string _ 9 ?hg (N := 5) ?hd (xs := ([] : List ByteArray)) (inner := []) (ok := fun _ => True) (okp := fun _ => True) ?hr ?hp (fun _ hk => hk) trivial (Below.refl _ _) (Nat.le_refl _) (by simp) ?_; (case hd => rfl); (case hg => rfl); (case hr => first | (go_simp; done) | (go_simp; rfl)); (case hp => exact (Reps.none _ _)); intro v385 w5 ho6 hb hg_ hnew_; clear hg_ hnew_; (first | rw [← Ny384.out] at ho6 | (simp only [Int.reduceToNat] at ho6; rw [← Ny384.out] at ho6)); have n0_ := Aside0.mk (Kd.R_lower ho6 (below_size (by repeat (first | (with_reducible first | exact HB.out | apply below_alloc | apply pw_below_drewN | apply below_drew1) | exact HB.out)))); have n1_ := Aside0.mk (below_step (by repeat (first | (with_reducible first | exact HB.out | apply below_alloc | apply pw_below_drewN | apply below_drew1) | exact HB.out)) hb); clear HB; have HO386 := n0_; have HB := n1_; clear n0_ n1_; clear hb ho6) | ((with_reducible refine gate_builtin (b := .append) (xs := #[.tmp 5, .tmp 6]) rfl ?_); at_builtin; refine Kd.R_append_rows Kd.string (w0 := w) w.heap.size rfl (.tmp 5) (.tmp 6) 26 9 (.string ⟨#[]⟩) 16 rfl Tryd.underlying26 info9 rfl (by decide) (by omega) v385 y384 l0 _ _ _ (fun _ => True) (fun _ => False) rfl rfl ?aO ?aR (fun _ _ h => h) (fun _ h => h.elim) ?aF ?aB ?aS ?aL ?_; (case aR => repeat (first | exact (Kd.C_below HR0.out HB.out) | (with_reducible refine Kd.C_alloc ?_ _) | (with_reducible refine Kd.C_drewN ?_ _) | (with_reducible refine Kd.C_drew ?_))); (case aB => exact (by repeat (first | (with_reducible first | exact HB.out | apply below_alloc | apply pw_below_drewN | apply below_drew1) | exact HB.out))); (case aF => exact (fun _ _ => trivial)); (case aO => exact (by (with_reducible repeat (first | apply Kd.R_alloc | apply Kd.R_drewN | apply Kd.R_drew)); exact HO386.out)); (case aS => exact (below_size (by repeat (first | (with_reducible first | exact HB.out | apply below_alloc | apply pw_below_drewN | apply below_drew1) | exact HB.out)))); (case aL => have := LMc3.out; omega); intro v388 w7 ho hb hg hat; rw [← Ny387.out] at ho; have n0_ := Aside0.mk (hb); have n1_ := Aside0.mk (ho); clear HB; clear HO386; have HB := n0_; have HO389 := n1_; clear n0_ n1_; clear ho hb hg hat) | ((with_reducible refine gate_builtin (b := .append) (xs := #[.tmp 7, .tmp 9]) rfl ?_); at_builtin; refine Kd.R_append Kd.string (w0 := w) w.heap.size rfl (.tmp 7) (.tmp 9) 26 9 (.string ⟨#[]⟩) 16 rfl Tryd.underlying26 info9 rfl (by decide) (by omega) v388 y387 a1 [.string a1] (fun _ => True) (fun _ => False) rfl rfl ?aP (fun _ hk => hk.elim) ?aF ?aO ?aB ?aS ?aL ?_; (case aP => exact rfl); (case aB => exact (by repeat (first | (with_reducible first | exact HB.out | apply below_alloc | apply pw_below_drewN | apply below_drew1) | exact HB.out))); (case aF => exact (fun _ _ => trivial)); (case aO => exact (by (with_reducible repeat (first | apply Kd.R_alloc | apply Kd.R_drewN | apply Kd.R_drew)); exact HO389.out)); (case aS => exact (below_size (by repeat (first | (with_reducible first | exact HB.out | apply below_alloc | apply pw_below_drewN | apply below_drew1) | exact HB.out)))); (case aL => have := LMc4.out; omega); intro v391 w8 ho hb hg hat; rw [← Ny390.out] at ho; have n0_ := Aside0.mk (hb); have n1_ := Aside0.mk (ho); clear HB; clear HO389; have HB := n0_; have HO392 := n1_; clear n0_ n1_; clear ho hb hg hat))
      go_ret
      exact ⟨_, by first | rfl | (simp [errW_none, errW_some] <;> rfl) | (simp [*, errW_none, errW_some] <;> rfl), by (with_reducible repeat (first | apply Kd.R_alloc | apply Kd.R_drewN | apply Kd.R_drew)); exact HO392.out, by repeat (first | (with_reducible first | exact HB.out | apply below_alloc | apply pw_below_drewN | apply below_drew1) | exact HB.out)⟩
    · rw [if_neg c4] at H
      exact absurd H (by simp)
  · rw [if_neg c3] at H
    exact absurd H (by simp)

end Go.Proofs.YtgbliniamkpocaaDoor.Jp
/- jpKind, spec.Raw, jpTold, walked by hand. -/
namespace Go.Proofs.YtgbliniamkpocaaDoor.Jp
open Go.RowKit Go.Proofs.YtgbliniamkpocaaDoorW.PrintWords Go.Proofs.YtgbliniamkpocaaDoor.Kit Go.Proofs.YtgbliniamkpocaaDoor.Pure Go.Proofs.YtgbliniamkpocaaDoor.PPl

set_option maxHeartbeats 4000000 in
theorem jk_c (k : Int) (w : World) : Calls Tryd.prog 36 #[.int .i64 k] w fun e w' => e = .returned (.int .i64 (jk k)) ∧ w' = w := by
  by_cases h4 : k = 4
  · subst h4; go_enter Tryd.func36, Tryd.ntmps36; go_wp2; go_ret; exact ⟨rfl, rfl⟩
  by_cases h3 : k = 3
  · subst h3; go_enter Tryd.func36, Tryd.ntmps36; go_wp2; go_ret; exact ⟨rfl, rfl⟩
  by_cases h6 : k = 6
  · subst h6; go_enter Tryd.func36, Tryd.ntmps36; go_wp2; go_ret; exact ⟨rfl, rfl⟩
  by_cases h5 : k = 5
  · subst h5; go_enter Tryd.func36, Tryd.ntmps36; go_wp2; go_ret; exact ⟨rfl, rfl⟩
  by_cases h2 : k = 2
  · subst h2; go_enter Tryd.func36, Tryd.ntmps36; go_wp2; go_ret; exact ⟨rfl, rfl⟩
  by_cases h1 : k = 1
  · subst h1; go_enter Tryd.func36, Tryd.ntmps36; go_wp2; go_ret; exact ⟨rfl, rfl⟩
  have e : jk k = 6 := by unfold jk; rw [if_neg h4, if_neg h3, if_neg h6, if_neg h5, if_neg (by omega)]
  rw [e]
  have g4 : (k == 4) = false := by simpa using h4
  have g3 : (k == 3) = false := by simpa using h3
  have g6 : (k == 6) = false := by simpa using h6
  have g5 : (k == 5) = false := by simpa using h5
  have g2 : (k == 2) = false := by simpa using h2
  have g1 : (k == 1) = false := by simpa using h1
  clear h4 h3 h6 h5 h2 h1 e
  go_enter Tryd.func36, Tryd.ntmps36
  go_wp2
  go_ret
  exact ⟨rfl, rfl⟩
theorem str_nums (t : ByteArray) : strOfNums (Kit.nums t) = t := by
  have h2 := nums_list.1 (nums_str (byte_rng t))
  rw [ByteArray.toList_eq, ByteArray.toList_eq] at h2
  exact ByteArray.ext (Array.toList_inj.1 h2)
/-- The text of a place. -/
def rawS (s : ByteArray) (k : Int) (b e : Nat) : ByteArray := if k = 4 then s.extract (b + 1) (e - 1) else s.extract b e
theorem raw_str {s : ByteArray} {k : Int} {b e : Nat} (h : b + 2 ≤ e ∨ k ≠ 4) : strOfNums (rawL (Kit.nums s) (jk k) b e) = rawS s k b e := by
  unfold rawL rawS
  by_cases h4 : k = 4
  · subst h4
    rw [if_pos (by decide), if_pos rfl, ← str_nums (s.extract (b + 1) (e - 1)), nums_extract, List.drop_drop, List.drop_take, List.take_take]
    congr 2
    omega
  · have : jk k ≠ 1 := by
      unfold jk
      rw [if_neg h4]
      repeat' split
      all_goals decide
    rw [if_neg this, if_neg h4, ← str_nums (s.extract b e), nums_extract, List.drop_take]
set_option maxHeartbeats 8000000 in
set_option maxRecDepth 100000 in
theorem raw_c (s : ByteArray) (k : Int) (b e : Nat) (A3 A4 : Option Addr) (n3 c3 n4 c4 : Nat) (w : World) (hs : s.size ≤ 1000000000000) (hbe : b ≤ e) (hes : e ≤ s.size) (h4 : k = 4 → b + 2 ≤ e) :
    Calls Tryd.prog 37 #[.string s, .agg #[.int .i64 k, .int .i64 b, .int .i64 e, .slice A3 n3 c3, .slice A4 n4 c4]] w fun r w' => r = .returned (.string (rawS s k b e)) ∧ Below w.heap.size w w' := by
  obtain ⟨W, hW⟩ : ∃ W, W = w.alloc (.cells #[.int .i64 k, .int .i64 b, .int .i64 e, .slice A3 n3 c3, .slice A4 n4 c4] 35) := ⟨_, rfl⟩
  have HX : Hid (Bx W w.heap.size k b e (.slice A3 n3 c3) (.slice A4 n4 c4)) := Lib.hid (by rw [hW]; exact blk_new w _)
  have HB : Hid (Below w.heap.size w W) := Lib.hid (by rw [hW]; exact below_alloc (Below.refl _ _) _)
  have d0 := HX.out.c0
  have d1 := HX.out.c1
  have d2 := HX.out.c2
  have w1 : IntKind.i64.wrap ((b : Int) + 1) = (b : Int) + 1 := by rw [IntKind.wrap_i64]; omega
  have w2 : IntKind.i64.wrap ((e : Int) - 1) = (e : Int) - 1 := by rw [IntKind.wrap_i64]; omega
  by_cases hk : k = 4
  · have hb2 := h4 hk
    subst hk
    have e1 : ((b : Int) + 1).toNat = b + 1 := by omega
    have e2 : ((e : Int) - 1).toNat = e - 1 := by omega
    have x0 := eq_true (show (0 : Int) ≤ (b : Int) + 1 by omega)
    have x1 := eq_true (show (b : Int) + 1 ≤ (e : Int) - 1 by omega)
    have x2 := eq_true (show (e : Int) - 1 ≤ s.size by omega)
    clear h4 hbe hes
    go_enter Tryd.func37, Tryd.ntmps37
    go_upto_region 1 with (fail)
    rw [← hW]
    clear hW
    go_wp2
    go_ret
    exact ⟨rfl, HB.out⟩
  · have a4 : (k == 4) = false := by simpa using hk
    have er : rawS s k b e = s.extract b e := by unfold rawS; rw [if_neg hk]
    rw [er]
    have x0 := eq_true (show (0 : Int) ≤ (b : Int) by omega)
    have x1 := eq_true (show (b : Int) ≤ (e : Int) by omega)
    have x2 := eq_true (show (e : Int) ≤ s.size by omega)
    clear h4 hk er
    go_enter Tryd.func37, Tryd.ntmps37
    go_upto_region 1 with (fail)
    rw [← hW]
    clear hW
    go_wp2
    go_ret
    exact ⟨rfl, HB.out⟩
/-- The eight cells that jpTold reads. -/
def TdS (g : Nat) (v : ByteArray) (kk o k b e : Int) (x3 x4 : Value) (w : World) : Prop :=
  w.cell? ⟨g, 1, none⟩ = some (.string v) ∧ w.cell? ⟨g, 2, none⟩ = some (.int .i64 kk) ∧ w.cell? ⟨g, 3, none⟩ = some (.int .i64 o) ∧
  w.cell? ⟨g + 1, 0, none⟩ = some (.int .i64 k) ∧ w.cell? ⟨g + 1, 1, none⟩ = some (.int .i64 b) ∧ w.cell? ⟨g + 1, 2, none⟩ = some (.int .i64 e) ∧ w.cell? ⟨g + 1, 3, none⟩ = some x3 ∧ w.cell? ⟨g + 1, 4, none⟩ = some x4
theorem TdS.below {g : Nat} {v : ByteArray} {kk o k b e : Int} {x3 x4 : Value} {w w1 : World} (h : TdS g v kk o k b e x3 x4 w) (hb : Below w.heap.size w w1) : TdS g v kk o k b e x3 x4 w1 := by
  obtain ⟨a1, a2, a3, b0, b1, b2, b3, b4⟩ := h
  exact ⟨pw_cell_below hb a1, pw_cell_below hb a2, pw_cell_below hb a3, pw_cell_below hb b0, pw_cell_below hb b1, pw_cell_below hb b2, pw_cell_below hb b3, pw_cell_below hb b4⟩
set_option maxHeartbeats 16000000 in
set_option maxRecDepth 100000 in
theorem told_c (s : ByteArray) (k : Int) (b e : Nat) (A3 A4 : Option Addr) (n3 c3 n4 c4 : Nat) (d : ByteArray) (w : World) (hs : s.size ≤ 1000000000000) (hbe : b ≤ e) (hes : e ≤ s.size) (h4 : k = 4 → b + 2 ≤ e) :
    Calls Tryd.prog 21 #[.agg #[.string d, .string (rawS s k b e), .int .i64 (jk k), .int .i64 e], .string s, .agg #[.int .i64 k, .int .i64 b, .int .i64 e, .slice A3 n3 c3, .slice A4 n4 c4]] w fun r w' => r = .returned (.bool true) ∧ Below w.heap.size w w' := by
  have HR := Lib.hid (fun w1 => raw_c s k b e A3 A4 n3 c3 n4 c4 w1 hs hbe hes h4)
  have HJ := Lib.hid (fun w1 => jk_c k w1)
  obtain ⟨v, hv⟩ : ∃ v, rawS s k b e = v := ⟨_, rfl⟩
  obtain ⟨kk, hkk⟩ : ∃ kk, jk k = kk := ⟨_, rfl⟩
  rw [hv] at HR ⊢
  rw [hkk] at HJ ⊢
  clear hv hkk hs hbe hes h4
  obtain ⟨W, hW⟩ : ∃ W, W = (w.alloc (.cells #[.string d, .string v, .int .i64 kk, .int .i64 e] 39)).alloc (.cells #[.int .i64 k, .int .i64 b, .int .i64 e, .slice A3 n3 c3, .slice A4 n4 c4] 35) := ⟨_, rfl⟩
  have hB : Below w.heap.size w W := by rw [hW]; exact below_alloc (below_alloc (Below.refl _ _) _) _
  have h39 : W.heap[w.heap.size]? = some (.cells #[.string d, .string v, .int .i64 kk, .int .i64 e] 39 (0, 0)) := by rw [hW]; exact blk_alloc (blk_new w _) _
  have h35 : Bx W (w.heap.size + 1) k b e (.slice A3 n3 c3) (.slice A4 n4 c4) := by
    rw [hW]
    have := blk_new (w.alloc (.cells #[.string d, .string v, .int .i64 kk, .int .i64 e] 39)) (.cells #[.int .i64 k, .int .i64 b, .int .i64 e, .slice A3 n3 c3, .slice A4 n4 c4] 35)
    rw [alloc_size] at this
    exact this
  have hT : TdS w.heap.size v kk e k b e (.slice A3 n3 c3) (.slice A4 n4 c4) W := ⟨(blk_cell h39 1).trans rfl, (blk_cell h39 2).trans rfl, (blk_cell h39 3).trans rfl, h35.c0, h35.c1, h35.c2, h35.c3, h35.c4⟩
  have HB := Lib.hid hB
  clear h39 h35 hB
  go_enter Tryd.func21, Tryd.ntmps21
  go_upto_region 1 with (fail)
  rw [← hW]
  clear hW
  have hTd : TdS w.heap.size v kk e k b e (.slice A3 n3 c3) (.slice A4 n4 c4) W.drew := hT
  have kp0 : Below W.heap.size W W.drew := (Below.refl _ _).drew
  clear hT
  unfold TdS at hTd
  obtain ⟨a1, a2, a3, b0, b1, b2, b3, b4⟩ := hTd
  go_region_held3 (fun w' => w'.cell? ⟨w.heap.size, 1, none⟩ = some (.string v) ∧ w'.cell? ⟨w.heap.size, 2, none⟩ = some (.int .i64 kk) ∧ w'.cell? ⟨w.heap.size, 3, none⟩ = some (.int .i64 e) ∧ w'.cell? ⟨w.heap.size + 1, 0, none⟩ = some (.int .i64 k) ∧ w'.cell? ⟨w.heap.size + 1, 1, none⟩ = some (.int .i64 b) ∧ w'.cell? ⟨w.heap.size + 1, 2, none⟩ = some (.int .i64 e) ∧ w'.cell? ⟨w.heap.size + 1, 3, none⟩ = some (.slice A3 n3 c3) ∧ w'.cell? ⟨w.heap.size + 1, 4, none⟩ = some (.slice A4 n4 c4) ∧ Below W.heap.size W w')
    (first | exact ⟨a1, a2, a3, b0, b1, b2, b3, b4, kp0⟩ | exact ⟨p1, p2, p3, q0, q1, q2, q3, q4, kp2⟩)
    (first | (go_at_call 36; (with_reducible refine (HJ.out _).mono ?_); rintro e2 w2 ⟨rfl, rfl⟩) | (go_at_call 37; (with_reducible refine (HR.out _).mono ?_); rintro e2 w2 ⟨rfl, hb2⟩; obtain ⟨p1, p2, p3, q0, q1, q2, q3, q4⟩ := TdS.below (g := w.heap.size) (w := W.drew) ⟨a1, a2, a3, b0, b1, b2, b3, b4⟩ hb2; have kp2 := below_step (w := W) (W := W.drew) kp0 hb2))
  go_wp2
  go_ret
  exact ⟨by simp, below_step HB.out kp2⟩
end Go.Proofs.YtgbliniamkpocaaDoor.Jp
