/- Written by a program of this session (a turned copy of the print) out of the translation. -/
import Derived.Test.YtbppoiedaojjmaaPFnPrUglyInPlacex0
import Derived.Test.YtbppoiedaojjmaaPFnPrUglyInPlacex4
namespace Go.Proofs.Ytbppoiedaojjmaa.PFnPrUglyInPlace
open Go.RowKit Go.Proofs.YtbppoiedaojjmaaW.PrintWords Go.Proofs.YtbppoiedaojjmaaW.PrintLast Go.Proofs.YtbppoiedaojjmaaW.PrintMore
attribute [local go_sem] max2_int min2_int max_two min_two max_three min_three max_four min_four   -- for this text's walks alone
set_option linter.unusedVariables false
set_option linter.unusedSimpArgs false

/-! ### laws_prPlaces: function 10 -/
def laws_prPlaces.f (k : Nat) (a0 : ByteArray) : Option (Int × Int × Int × (List (S55)) × (List (S28)) × Bool) := if (a0.size : Int) > 4096 then (some (0, 0, 0, ([] : List (S55)), ([] : List (S28)), false)) else ((spec_Places.f k a0).bind fun bt266 => (some (bt266.1, bt266.2.1, bt266.2.2.1, bt266.2.2.2.1, bt266.2.2.2.2.1, bt266.2.2.2.2.2)))
theorem laws_prPlaces.mono : ∀ a0 k, LeO (laws_prPlaces.f k a0) (laws_prPlaces.f (k + 1) a0) := by
  intro a0 k
  unfold laws_prPlaces.f
  repeat' first
      | (with_reducible exact spec_Places.mono _ _)
      | (with_reducible exact LeO.refl _)
      | (with_reducible exact LeO.none _)
      | (with_reducible refine LeO.ite ?_ ?_)
      | (with_reducible refine LeO.bind ?_ (fun _ => ?_))
      | exact spec_Places.mono _ _
      | exact LeO.none _
      | refine LeO.ite ?_ ?_
      | refine LeO.bind ?_ (fun _ => ?_)
set_option maxHeartbeats 8000000 in
set_option maxRecDepth 100000 in
theorem laws_prPlaces.calls (k : Nat) (a0 : ByteArray) (r1 : Int) (r2 : Int) (r3 : Int) (r4 : List (S55)) (r5 : List (S28)) (r6 : Bool) (w : World) (h : laws_prPlaces.f k a0 = some (r1, r2, r3, r4, r5, r6)) :
    Calls Try.prog 10 #[.string a0] w fun e w' => ∃ v3_ v4_ : Value, e = .returned (.tuple #[.agg #[.int .i64 r1, .int .i64 r2, .int .i64 r3, v3_, v4_], .bool r6]) ∧ Kd.R k55 55 w' w.heap.size (fun _ => True) v3_ r4 ∧ Kd.R k28 28 w' w.heap.size (fun k_ => some k_ ≠ (v3_ : Value).ownBlock) v4_ r5 ∧ Below w.heap.size w w' := by
  have hu28 := Try.underlying28
  have HB := Aside0.mk (Below.refl w.heap.size w)
  have H : (if (a0.size : Int) > 4096 then (some (0, 0, 0, ([] : List (S55)), ([] : List (S28)), false)) else ((spec_Places.f k a0).bind fun bt266 => (some (bt266.1, bt266.2.1, bt266.2.2.1, bt266.2.2.2.1, bt266.2.2.2.2.1, bt266.2.2.2.2.2)))) = some (r1, r2, r3, r4, r5, r6) := h
  clear h
  by_cases c2 : (a0.size : Int) > 4096
  · rw [if_pos c2] at H
    have c2b0 : decide (4096 < (a0.size : Int)) = true := decide_eq_true c2
    have c2b1 : decide (4096 < a0.size) = true := decide_eq_true (by omega)
    clear c2
    simp only [Option.some.injEq, Prod.mk.injEq] at H
    obtain ⟨rfl, rfl, rfl, rfl, rfl, rfl⟩ := H
    go_enter Try.func10, Try.ntmps10
    go_wp2_with (first | ((with_reducible refine gate_dst (N := 2) rfl ?_); refine box_event ?hg (N := 2) ?hd (cs := #[.int .i64 0, .int .i64 0, .int .i64 0, .slice none 0 0, .slice none 0 0]) (t := 28) ?hr ?_; (case hd => rfl); (case hg => rfl); (case hr => first | (go_simp; done) | (go_simp; rfl)); intro gb265 hg w3 hbox hb; have n0_ := Aside0.mk (below_step (by repeat (first | (with_reducible first | exact HB.out | apply below_alloc | apply pw_below_drewN | apply below_drew1) | exact HB.out)) hb); have n1_ := Aside0.mk (hbox); have n2_ := Aside0.mk ((by rw [hg]; exact (below_size (by repeat (first | (with_reducible first | exact HB.out | apply below_alloc | apply pw_below_drewN | apply below_drew1) | exact HB.out))) : w.heap.size ≤ gb265)); have n3_ := Aside0.mk ((by rw [hg]; exact (below_size (by repeat (first | (with_reducible first | exact HB.out | apply below_alloc | apply pw_below_drewN | apply below_drew1) | exact HB.out))) : w.heap.size ≤ gb265)); clear HB; have HB := n0_; have BK265 := n1_; have GW265 := n2_; have GE265 := n3_; clear n0_ n1_ n2_ n3_; clear hb hbox hg; have hcz4_0 : w3.cell? ⟨gb265, 0, none⟩ = some (.int .i64 0) := (blk_cell BK265.out 0).trans rfl; have hcz4_1 : w3.cell? ⟨gb265, 1, none⟩ = some (.int .i64 0) := (blk_cell BK265.out 1).trans rfl; have hcz4_2 : w3.cell? ⟨gb265, 2, none⟩ = some (.int .i64 0) := (blk_cell BK265.out 2).trans rfl; have hcz4_3 : w3.cell? ⟨gb265, 3, none⟩ = some (.slice none 0 0) := (blk_cell BK265.out 3).trans rfl; have hcz4_4 : w3.cell? ⟨gb265, 4, none⟩ = some (.slice none 0 0) := (blk_cell BK265.out 4).trans rfl; have hfz4_0 := blk_frozen BK265.out 0; have hfz4_1 := blk_frozen BK265.out 1; have hfz4_2 := blk_frozen BK265.out 2; have hfz4_3 := blk_frozen BK265.out 3; have hfz4_4 := blk_frozen BK265.out 4))
    refine bodyPost_ret (results_ct rfl _ _ gb265 28 #[.int .i64 0, .int .i64 0, .int .i64 0, .slice none 0 0, .slice none 0 0] (0, 0) _ rfl (by (with_reducible repeat (first | refine blk_drewN ?_ _ | refine blk_drew ?_ | refine blk_alloc ?_ _)); refine blk_put (cs := #[.int .i64 0, .int .i64 0, .int .i64 0, .slice none 0 0, .slice none 0 0]) ?_ 4 _ rfl; (with_reducible repeat (first | refine blk_drewN ?_ _ | refine blk_drew ?_ | refine blk_alloc ?_ _)); refine blk_put (cs := #[.int .i64 0, .int .i64 0, .int .i64 0, .slice none 0 0, .slice none 0 0]) ?_ 3 _ rfl; (with_reducible repeat (first | refine blk_drewN ?_ _ | refine blk_drew ?_ | refine blk_alloc ?_ _)); refine blk_put (cs := #[.int .i64 0, .int .i64 0, .int .i64 0, .slice none 0 0, .slice none 0 0]) ?_ 2 _ rfl; (with_reducible repeat (first | refine blk_drewN ?_ _ | refine blk_drew ?_ | refine blk_alloc ?_ _)); refine blk_put (cs := #[.int .i64 0, .int .i64 0, .int .i64 0, .slice none 0 0, .slice none 0 0]) ?_ 1 _ rfl; (with_reducible repeat (first | refine blk_drewN ?_ _ | refine blk_drew ?_ | refine blk_alloc ?_ _)); refine blk_put (cs := #[.int .i64 0, .int .i64 0, .int .i64 0, .slice none 0 0, .slice none 0 0]) ?_ 0 _ rfl; (with_reducible repeat (first | refine blk_drewN ?_ _ | refine blk_drew ?_ | refine blk_alloc ?_ _)); exact BK265.out) Try.underlying28 rfl (by kernel_rfl)) rfl ?_
    exact ⟨_, _, by first | rfl | (simp [errW_none, errW_some] <;> rfl) | (simp [*, errW_none, errW_some] <;> rfl), by first | exact Kd.R_nil _ _ _ _ _ | exact Kd.N_nil _ _ _ _ _ | exact Kd.V_nil _ _ _ _ _ | exact Kd.Q_nil _ _ _ _ _ | exact Kd.S_nil _ _ _ _ _, by first | exact Kd.R_nil _ _ _ _ _ | exact Kd.N_nil _ _ _ _ _ | exact Kd.V_nil _ _ _ _ _ | exact Kd.Q_nil _ _ _ _ _ | exact Kd.S_nil _ _ _ _ _, by repeat (first | (with_reducible first | exact HB.out | apply below_alloc | apply pw_below_drewN | apply below_drew1 | refine below_set ?_ GE265.out) | exact HB.out)⟩
  · rw [if_neg c2] at H
    have c2b0 : decide (4096 < (a0.size : Int)) = false := decide_eq_false c2
    have c2b1 : decide (4096 < a0.size) = false := decide_eq_false (by omega)
    clear c2
    replace H := Option.bind_eq_some_iff.mp H
    obtain ⟨⟨t266, t267, t268, t269, t272, t275⟩, A50, H⟩ := H
    replace H : (some (t266, t267, t268, t269, t272, t275)) = some (r1, r2, r3, r4, r5, r6) := H
    have A5 := Aside0.mk A50
    clear A50
    simp only [Option.some.injEq, Prod.mk.injEq] at H
    obtain ⟨rfl, rfl, rfl, rfl, rfl, rfl⟩ := H
    go_enter Try.func10, Try.ntmps10
    go_wp2_with (first | ((with_reducible refine gate_dst (N := 2) rfl ?_); refine box_event ?hg (N := 2) ?hd (cs := #[.int .i64 0, .int .i64 0, .int .i64 0, .slice none 0 0, .slice none 0 0]) (t := 28) ?hr ?_; (case hd => rfl); (case hg => rfl); (case hr => first | (go_simp; done) | (go_simp; rfl)); intro gb265 hg w6 hbox hb; have n0_ := Aside0.mk (below_step (by repeat (first | (with_reducible first | exact HB.out | apply below_alloc | apply pw_below_drewN | apply below_drew1) | exact HB.out)) hb); have n1_ := Aside0.mk (hbox); have n2_ := Aside0.mk ((by rw [hg]; exact (below_size (by repeat (first | (with_reducible first | exact HB.out | apply below_alloc | apply pw_below_drewN | apply below_drew1) | exact HB.out))) : w.heap.size ≤ gb265)); have n3_ := Aside0.mk ((by rw [hg]; exact (below_size (by repeat (first | (with_reducible first | exact HB.out | apply below_alloc | apply pw_below_drewN | apply below_drew1) | exact HB.out))) : w.heap.size ≤ gb265)); clear HB; have HB := n0_; have BK265 := n1_; have GW265 := n2_; have GE265 := n3_; clear n0_ n1_ n2_ n3_; clear hb hbox hg) | ((with_reducible refine gate_callee (f := 21) rfl ?_); refine goesL_ (some 9) rfl rfl Try.func21 (by kernel_rfl) rfl #[.string a0] rfl (by (try simp only [List.map_toArray, List.map_cons, List.map_nil]); first | done | rfl | (simp only [List.length_drop, List.length_take]; rfl)) ?_; (with_reducible refine (spec_Places.calls k a0 t266 t267 t268 t269 t272 t275 _ A5.out).mono ?_); rintro e w7 ⟨v270, v273, rfl, ho0, ho1, hb⟩; refine ⟨_, rfl, ?_⟩; have n0_ := Aside0.mk (Kd.R_lower ho0 (below_size (by repeat (first | (with_reducible first | exact HB.out | apply below_alloc | apply pw_below_drewN | apply below_drew1 | refine below_set ?_ GE265.out) | exact HB.out)))); have n1_ := Aside0.mk (Kd.R_lower (Kd.R_newB ho1 (g := gb265) (o := .cells #[.int .i64 0, .int .i64 0, .int .i64 0, .slice none 0 0, .slice none 0 0] 28 (0, 0)) (by (with_reducible repeat (first | refine blk_drewN ?_ _ | refine blk_drew ?_ | refine blk_alloc ?_ _)); exact BK265.out)) (below_size (by repeat (first | (with_reducible first | exact HB.out | apply below_alloc | apply pw_below_drewN | apply below_drew1 | refine below_set ?_ GE265.out) | exact HB.out)))); have n2_ := Aside0.mk (blk_below (g := gb265) (o := .cells #[.int .i64 0, .int .i64 0, .int .i64 0, .slice none 0 0, .slice none 0 0] 28 (0, 0)) (by (with_reducible repeat (first | refine blk_drewN ?_ _ | refine blk_drew ?_ | refine blk_alloc ?_ _)); exact BK265.out) hb); have n3_ := Aside0.mk (below_step (by repeat (first | (with_reducible first | exact HB.out | apply below_alloc | apply pw_below_drewN | apply below_drew1 | refine below_set ?_ GE265.out) | exact HB.out)) hb); clear BK265; clear HB; have HO271 := n0_; have HO274 := n1_; have BK265 := n2_; have HB := n3_; clear n0_ n1_ n2_ n3_; (try clear hb); (try clear hb2); (try clear hk); (try clear hi); (try clear ho0); (try clear ho1); have hcz8_0 : w7.cell? ⟨gb265, 0, none⟩ = some (.int .i64 0) := (blk_cell BK265.out 0).trans rfl; have hcz8_1 : w7.cell? ⟨gb265, 1, none⟩ = some (.int .i64 0) := (blk_cell BK265.out 1).trans rfl; have hcz8_2 : w7.cell? ⟨gb265, 2, none⟩ = some (.int .i64 0) := (blk_cell BK265.out 2).trans rfl; have hcz8_3 : w7.cell? ⟨gb265, 3, none⟩ = some (.slice none 0 0) := (blk_cell BK265.out 3).trans rfl; have hcz8_4 : w7.cell? ⟨gb265, 4, none⟩ = some (.slice none 0 0) := (blk_cell BK265.out 4).trans rfl; have hfz8_0 := blk_frozen BK265.out 0; have hfz8_1 := blk_frozen BK265.out 1; have hfz8_2 := blk_frozen BK265.out 2; have hfz8_3 := blk_frozen BK265.out 3; have hfz8_4 := blk_frozen BK265.out 4; obtain ⟨Ao9, co9, eo9⟩ := Kd.R_slice HO271.out; subst eo9; obtain ⟨Ao10, co10, eo10⟩ := Kd.R_slice HO274.out; subst eo10))
    refine bodyPost_ret (results_ct rfl _ _ gb265 28 #[.int .i64 t266, .int .i64 t267, .int .i64 t268, .slice Ao9 t269.length co9, .slice Ao10 t272.length co10] (0, 0) _ rfl (by (with_reducible repeat (first | refine blk_drewN ?_ _ | refine blk_drew ?_ | refine blk_alloc ?_ _)); refine blk_put (cs := #[.int .i64 t266, .int .i64 t267, .int .i64 t268, .slice Ao9 t269.length co9, .slice none 0 0]) ?_ 4 _ rfl; (with_reducible repeat (first | refine blk_drewN ?_ _ | refine blk_drew ?_ | refine blk_alloc ?_ _)); refine blk_put (cs := #[.int .i64 t266, .int .i64 t267, .int .i64 t268, .slice none 0 0, .slice none 0 0]) ?_ 3 _ rfl; (with_reducible repeat (first | refine blk_drewN ?_ _ | refine blk_drew ?_ | refine blk_alloc ?_ _)); refine blk_put (cs := #[.int .i64 t266, .int .i64 t267, .int .i64 0, .slice none 0 0, .slice none 0 0]) ?_ 2 _ rfl; (with_reducible repeat (first | refine blk_drewN ?_ _ | refine blk_drew ?_ | refine blk_alloc ?_ _)); refine blk_put (cs := #[.int .i64 t266, .int .i64 0, .int .i64 0, .slice none 0 0, .slice none 0 0]) ?_ 1 _ rfl; (with_reducible repeat (first | refine blk_drewN ?_ _ | refine blk_drew ?_ | refine blk_alloc ?_ _)); refine blk_put (cs := #[.int .i64 0, .int .i64 0, .int .i64 0, .slice none 0 0, .slice none 0 0]) ?_ 0 _ rfl; (with_reducible repeat (first | refine blk_drewN ?_ _ | refine blk_drew ?_ | refine blk_alloc ?_ _)); exact BK265.out) Try.underlying28 rfl (by kernel_rfl)) rfl ?_
    exact ⟨_, _, by first | rfl | (simp [errW_none, errW_some] <;> rfl) | (simp [*, errW_none, errW_some] <;> rfl), by (with_reducible repeat (first | apply Kd.R_alloc | apply Kd.R_drewN | apply Kd.R_drew)); exact Kd.R_mono (Kd.R_far (p := ⟨gb265, 4, none⟩) (Kd.R_far (p := ⟨gb265, 3, none⟩) (Kd.R_far (p := ⟨gb265, 2, none⟩) (Kd.R_far (p := ⟨gb265, 1, none⟩) (Kd.R_far (p := ⟨gb265, 0, none⟩) (Kd.R_types HO271.out BK265.out (by decide)) (fun _ hk => hk.2) (.int .i64 t266)) (fun _ hk => hk.2) (.int .i64 t267)) (fun _ hk => hk.2) (.int .i64 t268)) (fun _ hk => hk.2) (.slice Ao9 t269.length co9)) (fun _ hk => hk.2) (.slice Ao10 t272.length co10)) (fun _ hk => trivial), by (with_reducible repeat (first | apply Kd.R_alloc | apply Kd.R_drewN | apply Kd.R_drew)); exact Kd.R_mono (Kd.R_far (p := ⟨gb265, 4, none⟩) (Kd.R_far (p := ⟨gb265, 3, none⟩) (Kd.R_far (p := ⟨gb265, 2, none⟩) (Kd.R_far (p := ⟨gb265, 1, none⟩) (Kd.R_far (p := ⟨gb265, 0, none⟩) (Kd.R_mono HO274.out (fun k_ hk => (⟨hk, hk.2⟩ : _ ∧ k_ ≠ gb265))) (fun _ hk => hk.2) (.int .i64 t266)) (fun _ hk => hk.2) (.int .i64 t267)) (fun _ hk => hk.2) (.int .i64 t268)) (fun _ hk => hk.2) (.slice Ao9 t269.length co9)) (fun _ hk => hk.2) (.slice Ao10 t272.length co10)) (fun _ hk => hk.1.1), by repeat (first | (with_reducible first | exact HB.out | apply below_alloc | apply pw_below_drewN | apply below_drew1 | refine below_set ?_ GE265.out) | exact HB.out)⟩

/-! impl.PrUglyInPlace, walked by hand: pretty.ugly over one block of bytes -/
mutual
/-- What ugly makes of bytes outside of strings. -/
def ug : List Int → List Int
  | [] => []
  | c :: r => if 32 < c then (if c = 34 then 34 :: us r 0 else c :: ug r) else ug r
/-- .. inside of a string, behind k backslashes. -/
def us : List Int → Nat → List Int
  | [], _ => []
  | c :: r, k => if c = 34 then (if k % 2 = 0 then 34 :: ug r else 34 :: us r 0) else c :: us r (if c = 92 then k + 1 else 0)
end
/-- How many backslashes stand at the end. -/
def tb (o : List Int) : Nat := (o.reverse.takeWhile (fun c => c == 92)).length
theorem tb_snoc (o : List Int) (c : Int) : tb (o ++ [c]) = if c = 92 then tb o + 1 else 0 := by
  unfold tb
  rw [List.reverse_append, List.reverse_singleton, List.singleton_append, List.takeWhile_cons]
  by_cases h : c = 92
  · simp [h]
  · simp [h]
theorem tb_all (o : List Int) : ∀ t, t < tb o → t < o.length ∧ o.getD (o.length - 1 - t) 0 = 92 := by
  intro t ht
  have hl : tb o ≤ o.length := by
    unfold tb
    have := List.takeWhile_prefix (p := fun c : Int => c == 92) (l := o.reverse)
    have := this.length_le
    simpa using this
  refine ⟨by omega, ?_⟩
  have h1 : (o.reverse.takeWhile (fun c => c == 92))[t]'ht = o.reverse[t]'(by simp; omega) := List.IsPrefix.getElem (List.takeWhile_prefix _) ht
  have h2 : (o.reverse.takeWhile (fun c => c == 92))[t]'ht = 92 := by
    have := List.all_takeWhile (p := fun c : Int => c == 92) (l := o.reverse)
    have := List.all_eq_true.1 this _ (List.getElem_mem ht)
    simpa using this
  rw [h1, List.getElem_reverse] at h2
  rw [List.getD_eq_getElem?_getD, List.getElem?_eq_getElem (by omega)]
  simpa using h2
theorem takeWhile_stop {α : Type} (p : α → Bool) : ∀ (l : List α) (h : (l.takeWhile p).length < l.length), p (l[(l.takeWhile p).length]'h) = false
  | [], h => by simp at h
  | a :: l, h => by
    by_cases ha : p a = true
    · have h' : (l.takeWhile p).length < l.length := by
        rw [List.takeWhile_cons, if_pos ha] at h
        simpa using h
      have := takeWhile_stop p l h'
      simpa [List.takeWhile_cons, ha] using this
    · simp [List.takeWhile_cons, ha]
theorem tb_stop (o : List Int) (h : tb o < o.length) : o.getD (o.length - 1 - tb o) 0 ≠ 92 := by
  have h1 := takeWhile_stop (fun c : Int => c == 92) o.reverse (by simpa [tb] using h)
  rw [List.getD_eq_getElem?_getD, List.getElem?_eq_getElem (by omega)]
  rw [List.getElem_reverse] at h1
  simpa [tb] using h1
theorem drop_i (L : List Int) (i : Nat) (h : i < L.length) : L.drop i = L.getD i 0 :: L.drop (i + 1) := by
  rw [List.drop_eq_getElem_cons h, List.getD_eq_getElem?_getD, List.getElem?_eq_getElem h]
  rfl

theorem tmod_par (q l n : Nat) (h : (q : Int) - (l : Int) = -(n : Int)) : ((q : Int) - (l : Int)).tmod 2 = -((n % 2 : Nat) : Int) := by
  rw [h, Int.neg_tmod]
  rfl

/-- What ugly's loops hold: bytes still to be read, bytes written, in one block. -/
structure UI (w : World) (g cap : Nat) (L out : List Int) (i : Nat) : Prop where
  src : ∀ k, i ≤ k → k < L.length → w.cell? ⟨g, k, none⟩ = some (.int .u8 (L.getD k 0))
  dst : Kit.BB w g cap out
  cap : L.length ≤ cap
theorem UI.next {w : World} {g cap : Nat} {L out : List Int} {i j : Nat} (h : UI w g cap L out i) (hj : i ≤ j) : UI w g cap L out j := ⟨fun k h1 h2 => h.src k (by omega) h2, h.dst, h.cap⟩
theorem UI.alloc {w : World} {g cap : Nat} {L out : List Int} {i : Nat} (h : UI w g cap L out i) (o : Obj) : UI (w.alloc o) g cap L out i :=
  ⟨fun k h1 h2 => pw_cell_below (below_alloc (Below.refl _ _) o) (h.src k h1 h2), h.dst.alloc o, h.cap⟩
theorem UI.push {w : World} {g cap : Nat} {L out : List Int} {i : Nat} (h : UI w g cap L out i) (hi : i < L.length) (hl : out.length ≤ i) :
    UI (w.setCell ⟨g, out.length, none⟩ (.int .u8 (L.getD i 0))) g cap L (out ++ [L.getD i 0]) i := by
  have hc := h.cap
  refine ⟨fun k h1 h2 => ?_, h.dst.push (by omega) _, hc⟩
  by_cases e : k = out.length
  · obtain rfl : i = k := by omega
    have hb := (h.dst.push (show out.length < cap by omega) (L.getD i 0)).cell out.length (by simp)
    rw [e]
    rw [e] at hb
    simpa using hb
  · exact (World.cell?_setCell_other _ _ _ _ (by intro e; simp only [Addr.mk.injEq] at e; omega)).trans (h.src k h1 h2)

section
variable {P : Program}
theorem wpList_push {ops : Array Oper} {rest : List Oper} {o : Oper} {a : Act} {Q : Exit → Act → World → Prop} (hgd : o.guard = none) (s x : Operand) (t tx : TypeId)
    (ho : o.op = .call { callee := .builtin .append, args := #[s, x], argTypes := #[t, tx] })
    {e : TypeId} {i5 : TypeInfo} (ht : P.underlying t = some (.slice e)) (hi : P.info? e = some i5) (hsz : i5.size = 1)
    {w : World} {g cap : Nat} {L out : List Int} {i : Nat} (hs : a.eval s = .slice (some ⟨g, 0, none⟩) out.length cap) (h : UI w g cap L out i) (hi2 : i < L.length) (hl : out.length ≤ i) (y : Value) (hx : a.eval x = y) (hsrc : Src P 1 tx y 1 [.int .u8 (L.getD i 0)] w)
    (K : ∀ w', UI w' g cap L (out ++ [L.getD i 0]) i → (∀ B w0, Below B w0 w → B ≤ g → Below B w0 w') → wpList P ops Q rest (a.put o.dst (.slice (some ⟨g, 0, none⟩) (out.length + 1) cap)) w') : wpList P ops Q (o :: rest) a w :=
  wpList_plain hgd fun _ hK => by
    have hc := h.cap
    have hr := run_append_room_src (P := P) w t tx o.type e i5 ht hi g 0 out.length cap y 1 [.int .u8 (L.getD i 0)] (by rw [hsz]; exact hsrc) (by omega)
      (fun j hj => by rw [hsz, Nat.zero_add, Nat.mul_one]; exact h.dst.there _ (by simp at hj; omega)) (fun j hj => by rw [hsz, Nat.zero_add, Nat.mul_one]; exact h.dst.frozen _ (by simp at hj; omega))
    rw [hsz, Nat.zero_add, Nat.mul_one] at hr
    unfold Oper.wp execOp
    simp only [ho, resolve, invoke, builtin, Sem.run_bind, Sem.run_pure, Result.andThen_ok, List.map_toArray, List.map_cons, List.map_nil, hs, hx, hr]
    exact hK _ _ (K _ (h.push hi2 hl) (fun B w0 hB hg => hB.setCell hg _))
theorem src_one {tx e' : TypeId} (hk : P.underlying tx = some (.slice e')) (x : Int) (w : World) (t : TypeId) : Src P 1 tx (.slice (some ⟨w.heap.size, 0, none⟩) 1 1) 1 [.int .u8 x] (w.alloc (.cells #[.int .u8 x] t)) :=
  Kit.src_lit hk [x] (heap_alloc_new w _) rfl
end

set_option maxHeartbeats 8000000 in
set_option maxRecDepth 100000 in
theorem ugly_walk (g cap : Nat) (L : List Int) (w0 w : World) (hU : UI w g cap L [] 0) (hn : L.length ≤ 140737488351232) (hB : Below w0.heap.size w0 w) (hg : w0.heap.size ≤ g) :
    Calls Try.prog 34 #[.slice (some ⟨g, 0, none⟩) L.length cap, .slice (some ⟨g, 0, none⟩) L.length cap] w
      fun e w' => e = .returned (.slice (some ⟨g, 0, none⟩) (ug L).length cap) ∧ Kit.BB w' g cap (ug L) ∧ Below w0.heap.size w0 w' := by
  obtain ⟨i5, hi5, hz5, hsz5, hby5⟩ : ∃ i, Try.prog.info? 5 = some i ∧ i.zero = some (.int .u8 0) ∧ i.size = 1 ∧ i.bytes = 1 := ⟨_, rfl, rfl, rfl, rfl⟩
  have hu1 := Try.underlying39
  have HU := Aside0.mk hU
  have HB := Aside0.mk hB
  have hcap := hU.cap
  clear hU hB
  go_enter Try.func34, Try.ntmps34
  go_wp2
  go_loopw [0, 5] (fun dv iv wr => ∃ (i : Nat) (out : List Int), i ≤ L.length + 1 ∧ out.length ≤ i ∧ iv = .int .i64 i ∧ dv = .slice (some ⟨g, 0, none⟩) out.length cap ∧ Aside0 (out ++ ug (L.drop i) = ug L) ∧ Aside0 (UI wr g cap L out i) ∧ Aside0 (Below w0.heap.size w0 wr)) (fun _ iv _ => L.length + 1 - (intOf iv).toNat)
  case atStart => exact ⟨0, [], by omega, by simp, rfl, rfl, ⟨by simp⟩, HU, HB⟩
  case round =>
    clear HU HB
    obtain ⟨i, out, hi, hl, rfl, rfl, HE, HI, HW⟩ := hrel
    by_cases hlt : i < L.length
    · have HD := Aside0.mk (drop_i L i hlt)
      obtain ⟨x, hx⟩ : ∃ x, L.getD i 0 = x := ⟨_, rfl⟩
      have hc := HI.out.src i (Nat.le_refl _) hlt
      rw [hx] at hc
      have HX := Aside0.mk hx
      clear hx
      by_cases h32 : 32 < x
      · by_cases h34 : x = 34
        · subst h34
          have HE1 := Aside0.mk (show (out ++ [34]) ++ us (L.drop (i + 1)) (tb (out ++ [34])) = ug L by
            have h := HE.out
            rw [HD.out, HX.out, ug, if_pos h32, if_pos rfl] at h
            rw [tb_snoc, if_neg (by decide), List.append_assoc]
            exact h)
          go_wp2_with (at_builtin; refine wpList_push rfl (.tmp 20) (.tmp 25) 39 39 rfl hu1 hi5 hsz5 rfl (HI.out.alloc _) hlt hl _ rfl (by rw [HX.out]; exact src_one hu1 _ _ _) ?_; intro w1 hi1 hb1; have HB1 := Aside0.mk (hb1 _ _ (HW.out.alloc HW.out.size _) hg); have HI1 := Aside0.mk hi1; have hc1 := hi1.src i (Nat.le_refl _) hlt; rw [HX.out] at hc1; clear hi1 hb1)
          go_loopw [0, 5, 6] (fun dv iv jv wr => ∃ (m : Nat) (out : List Int), i < m ∧ m ≤ L.length ∧ out.length ≤ m ∧ tb out < out.length ∧ iv = .int .i64 m ∧ dv = .slice (some ⟨g, 0, none⟩) out.length cap ∧ Aside0 (out ++ us (L.drop m) (tb out) = ug L) ∧ Aside0 (UI wr g cap L out m) ∧ Aside0 (Below w0.heap.size w0 wr)) (fun _ iv _ _ => L.length - (intOf iv).toNat)
          case atStart =>
            have hx := HI1.out
            rw [HX.out] at hx
            exact ⟨i + 1, out ++ [34], by omega, by omega, by simp; omega, by rw [tb_snoc, if_neg (by decide)]; simp, by go_num, by simp, HE1, ⟨hx.next (by omega)⟩, HB1⟩
          case round =>
            clear HI1 HB1 HE1 HE HI HW HD HX hc hc1 h32 hi hl hlt
            obtain ⟨m, out, him, hm, hl, htb, rfl, rfl, HE, HI, HW⟩ := hrel
            by_cases hlt : m < L.length
            · have HD := Aside0.mk (drop_i L m hlt)
              obtain ⟨x, hx⟩ : ∃ x, L.getD m 0 = x := ⟨_, rfl⟩
              have hc := HI.out.src m (Nat.le_refl _) hlt
              rw [hx] at hc
              have HX := Aside0.mk hx
              clear hx
              by_cases h34 : x = 34
              · subst h34
                go_wp2_with (at_builtin; refine wpList_push rfl (.tmp 40) (.tmp 45) 39 39 rfl hu1 hi5 hsz5 rfl (HI.out.alloc _) hlt hl _ rfl (by rw [HX.out]; exact src_one hu1 _ _ _) ?_; intro w1 hi1 hb1; have HB1 := Aside0.mk (hb1 _ _ (HW.out.alloc HW.out.size _) hg); have HI1 := Aside0.mk hi1; have hc1 := hi1.src m (Nat.le_refl _) hlt; rw [HX.out] at hc1; clear hi1 hb1)
                have HQ := Aside0.mk (show ∀ q, q < out.length → w1.cell? ⟨g, q, none⟩ = some (.int .u8 (out.getD q 0)) by
                  intro q hq
                  have h := HI1.out.dst.cell q (by simp; omega)
                  rw [List.getD_eq_getElem?_getD, List.getElem?_append_left hq, ← List.getD_eq_getElem?_getD] at h
                  exact h)
                go_loopw [6] (fun jv wr => wr = w1 ∧ ∃ q t : Nat, t ≤ tb out ∧ q + 1 + t = out.length ∧ jv = .int .i64 q) (fun jv _ => (intOf jv).toNat)
                case atStart => exact ⟨rfl, out.length - 1, 0, Nat.zero_le _, by omega, by go_num⟩
                case round =>
                  obtain ⟨hw, q, t, ht, hqt, rfl⟩ := hrel
                  subst hw
                  have hcq := HQ.out q (by omega)
                  by_cases hlt2 : t < tb out
                  · have h := tb_all out t hlt2
                    rw [show out.length - 1 - t = q by omega] at h
                    rw [h.2] at hcq
                    go_wp2
                    go_roundw
                    case rel => exact ⟨trivial, q - 1, t + 1, by omega, by omega, by go_num⟩
                    case measure => simp [intOf]; omega
                  · have h := tb_stop out htb
                    rw [show out.length - 1 - tb out = q by omega] at h
                    obtain ⟨y, hy⟩ : ∃ y, out.getD q 0 = y := ⟨_, rfl⟩
                    rw [hy] at hcq h
                    clear hy
                    have htm := tmod_par q out.length (tb out + 1) (by omega)
                    by_cases hpar : tb out % 2 = 0
                    · have hpb : (((q : Int) - (out.length : Int)).tmod 2 != 0) = true := by
                        rw [htm, bne_iff_ne]
                        omega
                      clear htm
                      go_wp2
                      go_roundw
                      case rel =>
                        have hx := HI1.out
                        rw [HX.out] at hx
                        refine ⟨m + 1, out ++ [34], by omega, by simp; omega, by go_num, by simp, ⟨?_⟩, ⟨hx.next (by omega)⟩, HB1⟩
                        have h := HE.out
                        rw [HD.out, HX.out, us, if_pos rfl, if_pos hpar] at h
                        rw [List.append_assoc]
                        exact h
                      case measure => simp [intOf]; omega
                    · have hpb : (((q : Int) - (out.length : Int)).tmod 2 != 0) = false := by
                        rw [htm, bne_eq_false_iff_eq]
                        omega
                      clear htm
                      go_wp2
                      go_roundw
                      case rel =>
                        have hx := HI1.out
                        rw [HX.out] at hx
                        refine ⟨m + 1, out ++ [34], by omega, by omega, by simp; omega, by rw [tb_snoc, if_neg (by decide)]; simp, by go_num, by simp, ⟨?_⟩, ⟨hx.next (by omega)⟩, HB1⟩
                        have h := HE.out
                        rw [HD.out, HX.out, us, if_pos rfl, if_neg hpar] at h
                        rw [tb_snoc, if_neg (by decide), List.append_assoc]
                        exact h
                      case measure => simp [intOf]; omega
              · have HE1 := Aside0.mk (show (out ++ [x]) ++ us (L.drop (m + 1)) (tb (out ++ [x])) = ug L by
                  have h := HE.out
                  rw [HD.out, HX.out, us, if_neg h34] at h
                  rw [tb_snoc, List.append_assoc]
                  exact h)
                go_wp2_with (at_builtin; refine wpList_push rfl (.tmp 40) (.tmp 45) 39 39 rfl hu1 hi5 hsz5 rfl (HI.out.alloc _) hlt hl _ rfl (by rw [HX.out]; exact src_one hu1 _ _ _) ?_; intro w1 hi1 hb1; have HB1 := Aside0.mk (hb1 _ _ (HW.out.alloc HW.out.size _) hg); have HI1 := Aside0.mk hi1; have hc1 := hi1.src m (Nat.le_refl _) hlt; rw [HX.out] at hc1; clear hi1 hb1)
                go_roundw
                case rel =>
                  have hx := HI1.out
                  rw [HX.out] at hx
                  refine ⟨m + 1, out ++ [x], by omega, by omega, by simp; omega, ?_, by go_num, by simp, HE1, ⟨hx.next (by omega)⟩, HB1⟩
                  rw [tb_snoc]
                  split
                  · simp; omega
                  · simp
                case measure => simp [intOf]; omega
            · have hd : L.drop m = [] := List.drop_eq_nil_of_le (by omega)
              have he := HE.out
              rw [hd, us, List.append_nil] at he
              subst he
              go_wp2
              go_roundw
              case rel => exact ⟨m + 1, ug L, by omega, by omega, by go_num, rfl, ⟨by rw [List.drop_eq_nil_of_le (by omega), ug, List.append_nil]⟩, ⟨HI.out.next (by omega)⟩, HW⟩
              case measure => simp [intOf]; omega
        · have HE1 := Aside0.mk (show (out ++ [x]) ++ ug (L.drop (i + 1)) = ug L by
            have h := HE.out
            rw [HD.out, HX.out, ug, if_pos h32, if_neg h34] at h
            rw [List.append_assoc]
            exact h)
          go_wp2_with (at_builtin; refine wpList_push rfl (.tmp 20) (.tmp 25) 39 39 rfl hu1 hi5 hsz5 rfl (HI.out.alloc _) hlt hl _ rfl (by rw [HX.out]; exact src_one hu1 _ _ _) ?_; intro w1 hi1 hb1; have HB1 := Aside0.mk (hb1 _ _ (HW.out.alloc HW.out.size _) hg); have HI1 := Aside0.mk hi1; have hc1 := hi1.src i (Nat.le_refl _) hlt; rw [HX.out] at hc1; clear hi1 hb1)
          go_roundw
          case rel =>
            have hx := HI1.out
            rw [HX.out] at hx
            exact ⟨i + 1, out ++ [x], by omega, by simp; omega, by go_num, by simp, HE1, ⟨hx.next (by omega)⟩, HB1⟩
          case measure => simp [intOf]; omega
      · go_wp2
        go_roundw
        case rel =>
          refine ⟨i + 1, out, by omega, by omega, by go_num, rfl, ⟨?_⟩, ⟨HI.out.next (by omega)⟩, HW⟩
          have h := HE.out
          rw [HD.out, HX.out, ug, if_neg h32] at h
          exact h
        case measure => simp [intOf]; omega
    · have hd : L.drop i = [] := List.drop_eq_nil_of_le (by omega)
      have he := HE.out
      rw [hd, ug, List.append_nil] at he
      subst he
      go_wp2
      go_ret
      exact ⟨rfl, HI.out.dst, HW.out⟩

theorem ug_len : ∀ L : List Int, (ug L).length ≤ L.length ∧ ∀ k, (us L k).length ≤ L.length
  | [] => by simp [ug, us]
  | c :: r => by
    have h := ug_len r
    refine ⟨?_, fun k => ?_⟩
    · rw [ug]
      split
      · split
        · have := h.2 0
          simp only [List.length_cons]
          omega
        · have := h.1
          simp only [List.length_cons]
          omega
      · have := h.1
        simp only [List.length_cons]
        omega
    · rw [us]
      split
      · split
        · have := h.1
          simp only [List.length_cons]
          omega
        · have := h.2 0
          simp only [List.length_cons]
          omega
      · have := h.2 (if c = 92 then k + 1 else 0)
        simp only [List.length_cons]
        omega
theorem BB_less {w : World} {g cap c : Nat} {l : List Int} (h : Kit.BB w g cap l) (hc : c ≤ cap) (hl : l.length ≤ c) : Kit.BB w g c l := by
  obtain ⟨cs, t, lo, hi, h1, h2, h3, h4, h5⟩ := h
  exact ⟨cs, t, lo, hi, h1, by omega, by omega, hl, h5⟩
theorem UI_start {w : World} {g cap c : Nat} {L : List Int} (h : Kit.BB w g cap L) (hc : c ≤ cap) (hl : L.length ≤ c) : UI w g c L [] 0 :=
  ⟨fun k _ h2 => h.cell k h2, BB_less (by simpa using h.take 0) hc (by simp), hl⟩
def impl_PrUglyInPlace.f (a0 : ByteArray) : Option ByteArray := if a0.size ≤ 140737488351232 then some (strOfNums (ug (Kit.nums a0))) else none
set_option maxHeartbeats 4000000 in
theorem impl_PrUglyInPlace.calls (a0 : ByteArray) (r : ByteArray) (w : World) (h : impl_PrUglyInPlace.f a0 = some r) :
    Calls Try.prog 11 #[.string a0] w fun e w' => e = .returned (.string r) ∧ Below w.heap.size w w' := by
  unfold impl_PrUglyInPlace.f at h
  split at h
  · rename_i hs
    injection h with h
    subst h
    have hcv := Lib.run_convert_string_bytes (P := Try.prog) w 9 39 5 a0 Try.underlying9 Try.underlying39 Try.underlying5
    have hB0 := Kit.BB.conv w 5 a0
    have hb0 := Kit.below_conv w 5 a0
    have hlen := Kit.nums_len a0
    have hul := (ug_len (Kit.nums a0)).1
    change Kit.BB _ _ _ (Kit.nums a0) at hB0
    generalize hW : Lib.bytesWorld w 5 a0 = w1 at hcv hB0 hb0
    have hge := grownCap_ge w a0.size 0 5
    have hcs : grownCap w a0.size 0 5 ≤ (Lib.bytesCells w 5 a0).size := by
      simp [Lib.bytesCells]
      omega
    have hui := UI_start hB0 hcs (by rw [hlen]; exact hge)
    clear hcs hge
    generalize hC : grownCap w a0.size 0 5 = cap at hui hcv
    rw [← hlen] at hcv
    have HUI := Aside0.mk hui
    have Hb0 := Aside0.mk hb0
    clear hW hC hB0 hb0 hui
    go_enter Try.func11, Try.ntmps11
    go_wp2_with (first | (go_at_call 22; go_in) | (go_at_call 34; rw [← hlen]; refine (ugly_walk w.heap.size cap (Kit.nums a0) w w1 HUI.out (by rw [hlen]; exact hs) Hb0.out (Nat.le_refl _)).mono ?_; rintro e w2 ⟨rfl, hb2, hw2⟩; have hst := hb2.str (P := Try.prog) (src := 39) (dst := 9) (c := cap) Try.underlying39 Try.underlying5 Try.underlying9 (by rw [hlen] at hul; omega); clear hb2))
    go_ret
    exact ⟨rfl, hw2⟩
  · cases h

/-! spec.Bare, walked by hand -/
/-- A part of a text. -/
def part (L : List Int) (b e : Int) : Option (List Int) := if 0 ≤ b ∧ b ≤ e ∧ e ≤ (L.length : Int) then some ((L.drop b.toNat).take (e.toNat - b.toNat)) else none
mutual
/-- A place's text without blanks outside of strings. -/
def bare (L : List Int) : S28 → Option (List Int)
  | ⟨k, b, e, ns, ks⟩ => if k ≠ 5 ∧ k ≠ 6 then part L b e else (bares L (k == 6) ns ks true).bind fun x => some ((if k = 6 then 123 else 91) :: x ++ [if k = 6 then 125 else 93])
def bares (L : List Int) (obj : Bool) : List S55 → List S28 → Bool → Option (List Int)
  | _, [], _ => some []
  | ns, p :: ks, first =>
    (if obj then (match ns with | [] => none | n :: _ => (part L n.f0 n.f1).bind fun x => some (x ++ [58])) else some []).bind fun nm =>
      (bare L p).bind fun v => (bares L obj ns.tail ks false).bind fun r => some ((if first then [] else [44]) ++ nm ++ v ++ r)
end

theorem part_some {s : ByteArray} {b e : Int} {x : List Int} (h : part (Kit.nums s) b e = some x) : 0 ≤ b ∧ b ≤ e ∧ e ≤ (s.size : Int) ∧ x = Kit.nums (s.extract b.toNat e.toNat) := by
  unfold part at h
  rw [Kit.nums_len] at h
  split at h
  · rename_i hp
    injection h with h
    exact ⟨hp.1, hp.2.1, hp.2.2, by rw [← h, Kit.nums_extract]⟩
  · cases h

/-- A row's element at a place. -/
theorem drop_at {α : Type} (l : List α) (d : α) (j : Nat) (h : j < l.length) : l.drop j = l.getD j d :: l.drop (j + 1) := by
  rw [List.drop_eq_getElem_cons h, List.getD_eq_getElem?_getD, List.getElem?_eq_getElem h]
  rfl
theorem bares_end {L : List Int} {obj b : Bool} {ns : List S55} {ks : List S28} {j : Nat} {rest : List Int} (h : bares L obj (ns.drop j) (ks.drop j) b = some rest) (hj : ks.length ≤ j) : rest = [] := by
  rw [List.drop_eq_nil_of_le hj, bares.eq_def] at h
  injection h with h
  exact h.symm
theorem bares_arr {L : List Int} {b : Bool} {ns : List S55} {ks : List S28} {j : Nat} {rest : List Int} (h : bares L false (ns.drop j) (ks.drop j) b = some rest) (hj : j < ks.length) :
    ∃ v r, bare L (rd_T28 ks (j : Int)) = some v ∧ bares L false (ns.drop (j + 1)) (ks.drop (j + 1)) false = some r ∧ rest = (if b then [] else [44]) ++ v ++ r := by
  rw [drop_at ks z28 j hj, bares.eq_def] at h
  simp only [Bool.false_eq_true, if_false, Option.bind_some, List.tail_drop] at h
  obtain ⟨v, hv, h⟩ := Option.bind_eq_some_iff.mp h
  obtain ⟨r, hr, h⟩ := Option.bind_eq_some_iff.mp h
  injection h with h
  exact ⟨v, r, by unfold rd_T28; exact hv, hr, by rw [← h]; simp⟩
theorem bares_obj {L : List Int} {b : Bool} {ns : List S55} {ks : List S28} {j : Nat} {rest : List Int} (h : bares L true (ns.drop j) (ks.drop j) b = some rest) (hj : j < ks.length) :
    j < ns.length ∧ ∃ x v r, part L (rd_T55 ns (j : Int)).f0 (rd_T55 ns (j : Int)).f1 = some x ∧ bare L (rd_T28 ks (j : Int)) = some v ∧ bares L true (ns.drop (j + 1)) (ks.drop (j + 1)) false = some r ∧ rest = (if b then [] else [44]) ++ x ++ [58] ++ v ++ r := by
  rw [drop_at ks z28 j hj, bares.eq_def] at h
  rcases Nat.lt_or_ge j ns.length with hn | hn
  · rw [drop_at ns z55 j hn] at h
    simp only [if_true, List.tail_cons] at h
    obtain ⟨nm, hnm, h⟩ := Option.bind_eq_some_iff.mp h
    obtain ⟨x, hx, hnm⟩ := Option.bind_eq_some_iff.mp hnm
    obtain ⟨v, hv, h⟩ := Option.bind_eq_some_iff.mp h
    obtain ⟨r, hr, h⟩ := Option.bind_eq_some_iff.mp h
    injection h with h
    injection hnm with hnm
    exact ⟨hn, x, v, r, by unfold rd_T55; exact hx, by unfold rd_T28; exact hv, hr, by rw [← h, ← hnm]; simp⟩
  · rw [List.drop_eq_nil_of_le hn] at h
    simp at h
theorem kid_small {kind b e : Int} {ns : List S55} {ks : List S28} {j m : Nat} (h : SizeOf.sizeOf (⟨kind, b, e, ns, ks⟩ : S28) < m + 1) (hj : j < ks.length) : SizeOf.sizeOf (rd_T28 ks (j : Int)) < m := by
  have hm : rd_T28 ks (j : Int) ∈ ks := by
    unfold rd_T28
    rw [List.getD_eq_getElem?_getD, Int.toNat_natCast, List.getElem?_eq_getElem hj]
    exact List.getElem_mem hj
  have h1 := List.sizeOf_lt_of_mem hm
  simp only [S28.mk.sizeOf_spec] at h
  omega
theorem new_at (w : World) (o1 o2 : Obj) : ((w.alloc o1).alloc o2).heap[w.heap.size + 1]? = some o2 := by
  have := heap_alloc_new (w.alloc o1) o2
  simpa using this
theorem box_blk {w wr : World} {o : Obj} {v v1 : Value} (h : Kit.Keeps (w.alloc o) wr v v1) (hv : ∀ k, v.ownBlock = some k → k < w.heap.size) {o' : Obj} (ho : (w.alloc o).heap[w.heap.size]? = some o') : wr.heap[w.heap.size]? = some o' :=
  h.blk ho fun e => by have := hv _ e.symm; omega

set_option maxHeartbeats 8000000 in
set_option maxRecDepth 100000 in
theorem bareTo_walk (m : Nat) : ∀ (p : S28), SizeOf.sizeOf p < m → ∀ (text : ByteArray) (out x : List Int) (v : Value) (wB w : World) (A3 : Option Addr) (c3 : Nat) (A4 : Option Addr) (c4 : Nat),
    Below wB.heap.size wB w → Kit.OB wB.heap.size w v out → Kd.C k55 wB A3 p.f3.length p.f3 → Kd.C k28 wB A4 p.f4.length p.f4 → bare (Kit.nums text) p = some x → out.length + x.length ≤ 140737488355327 →
    Calls Try.prog 23 #[v, .string text, .agg #[.int .i64 p.f0, .int .i64 p.f1, .int .i64 p.f2, .slice A3 p.f3.length c3, .slice A4 p.f4.length c4]] w
      fun e w' => ∃ v', e = .returned v' ∧ Kit.OB wB.heap.size w' v' (out ++ x) ∧ Below wB.heap.size wB w' ∧ Kit.Keeps w w' v v' := by
  induction m with
  | zero => exact fun p h => absurd h (Nat.not_lt_zero _)
  | succ m ih =>
  intro p hm text out x v wB w A3 c3 A4 c4 hB hO hr3 hr4 hx hfit
  obtain ⟨i5, hi5, hz5, hsz5, hby5⟩ : ∃ i, Try.prog.info? 5 = some i ∧ i.zero = some (.int .u8 0) ∧ i.size = 1 ∧ i.bytes = 1 := ⟨_, rfl, rfl, rfl, rfl⟩
  have hu1 := Try.underlying28
  have hu2 := Try.underlying55
  obtain ⟨kind, b, e, ns, ks⟩ := p
  have IH := Lib.hid ih
  have HM := Lib.hid hm
  have HB := Aside0.mk hB
  have HO := Aside0.mk hO
  have HR3 := Aside0.mk hr3
  have HR4 := Aside0.mk hr4
  have HF := Aside0.mk hfit
  clear ih hm hB hO hr3 hr4 hfit
  unfold bare at hx
  by_cases hk : kind ≠ 5 ∧ kind ≠ 6
  · rw [if_pos hk] at hx
    obtain ⟨hb0, hbe, hes, rfl⟩ := part_some hx
    obtain ⟨hk5, hk6⟩ := hk
    have g1 : (kind != 5) = true := by rw [bne_iff_ne]; exact hk5
    have g2 : (kind != 6) = true := by rw [bne_iff_ne]; exact hk6
    clear hk5 hk6 hx
    go_enter Try.func23, Try.ntmps23
    go_wp2_with (at_builtin; refine Kit.wpList_append_obg rfl (.tmp 18) (.tmp 24) 39 9 rfl Try.underlying39 hi5 hz5 hsz5 hby5 _ _ rfl (HO.out.alloc _) (HB.out.alloc HB.out.size _).size _ _ rfl (Kit.src_str Try.underlying9 _ _) HF.out ?_; intro v1 w1 hob1 hgr1 hat1; have HB1 := Aside0.mk ((HB.out.alloc HB.out.size _).grown hgr1 (HB.out.alloc HB.out.size _).size (fun k hk => (HO.out.lt k hk).1)); have HO1 := Aside0.mk hob1; have HK1 := Aside0.mk (((Kit.Keeps.refl w v).alloc _).grown hgr1 hat1); clear hob1 hgr1 hat1)
    go_ret
    exact ⟨_, rfl, HO1.out, HB1.out, HK1.out⟩
  · by_cases h6 : kind = 6
    · subst h6
      rw [if_neg hk] at hx
      obtain ⟨X, hX, hx⟩ := Option.bind_eq_some_iff.mp hx
      have hx' : x = 123 :: X ++ [125] := by
        simp at hx
        rw [← hx]
        rfl
      have HX := Lib.hid hX
      subst hx'
      clear hk hx hX
      have hF : out.length + X.length + 2 ≤ 140737488355327 := by
        have := HF.out
        simp at this
        omega
      replace HF := Aside0.mk hF
      clear hF
      go_enter Try.func23, Try.ntmps23
      go_wp2_with (at_builtin; refine Kit.wpList_append_obg rfl (.tmp 29) (.tmp 31) 39 39 rfl Try.underlying39 hi5 hz5 hsz5 hby5 _ _ rfl ((HO.out.alloc _).alloc _) ((HB.out.alloc HB.out.size _).alloc (HB.out.alloc HB.out.size _).size _).size _ [123] rfl (Kit.src_lit Try.underlying39 [123] (new_at _ _ _) rfl) (by have := HF.out; simp; omega) ?_; intro v1 w1 hob1 hgr1 hat1; have HB1 := Aside0.mk (((HB.out.alloc HB.out.size _).alloc (HB.out.alloc HB.out.size _).size _).grown hgr1 ((HB.out.alloc HB.out.size _).alloc (HB.out.alloc HB.out.size _).size _).size (fun k hk => (HO.out.lt k hk).1)); have HO1 := Aside0.mk hob1; have HK1 := Aside0.mk (((Kit.Keeps.refl (w.alloc (.cells #[.int .i64 6, .int .i64 b, .int .i64 e, .slice A3 ns.length c3, .slice A4 ks.length c4] 28)) v).alloc _).grown hgr1 hat1); clear hob1 hgr1 hat1; have hbx1 := box_blk HK1.out (fun k hk => (HO.out.lt k hk).2) (heap_alloc_new w _); have hca1 : w1.cell? ⟨w.heap.size, 0, none⟩ = some (.int .i64 6) := (blk_cell hbx1 0).trans rfl; have hcd1 : w1.cell? ⟨w.heap.size, 3, none⟩ = some (.slice A3 ns.length c3) := (blk_cell hbx1 3).trans rfl; have hce1 : w1.cell? ⟨w.heap.size, 4, none⟩ = some (.slice A4 ks.length c4) := (blk_cell hbx1 4).trans rfl; clear hbx1)
      clear hca1 hcd1 hce1
      go_loopw [0, 9, 36] (fun v' kv iv wr => ∃ (j : Nat) (done rest : List Int), j ≤ ks.length ∧ iv = .int .i64 j ∧ Aside0 (bares (Kit.nums text) true (ns.drop j) (ks.drop j) (j == 0) = some rest) ∧ Aside0 (done ++ rest = X) ∧ Aside0 (Kit.OB wB.heap.size wr v' (out ++ 123 :: done)) ∧ Aside0 (Below wB.heap.size wB wr) ∧ Aside0 (Kit.Keeps (w.alloc (.cells #[.int .i64 6, .int .i64 b, .int .i64 e, .slice A3 ns.length c3, .slice A4 ks.length c4] 28)) wr v v')) (fun _ _ iv _ => ks.length - (intOf iv).toNat)
      case atStart => exact ⟨0, [], X, Nat.zero_le _, rfl, ⟨HX.out⟩, ⟨rfl⟩, HO1, HB1, HK1⟩
      case round =>
        clear HO1 HB1 HK1 HX
        obtain ⟨j, done, rest, hj, rfl, HR, HD, HOr, HBr, HKr⟩ := hrel
        have HL := Aside0.mk (show done.length + rest.length = X.length by rw [← HD.out, List.length_append])
        have hmx : ks.length ≤ 9223372036854775807 := HR4.out.2.1
        by_cases hlt : j < ks.length
        · obtain ⟨hns, nm, x1, r1, hnm, hx1, hr1, he1⟩ := bares_obj HR.out hlt
          obtain ⟨hp0, hp1, hp2, rfl⟩ := part_some hnm
          obtain ⟨na, eN, n0, n1⟩ := at_T55 HR3.out (j : Int) (by omega) (by omega)
          simp only [Int.toNat_natCast] at n0 n1
          have HN0 := Aside0.mk n0
          have HN1 := Aside0.mk n1
          subst eN
          clear hnm n0 n1
          have HKD := Aside0.mk (kid_small HM.out hlt)
          obtain ⟨ad, B3, d3, B4, d4, eA, k0, k1, k2, k3, k4, l3, g3, l4, g4⟩ := at_T28 HR4.out (j : Int) (by omega) (by omega)
          subst eA
          simp only [Int.toNat_natCast] at k0 k1 k2 k3 k4
          have HC0 := Aside0.mk k0
          have HC1 := Aside0.mk k1
          have HC2 := Aside0.mk k2
          have HC3 := Aside0.mk k3
          have HC4 := Aside0.mk k4
          have HG3 := Aside0.mk g3
          have HG4 := Aside0.mk g4
          have HX1 := Aside0.mk hx1
          have HR1 := Aside0.mk hr1
          have HE1 := Aside0.mk he1
          clear k0 k1 k2 k3 k4 g3 g4 hx1 hr1 he1
          by_cases hj0 : j = 0
          · have hneg : ¬ ((0 : Int) < (j : Int)) := by omega
            have hjt : (j == 0) = true := by rw [beq_iff_eq]; exact hj0
            have HJT := Aside0.mk hjt
            clear hjt hj0
            have hRL : rest.length = (Kit.nums (text.extract (rd_T55 ns (j : Int)).f0.toNat (rd_T55 ns (j : Int)).f1.toNat)).length + 1 + x1.length + r1.length := by
              rw [HE1.out, HJT.out]
              simp; omega
            have HRL := Aside0.mk hRL
            clear hRL
            have hbxr := box_blk HKr.out (fun k hk => (HO.out.lt k hk).2) (heap_alloc_new w _)
            have hcar := (blk_cell hbxr 0).trans (show _ = some (.int .i64 6) from rfl)
            have hcdr := (blk_cell hbxr 3).trans (show _ = some (.slice (some na) ns.length c3) from rfl)
            have hcer := (blk_cell hbxr 4).trans (show _ = some (.slice (some ad) ks.length c4) from rfl)
            clear hbxr
            have hk0r := pw_cell_below HBr.out HC0.out
            have hk1r := pw_cell_below HBr.out HC1.out
            have hk2r := pw_cell_below HBr.out HC2.out
            have hk3r := pw_cell_below HBr.out HC3.out
            have hk4r := pw_cell_below HBr.out HC4.out
            have hn0r := pw_cell_below HBr.out HN0.out
            have hn1r := pw_cell_below HBr.out HN1.out
            go_wp2_with fail
            go_region_law (refine Kit.step_append_obg rfl (.tmp 47) (.tmp 61) 39 9 rfl Try.underlying39 hi5 hz5 hsz5 hby5 _ _ rfl (Kit.OB.drew HOr.out) HBr.out.drew.size _ (Kit.nums (text.extract (rd_T55 ns (j : Int)).f0.toNat (rd_T55 ns (j : Int)).f1.toNat)) rfl (Kit.src_str Try.underlying9 _ _) (by have := HF.out; have := HL.out; have := HRL.out; simp at *; omega) ?_; intro v2 w2 hob2 hgr2 hat2; have HB2 := Aside0.mk (HBr.out.drew.grown hgr2 HBr.out.drew.size (fun k hk => (HOr.out.lt k hk).1)); have HO2 := Aside0.mk hob2; have HK2 := Aside0.mk (HKr.out.drew.grown hgr2 hat2); clear hob2 hgr2 hat2; clear hcar hcdr hcer hk0r hk1r hk2r hk3r hk4r hn0r hn1r; have hbx2 := box_blk HK2.out (fun k hk => (HO.out.lt k hk).2) (heap_alloc_new w _); have hca2 : w2.cell? ⟨w.heap.size, 0, none⟩ = some (.int .i64 6) := (blk_cell hbx2 0).trans rfl; have hcd2 : w2.cell? ⟨w.heap.size, 3, none⟩ = some (.slice (some na) ns.length c3) := (blk_cell hbx2 3).trans rfl; have hce2 : w2.cell? ⟨w.heap.size, 4, none⟩ = some (.slice (some ad) ks.length c4) := (blk_cell hbx2 4).trans rfl; clear hbx2; have hk02 := pw_cell_below HB2.out HC0.out; have hk12 := pw_cell_below HB2.out HC1.out; have hk22 := pw_cell_below HB2.out HC2.out; have hk32 := pw_cell_below HB2.out HC3.out; have hk42 := pw_cell_below HB2.out HC4.out; have hn02 := pw_cell_below HB2.out HN0.out; have hn12 := pw_cell_below HB2.out HN1.out)
            all_goals
              go_wp2_with (first | (at_builtin; refine Kit.wpList_append_obg rfl (.tmp 63) (.tmp 64) 39 39 rfl Try.underlying39 hi5 hz5 hsz5 hby5 _ _ rfl (HO2.out.alloc _) (HB2.out.alloc HB2.out.size _).size _ [58] rfl (Kit.src_lit Try.underlying39 [58] (heap_alloc_new _ _) rfl) (by have := HF.out; have := HL.out; have := HRL.out; simp at *; omega) ?_; intro v3 w3 hob3 hgr3 hat3; have HB3 := Aside0.mk ((HB2.out.alloc HB2.out.size _).grown hgr3 (HB2.out.alloc HB2.out.size _).size (fun k hk => (HO2.out.lt k hk).1)); have HO3 := Aside0.mk hob3; have HK3 := Aside0.mk ((HK2.out.alloc _).grown hgr3 hat3); clear hob3 hgr3 hat3; clear hca2 hcd2 hce2 hk02 hk12 hk22 hk32 hk42 hn02 hn12; have hbx3 := box_blk HK3.out (fun k hk => (HO.out.lt k hk).2) (heap_alloc_new w _); have hca3 : w3.cell? ⟨w.heap.size, 0, none⟩ = some (.int .i64 6) := (blk_cell hbx3 0).trans rfl; have hcd3 : w3.cell? ⟨w.heap.size, 3, none⟩ = some (.slice (some na) ns.length c3) := (blk_cell hbx3 3).trans rfl; have hce3 : w3.cell? ⟨w.heap.size, 4, none⟩ = some (.slice (some ad) ks.length c4) := (blk_cell hbx3 4).trans rfl; clear hbx3; have hk03 := pw_cell_below HB3.out HC0.out; have hk13 := pw_cell_below HB3.out HC1.out; have hk23 := pw_cell_below HB3.out HC2.out; have hk33 := pw_cell_below HB3.out HC3.out; have hk43 := pw_cell_below HB3.out HC4.out; have hn03 := pw_cell_below HB3.out HN0.out; have hn13 := pw_cell_below HB3.out HN1.out) | (go_at_call 23; refine (IH.out (rd_T28 ks (j : Int)) HKD.out text _ x1 _ wB _ B3 d3 B4 d4 HB3.out HO3.out HG3.out HG4.out HX1.out (by have := HF.out; have := HL.out; have := HRL.out; simp at *; omega)).mono ?_; rintro e w9 ⟨v9, rfl, hob9, hb9, hkp9⟩; have HO9 := Aside0.mk hob9; have HB9 := Aside0.mk hb9; have HK9 := Aside0.mk (HK3.out.trans hkp9); clear hob9 hb9 hkp9; clear hca3 hcd3 hce3 hk03 hk13 hk23 hk33 hk43 hn03 hn13))
              go_roundw
              case rel =>
                refine ⟨j + 1, done ++ Kit.nums (text.extract (rd_T55 ns (j : Int)).f0.toNat (rd_T55 ns (j : Int)).f1.toNat) ++ [58] ++ x1, r1, by omega, by go_num, ⟨by simpa using HR1.out⟩, ⟨?_⟩, ⟨?_⟩, HB9, HK9⟩
                · rw [← HD.out, HE1.out]
                  rw [HJT.out]
                  simp
                · simpa using HO9.out
              case measure => simp [intOf]; omega
          · have hpos : (0 : Int) < (j : Int) := by omega
            have hRL : rest.length = 1 + (Kit.nums (text.extract (rd_T55 ns (j : Int)).f0.toNat (rd_T55 ns (j : Int)).f1.toNat)).length + 1 + x1.length + r1.length := by
              have hj0 : (j == 0) = false := by rw [beq_eq_false_iff_ne]; omega
              rw [HE1.out, hj0]
              simp; omega
            have HRL := Aside0.mk hRL
            clear hRL
            have hbxr := box_blk HKr.out (fun k hk => (HO.out.lt k hk).2) (heap_alloc_new w _)
            have hcar := (blk_cell hbxr 0).trans (show _ = some (.int .i64 6) from rfl)
            have hcdr := (blk_cell hbxr 3).trans (show _ = some (.slice (some na) ns.length c3) from rfl)
            have hcer := (blk_cell hbxr 4).trans (show _ = some (.slice (some ad) ks.length c4) from rfl)
            clear hbxr
            have hk0r := pw_cell_below HBr.out HC0.out
            have hk1r := pw_cell_below HBr.out HC1.out
            have hk2r := pw_cell_below HBr.out HC2.out
            have hk3r := pw_cell_below HBr.out HC3.out
            have hk4r := pw_cell_below HBr.out HC4.out
            have hn0r := pw_cell_below HBr.out HN0.out
            have hn1r := pw_cell_below HBr.out HN1.out
            go_wp2_with (at_builtin; refine Kit.wpList_append_obg rfl (.tmp 41) (.tmp 42) 39 39 rfl Try.underlying39 hi5 hz5 hsz5 hby5 _ _ rfl (HOr.out.alloc _) (HBr.out.alloc HBr.out.size _).size _ [44] rfl (Kit.src_lit Try.underlying39 [44] (heap_alloc_new _ _) rfl) (by have := HF.out; have := HL.out; have := HRL.out; simp at *; omega) ?_; intro v1 w1 hob1 hgr1 hat1; have HB1 := Aside0.mk ((HBr.out.alloc HBr.out.size _).grown hgr1 (HBr.out.alloc HBr.out.size _).size (fun k hk => (HOr.out.lt k hk).1)); have HO1 := Aside0.mk hob1; have HK1 := Aside0.mk ((HKr.out.alloc _).grown hgr1 hat1); clear hob1 hgr1 hat1; clear hcar hcdr hcer hk0r hk1r hk2r hk3r hk4r hn0r hn1r; have hbx1 := box_blk HK1.out (fun k hk => (HO.out.lt k hk).2) (heap_alloc_new w _); have hca1 : w1.cell? ⟨w.heap.size, 0, none⟩ = some (.int .i64 6) := (blk_cell hbx1 0).trans rfl; have hcd1 : w1.cell? ⟨w.heap.size, 3, none⟩ = some (.slice (some na) ns.length c3) := (blk_cell hbx1 3).trans rfl; have hce1 : w1.cell? ⟨w.heap.size, 4, none⟩ = some (.slice (some ad) ks.length c4) := (blk_cell hbx1 4).trans rfl; clear hbx1; have hk01 := pw_cell_below HB1.out HC0.out; have hk11 := pw_cell_below HB1.out HC1.out; have hk21 := pw_cell_below HB1.out HC2.out; have hk31 := pw_cell_below HB1.out HC3.out; have hk41 := pw_cell_below HB1.out HC4.out; have hn01 := pw_cell_below HB1.out HN0.out; have hn11 := pw_cell_below HB1.out HN1.out)
            go_region_law (refine Kit.step_append_obg rfl (.tmp 47) (.tmp 61) 39 9 rfl Try.underlying39 hi5 hz5 hsz5 hby5 _ _ rfl (Kit.OB.drew HO1.out) HB1.out.drew.size _ (Kit.nums (text.extract (rd_T55 ns (j : Int)).f0.toNat (rd_T55 ns (j : Int)).f1.toNat)) rfl (Kit.src_str Try.underlying9 _ _) (by have := HF.out; have := HL.out; have := HRL.out; simp at *; omega) ?_; intro v2 w2 hob2 hgr2 hat2; have HB2 := Aside0.mk (HB1.out.drew.grown hgr2 HB1.out.drew.size (fun k hk => (HO1.out.lt k hk).1)); have HO2 := Aside0.mk hob2; have HK2 := Aside0.mk (HK1.out.drew.grown hgr2 hat2); clear hob2 hgr2 hat2; clear hca1 hcd1 hce1 hk01 hk11 hk21 hk31 hk41 hn01 hn11; have hbx2 := box_blk HK2.out (fun k hk => (HO.out.lt k hk).2) (heap_alloc_new w _); have hca2 : w2.cell? ⟨w.heap.size, 0, none⟩ = some (.int .i64 6) := (blk_cell hbx2 0).trans rfl; have hcd2 : w2.cell? ⟨w.heap.size, 3, none⟩ = some (.slice (some na) ns.length c3) := (blk_cell hbx2 3).trans rfl; have hce2 : w2.cell? ⟨w.heap.size, 4, none⟩ = some (.slice (some ad) ks.length c4) := (blk_cell hbx2 4).trans rfl; clear hbx2; have hk02 := pw_cell_below HB2.out HC0.out; have hk12 := pw_cell_below HB2.out HC1.out; have hk22 := pw_cell_below HB2.out HC2.out; have hk32 := pw_cell_below HB2.out HC3.out; have hk42 := pw_cell_below HB2.out HC4.out; have hn02 := pw_cell_below HB2.out HN0.out; have hn12 := pw_cell_below HB2.out HN1.out)
            all_goals
              go_wp2_with (first | (at_builtin; refine Kit.wpList_append_obg rfl (.tmp 63) (.tmp 64) 39 39 rfl Try.underlying39 hi5 hz5 hsz5 hby5 _ _ rfl (HO2.out.alloc _) (HB2.out.alloc HB2.out.size _).size _ [58] rfl (Kit.src_lit Try.underlying39 [58] (heap_alloc_new _ _) rfl) (by have := HF.out; have := HL.out; have := HRL.out; simp at *; omega) ?_; intro v3 w3 hob3 hgr3 hat3; have HB3 := Aside0.mk ((HB2.out.alloc HB2.out.size _).grown hgr3 (HB2.out.alloc HB2.out.size _).size (fun k hk => (HO2.out.lt k hk).1)); have HO3 := Aside0.mk hob3; have HK3 := Aside0.mk ((HK2.out.alloc _).grown hgr3 hat3); clear hob3 hgr3 hat3; clear hca2 hcd2 hce2 hk02 hk12 hk22 hk32 hk42 hn02 hn12; have hbx3 := box_blk HK3.out (fun k hk => (HO.out.lt k hk).2) (heap_alloc_new w _); have hca3 : w3.cell? ⟨w.heap.size, 0, none⟩ = some (.int .i64 6) := (blk_cell hbx3 0).trans rfl; have hcd3 : w3.cell? ⟨w.heap.size, 3, none⟩ = some (.slice (some na) ns.length c3) := (blk_cell hbx3 3).trans rfl; have hce3 : w3.cell? ⟨w.heap.size, 4, none⟩ = some (.slice (some ad) ks.length c4) := (blk_cell hbx3 4).trans rfl; clear hbx3; have hk03 := pw_cell_below HB3.out HC0.out; have hk13 := pw_cell_below HB3.out HC1.out; have hk23 := pw_cell_below HB3.out HC2.out; have hk33 := pw_cell_below HB3.out HC3.out; have hk43 := pw_cell_below HB3.out HC4.out; have hn03 := pw_cell_below HB3.out HN0.out; have hn13 := pw_cell_below HB3.out HN1.out) | (go_at_call 23; refine (IH.out (rd_T28 ks (j : Int)) HKD.out text _ x1 _ wB _ B3 d3 B4 d4 HB3.out HO3.out HG3.out HG4.out HX1.out (by have := HF.out; have := HL.out; have := HRL.out; simp at *; omega)).mono ?_; rintro e w9 ⟨v9, rfl, hob9, hb9, hkp9⟩; have HO9 := Aside0.mk hob9; have HB9 := Aside0.mk hb9; have HK9 := Aside0.mk (HK3.out.trans hkp9); clear hob9 hb9 hkp9; clear hca3 hcd3 hce3 hk03 hk13 hk23 hk33 hk43 hn03 hn13))
              go_roundw
              case rel =>
                refine ⟨j + 1, done ++ [44] ++ Kit.nums (text.extract (rd_T55 ns (j : Int)).f0.toNat (rd_T55 ns (j : Int)).f1.toNat) ++ [58] ++ x1, r1, by omega, by go_num, ⟨by simpa using HR1.out⟩, ⟨?_⟩, ⟨?_⟩, HB9, HK9⟩
                · rw [← HD.out, HE1.out]
                  have hj0 : (j == 0) = false := by rw [beq_eq_false_iff_ne]; omega
                  rw [hj0]
                  simp
                · simpa using HO9.out
              case measure => simp [intOf]; omega
        · have hdn := bares_end HR.out (by omega)
          have HDN := Aside0.mk hdn
          clear hdn
          go_wp2_with (at_builtin; refine Kit.wpList_append_obg rfl (.tmp 75) (.tmp 77) 39 39 rfl Try.underlying39 hi5 hz5 hsz5 hby5 _ _ rfl (HOr.out.alloc _) (HBr.out.alloc HBr.out.size _).size _ [125] rfl (Kit.src_lit Try.underlying39 [125] (heap_alloc_new _ _) rfl) (by have := HF.out; have := HL.out; simp; omega) ?_; intro v1 w1 hob1 hgr1 hat1; have HB1 := Aside0.mk ((HBr.out.alloc HBr.out.size _).grown hgr1 (HBr.out.alloc HBr.out.size _).size (fun k hk => (HOr.out.lt k hk).1)); have HO1 := Aside0.mk hob1; have HK1 := Aside0.mk ((HKr.out.alloc _).grown hgr1 hat1); clear hob1 hgr1 hat1)
          go_ret
          refine ⟨_, rfl, ?_, HB1.out, (Kit.Keeps.alloc (Kit.Keeps.refl w v) _).trans HK1.out⟩
          have hd := HD.out
          rw [HDN.out, List.append_nil] at hd
          rw [← hd]
          simpa using HO1.out
    · have h5 : kind = 5 := Classical.byContradiction fun e => hk ⟨e, h6⟩
      subst h5
      rw [if_neg hk] at hx
      obtain ⟨X, hX, hx⟩ := Option.bind_eq_some_iff.mp hx
      have hx' : x = 91 :: X ++ [93] := by
        simp at hx
        rw [← hx]
        rfl
      have HX := Lib.hid hX
      subst hx'
      clear hk hx hX h6
      have hF : out.length + X.length + 2 ≤ 140737488355327 := by
        have := HF.out
        simp at this
        omega
      replace HF := Aside0.mk hF
      clear hF
      go_enter Try.func23, Try.ntmps23
      go_wp2_with (at_builtin; refine Kit.wpList_append_obg rfl (.tmp 29) (.tmp 31) 39 39 rfl Try.underlying39 hi5 hz5 hsz5 hby5 _ _ rfl ((HO.out.alloc _).alloc _) ((HB.out.alloc HB.out.size _).alloc (HB.out.alloc HB.out.size _).size _).size _ [91] rfl (Kit.src_lit Try.underlying39 [91] (new_at _ _ _) rfl) (by have := HF.out; simp; omega) ?_; intro v1 w1 hob1 hgr1 hat1; have HB1 := Aside0.mk (((HB.out.alloc HB.out.size _).alloc (HB.out.alloc HB.out.size _).size _).grown hgr1 ((HB.out.alloc HB.out.size _).alloc (HB.out.alloc HB.out.size _).size _).size (fun k hk => (HO.out.lt k hk).1)); have HO1 := Aside0.mk hob1; have HK1 := Aside0.mk (((Kit.Keeps.refl (w.alloc (.cells #[.int .i64 5, .int .i64 b, .int .i64 e, .slice A3 ns.length c3, .slice A4 ks.length c4] 28)) v).alloc _).grown hgr1 hat1); clear hob1 hgr1 hat1; have hbx1 := box_blk HK1.out (fun k hk => (HO.out.lt k hk).2) (heap_alloc_new w _); have hca1 : w1.cell? ⟨w.heap.size, 0, none⟩ = some (.int .i64 5) := (blk_cell hbx1 0).trans rfl; have hcd1 : w1.cell? ⟨w.heap.size, 3, none⟩ = some (.slice A3 ns.length c3) := (blk_cell hbx1 3).trans rfl; have hce1 : w1.cell? ⟨w.heap.size, 4, none⟩ = some (.slice A4 ks.length c4) := (blk_cell hbx1 4).trans rfl; clear hbx1)
      clear hca1 hcd1 hce1
      go_loopw [0, 9, 36] (fun v' kv iv wr => ∃ (j : Nat) (done rest : List Int), j ≤ ks.length ∧ iv = .int .i64 j ∧ Aside0 (bares (Kit.nums text) false (ns.drop j) (ks.drop j) (j == 0) = some rest) ∧ Aside0 (done ++ rest = X) ∧ Aside0 (Kit.OB wB.heap.size wr v' (out ++ 91 :: done)) ∧ Aside0 (Below wB.heap.size wB wr) ∧ Aside0 (Kit.Keeps (w.alloc (.cells #[.int .i64 5, .int .i64 b, .int .i64 e, .slice A3 ns.length c3, .slice A4 ks.length c4] 28)) wr v v')) (fun _ _ iv _ => ks.length - (intOf iv).toNat)
      case atStart => exact ⟨0, [], X, Nat.zero_le _, rfl, ⟨HX.out⟩, ⟨rfl⟩, HO1, HB1, HK1⟩
      case round =>
        clear HO1 HB1 HK1 HX
        obtain ⟨j, done, rest, hj, rfl, HR, HD, HOr, HBr, HKr⟩ := hrel
        have HL := Aside0.mk (show done.length + rest.length = X.length by rw [← HD.out, List.length_append])
        have hmx : ks.length ≤ 9223372036854775807 := HR4.out.2.1
        by_cases hlt : j < ks.length
        · obtain ⟨x1, r1, hx1, hr1, he1⟩ := bares_arr HR.out hlt
          have HKD := Aside0.mk (kid_small HM.out hlt)
          obtain ⟨ad, B3, d3, B4, d4, eA, k0, k1, k2, k3, k4, l3, g3, l4, g4⟩ := at_T28 HR4.out (j : Int) (by omega) (by omega)
          subst eA
          simp only [Int.toNat_natCast] at k0 k1 k2 k3 k4
          have HC0 := Aside0.mk k0
          have HC1 := Aside0.mk k1
          have HC2 := Aside0.mk k2
          have HC3 := Aside0.mk k3
          have HC4 := Aside0.mk k4
          have HG3 := Aside0.mk g3
          have HG4 := Aside0.mk g4
          have HX1 := Aside0.mk hx1
          have HR1 := Aside0.mk hr1
          have HE1 := Aside0.mk he1
          clear k0 k1 k2 k3 k4 g3 g4 hx1 hr1 he1
          by_cases hj0 : j = 0
          · have hneg : ¬ ((0 : Int) < (j : Int)) := by omega
            have hjt : (j == 0) = true := by rw [beq_iff_eq]; exact hj0
            have HJT := Aside0.mk hjt
            clear hjt hj0
            have hRL : rest.length = x1.length + r1.length := by
              rw [HE1.out, HJT.out]
              simp
            have HRL := Aside0.mk hRL
            clear hRL
            have hbxr := box_blk HKr.out (fun k hk => (HO.out.lt k hk).2) (heap_alloc_new w _)
            have hcar := (blk_cell hbxr 0).trans (show _ = some (.int .i64 5) from rfl)
            have hcdr := (blk_cell hbxr 3).trans (show _ = some (.slice A3 ns.length c3) from rfl)
            have hcer := (blk_cell hbxr 4).trans (show _ = some (.slice (some ad) ks.length c4) from rfl)
            clear hbxr
            have hk0r := pw_cell_below HBr.out HC0.out
            have hk1r := pw_cell_below HBr.out HC1.out
            have hk2r := pw_cell_below HBr.out HC2.out
            have hk3r := pw_cell_below HBr.out HC3.out
            have hk4r := pw_cell_below HBr.out HC4.out
            go_wp2_with ((go_at_call 23; refine (IH.out (rd_T28 ks (j : Int)) HKD.out text _ x1 _ wB _ B3 d3 B4 d4 HBr.out HOr.out HG3.out HG4.out HX1.out (by have := HF.out; have := HL.out; have := HRL.out; simp at *; omega)).mono ?_; rintro e w9 ⟨v9, rfl, hob9, hb9, hkp9⟩; have HO9 := Aside0.mk hob9; have HB9 := Aside0.mk hb9; have HK9 := Aside0.mk (HKr.out.trans hkp9); clear hob9 hb9 hkp9; clear hcar hcdr hcer hk0r hk1r hk2r hk3r hk4r))
            go_roundw
            case rel =>
              refine ⟨j + 1, done ++ x1, r1, by omega, by go_num, ⟨by simpa using HR1.out⟩, ⟨?_⟩, ⟨?_⟩, HB9, HK9⟩
              · rw [← HD.out, HE1.out]
                rw [HJT.out]
                simp
              · simpa using HO9.out
            case measure => simp [intOf]; omega
          · have hpos : (0 : Int) < (j : Int) := by omega
            have hRL : rest.length = 1 + x1.length + r1.length := by
              have hj0 : (j == 0) = false := by rw [beq_eq_false_iff_ne]; omega
              rw [HE1.out, hj0]
              simp; omega
            have HRL := Aside0.mk hRL
            clear hRL
            have hbxr := box_blk HKr.out (fun k hk => (HO.out.lt k hk).2) (heap_alloc_new w _)
            have hcar := (blk_cell hbxr 0).trans (show _ = some (.int .i64 5) from rfl)
            have hcdr := (blk_cell hbxr 3).trans (show _ = some (.slice A3 ns.length c3) from rfl)
            have hcer := (blk_cell hbxr 4).trans (show _ = some (.slice (some ad) ks.length c4) from rfl)
            clear hbxr
            have hk0r := pw_cell_below HBr.out HC0.out
            have hk1r := pw_cell_below HBr.out HC1.out
            have hk2r := pw_cell_below HBr.out HC2.out
            have hk3r := pw_cell_below HBr.out HC3.out
            have hk4r := pw_cell_below HBr.out HC4.out
            go_wp2_with (first | (at_builtin; refine Kit.wpList_append_obg rfl (.tmp 41) (.tmp 42) 39 39 rfl Try.underlying39 hi5 hz5 hsz5 hby5 _ _ rfl (HOr.out.alloc _) (HBr.out.alloc HBr.out.size _).size _ [44] rfl (Kit.src_lit Try.underlying39 [44] (heap_alloc_new _ _) rfl) (by have := HF.out; have := HL.out; have := HRL.out; simp at *; omega) ?_; intro v1 w1 hob1 hgr1 hat1; have HB1 := Aside0.mk ((HBr.out.alloc HBr.out.size _).grown hgr1 (HBr.out.alloc HBr.out.size _).size (fun k hk => (HOr.out.lt k hk).1)); have HO1 := Aside0.mk hob1; have HK1 := Aside0.mk ((HKr.out.alloc _).grown hgr1 hat1); clear hob1 hgr1 hat1; clear hcar hcdr hcer hk0r hk1r hk2r hk3r hk4r; have hbx1 := box_blk HK1.out (fun k hk => (HO.out.lt k hk).2) (heap_alloc_new w _); have hca1 : w1.cell? ⟨w.heap.size, 0, none⟩ = some (.int .i64 5) := (blk_cell hbx1 0).trans rfl; have hcd1 : w1.cell? ⟨w.heap.size, 3, none⟩ = some (.slice A3 ns.length c3) := (blk_cell hbx1 3).trans rfl; have hce1 : w1.cell? ⟨w.heap.size, 4, none⟩ = some (.slice (some ad) ks.length c4) := (blk_cell hbx1 4).trans rfl; clear hbx1; have hk01 := pw_cell_below HB1.out HC0.out; have hk11 := pw_cell_below HB1.out HC1.out; have hk21 := pw_cell_below HB1.out HC2.out; have hk31 := pw_cell_below HB1.out HC3.out; have hk41 := pw_cell_below HB1.out HC4.out) | (go_at_call 23; refine (IH.out (rd_T28 ks (j : Int)) HKD.out text _ x1 _ wB _ B3 d3 B4 d4 HB1.out HO1.out HG3.out HG4.out HX1.out (by have := HF.out; have := HL.out; have := HRL.out; simp at *; omega)).mono ?_; rintro e w9 ⟨v9, rfl, hob9, hb9, hkp9⟩; have HO9 := Aside0.mk hob9; have HB9 := Aside0.mk hb9; have HK9 := Aside0.mk (HK1.out.trans hkp9); clear hob9 hb9 hkp9; clear hca1 hcd1 hce1 hk01 hk11 hk21 hk31 hk41))
            go_roundw
            case rel =>
              refine ⟨j + 1, done ++ [44] ++ x1, r1, by omega, by go_num, ⟨by simpa using HR1.out⟩, ⟨?_⟩, ⟨?_⟩, HB9, HK9⟩
              · rw [← HD.out, HE1.out]
                have hj0 : (j == 0) = false := by rw [beq_eq_false_iff_ne]; omega
                rw [hj0]
                simp
              · simpa using HO9.out
            case measure => simp [intOf]; omega
        · have hdn := bares_end HR.out (by omega)
          have HDN := Aside0.mk hdn
          clear hdn
          go_wp2_with (at_builtin; refine Kit.wpList_append_obg rfl (.tmp 75) (.tmp 77) 39 39 rfl Try.underlying39 hi5 hz5 hsz5 hby5 _ _ rfl (HOr.out.alloc _) (HBr.out.alloc HBr.out.size _).size _ [93] rfl (Kit.src_lit Try.underlying39 [93] (heap_alloc_new _ _) rfl) (by have := HF.out; have := HL.out; simp; omega) ?_; intro v1 w1 hob1 hgr1 hat1; have HB1 := Aside0.mk ((HBr.out.alloc HBr.out.size _).grown hgr1 (HBr.out.alloc HBr.out.size _).size (fun k hk => (HOr.out.lt k hk).1)); have HO1 := Aside0.mk hob1; have HK1 := Aside0.mk ((HKr.out.alloc _).grown hgr1 hat1); clear hob1 hgr1 hat1)
          go_ret
          refine ⟨_, rfl, ?_, HB1.out, (Kit.Keeps.alloc (Kit.Keeps.refl w v) _).trans HK1.out⟩
          have hd := HD.out
          rw [HDN.out, List.append_nil] at hd
          rw [← hd]
          simpa using HO1.out

def spec_Bare.f (a0 : ByteArray) (a1_0 a1_1 a1_2 : Int) (l1_3 : List S55) (l1_4 : List S28) : Option ByteArray :=
  (bare (Kit.nums a0) ⟨a1_0, a1_1, a1_2, l1_3, l1_4⟩).bind fun x => if x.length ≤ 140737488355327 then some (strOfNums x) else none
set_option maxHeartbeats 4000000 in
theorem spec_Bare.calls (a0 : ByteArray) (a1_0 : Int) (a1_1 : Int) (a1_2 : Int) (A1_3 : Option Addr) (c1_3 : Nat) (l1_3 : List S55) (A1_4 : Option Addr) (c1_4 : Nat) (l1_4 : List S28) (r : ByteArray) (w : World)
    (hr1_3 : Kd.C k55 w A1_3 l1_3.length l1_3) (hc1_3 : l1_3.length ≤ c1_3) (hr1_4 : Kd.C k28 w A1_4 l1_4.length l1_4) (hc1_4 : l1_4.length ≤ c1_4) (h : spec_Bare.f a0 a1_0 a1_1 a1_2 l1_3 l1_4 = some r) :
    Calls Try.prog 12 #[.string a0, .agg #[.int .i64 a1_0, .int .i64 a1_1, .int .i64 a1_2, .slice A1_3 l1_3.length c1_3, .slice A1_4 l1_4.length c1_4]] w fun e w' => e = .returned (.string r) ∧ Below w.heap.size w w' := by
  unfold spec_Bare.f at h
  obtain ⟨x, hx, h⟩ := Option.bind_eq_some_iff.mp h
  split at h
  · rename_i hl
    injection h with h
    subst h
    have hu1 := Try.underlying28
    have HX := Lib.hid hx
    have HL := Lib.hid hl
    have HR3 := Aside0.mk hr1_3
    have HR4 := Aside0.mk hr1_4
    clear hx hl hr1_3 hr1_4
    go_enter Try.func12, Try.ntmps12
    go_wp2_with (go_at_call 23; refine (bareTo_walk _ ⟨a1_0, a1_1, a1_2, l1_3, l1_4⟩ (Nat.lt_succ_self _) a0 [] x _ w _ A1_3 c1_3 A1_4 c1_4 (below_alloc (Below.refl _ _) _) (Kit.OB.nil _ _) HR3.out HR4.out HX.out (by have := HL.out; simp; omega)).mono ?_; rintro e w1 ⟨v1, rfl, hob, hb, _⟩; rw [List.nil_append] at hob; have hcv := hob.str (P := Try.prog) (src := 39) (dst := 9) Try.underlying39 Try.underlying5 Try.underlying9 (by have := HL.out; omega); clear hob)
    go_ret
    exact ⟨rfl, hb⟩
  · cases h

end Go.Proofs.Ytbppoiedaojjmaa.PFnPrUglyInPlace
