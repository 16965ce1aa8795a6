/- Written by a program of this session (a turned copy of the print) out of the translation. -/
import Derived.Test.YtbppoiedaojjmaaPFnGjFoldx0
import Derived.Test.YtbppoiedaojjmaaPFnGjFoldx1
namespace Go.Proofs.Ytbppoiedaojjmaa.PFnGjFold
open Go.RowKit Go.Proofs.YtbppoiedaojjmaaW.PrintWords Go.Proofs.YtbppoiedaojjmaaW.PrintLast Go.Proofs.YtbppoiedaojjmaaW.PrintMore
attribute [local go_sem] max2_int min2_int max_two min_two max_three min_three max_four min_four   -- for this text's walks alone
set_option linter.unusedVariables false
set_option linter.unusedSimpArgs false

/-! ### gjson_DoorLess: function 30 -/
def gjson_DoorLess.f (k : Nat) (a0 : ByteArray) (a1 : ByteArray) : Option (Bool) := (gjson_stringLessInsensitive.f k a0 a1).bind fun t101 => (some t101)
theorem gjson_DoorLess.mono : ∀ a0 a1 k, LeO (gjson_DoorLess.f k a0 a1) (gjson_DoorLess.f (k + 1) a0 a1) := by
  intro a0 a1 k
  unfold gjson_DoorLess.f
  repeat' first
      | (with_reducible exact gjson_stringLessInsensitive.mono _ _ _)
      | (with_reducible exact LeO.refl _)
      | (with_reducible exact LeO.none _)
      | (with_reducible refine LeO.ite ?_ ?_)
      | (with_reducible refine LeO.bind ?_ (fun _ => ?_))
      | exact gjson_stringLessInsensitive.mono _ _ _
      | exact LeO.none _
      | refine LeO.ite ?_ ?_
      | refine LeO.bind ?_ (fun _ => ?_)
set_option maxHeartbeats 8000000 in
set_option maxRecDepth 100000 in
theorem gjson_DoorLess.calls (k : Nat) (a0 : ByteArray) (a1 : ByteArray) (r : Bool) (w : World) (h : gjson_DoorLess.f k a0 a1 = some r) :
    Calls Try.prog 30 #[.string a0, .string a1] w fun e w' => e = .returned (.bool r) ∧ Drawn0 w w' := by
  have H : ((gjson_stringLessInsensitive.f k a0 a1).bind fun t101 => (some t101)) = some r := h
  clear h
  replace H := Option.bind_eq_some_iff.mp H
  obtain ⟨t101, A30, H⟩ := H
  replace H : (some t101) = some r := H
  have A3 := Aside0.mk A30
  clear A30
  obtain rfl := Option.some.inj H
  go_enter Try.func30, Try.ntmps30
  go_wp2_with (first | ((with_reducible refine gate_callee (f := 38) rfl ?_); refine goesL_ (some 7) rfl rfl Try.func38 (by kernel_rfl) rfl #[.string a0, .string a1] rfl (by (try simp only [List.map_toArray, List.map_cons, List.map_nil]); first | done | rfl | (simp only [List.length_drop, List.length_take]; rfl)) ?_; (with_reducible refine (gjson_stringLessInsensitive.calls k a0 a1 t101 _ A3.out).mono ?_); rintro e w' ⟨rfl, ⟨nd, rfl⟩⟩; refine ⟨_, rfl, ?_⟩))
  go_ret
  exact ⟨by first | rfl | (simp; done) | (simp [*]; done), by repeat (first | exact Drawn0.refl _ | apply Drawn0.step)⟩

/-! ### impl_GjLessFold: function 18 -/
def impl_GjLessFold.f (k : Nat) (a0 : ByteArray) (a1 : ByteArray) : Option (Bool) := (gjson_DoorLess.f k a0 a1).bind fun t102 => (some t102)
theorem impl_GjLessFold.mono : ∀ a0 a1 k, LeO (impl_GjLessFold.f k a0 a1) (impl_GjLessFold.f (k + 1) a0 a1) := by
  intro a0 a1 k
  unfold impl_GjLessFold.f
  repeat' first
      | (with_reducible exact gjson_DoorLess.mono _ _ _)
      | (with_reducible exact LeO.refl _)
      | (with_reducible exact LeO.none _)
      | (with_reducible refine LeO.ite ?_ ?_)
      | (with_reducible refine LeO.bind ?_ (fun _ => ?_))
      | exact gjson_DoorLess.mono _ _ _
      | exact LeO.none _
      | refine LeO.ite ?_ ?_
      | refine LeO.bind ?_ (fun _ => ?_)
set_option maxHeartbeats 8000000 in
set_option maxRecDepth 100000 in
theorem impl_GjLessFold.calls (k : Nat) (a0 : ByteArray) (a1 : ByteArray) (r : Bool) (w : World) (h : impl_GjLessFold.f k a0 a1 = some r) :
    Calls Try.prog 18 #[.string a0, .string a1] w fun e w' => e = .returned (.bool r) ∧ Drawn0 w w' := by
  have H : ((gjson_DoorLess.f k a0 a1).bind fun t102 => (some t102)) = some r := h
  clear h
  replace H := Option.bind_eq_some_iff.mp H
  obtain ⟨t102, A30, H⟩ := H
  replace H : (some t102) = some r := H
  have A3 := Aside0.mk A30
  clear A30
  obtain rfl := Option.some.inj H
  go_enter Try.func18, Try.ntmps18
  go_wp2_with (first | ((with_reducible refine gate_callee (f := 30) rfl ?_); refine goesL_ (some 7) rfl rfl Try.func30 (by kernel_rfl) rfl #[.string a0, .string a1] rfl (by (try simp only [List.map_toArray, List.map_cons, List.map_nil]); first | done | rfl | (simp only [List.length_drop, List.length_take]; rfl)) ?_; (with_reducible refine (gjson_DoorLess.calls k a0 a1 t102 _ A3.out).mono ?_); rintro e w' ⟨rfl, ⟨nd, rfl⟩⟩; refine ⟨_, rfl, ?_⟩))
  go_ret
  exact ⟨by first | rfl | (simp; done) | (simp [*]; done), by repeat (first | exact Drawn0.refl _ | apply Drawn0.step)⟩

/-! spec.Small, walked by hand -/
def smallN (x : Int) : Int := if 65 ≤ x ∧ x ≤ 90 then x + 32 else x
def St (L : List Int) (k : Nat) : List Int := (L.take k).map smallN ++ L.drop k
theorem St_len (L : List Int) (k : Nat) (hk : k ≤ L.length) : (St L k).length = L.length := by simp [St]; omega
theorem St_get (L : List Int) (k : Nat) (hk : k < L.length) : (St L k).getD k 0 = L.getD k 0 := by
  have h : ((L.take k).map smallN).length = k := by simp; omega
  simp only [St, List.getD]
  rw [List.getElem?_append_right (by omega), h, Nat.sub_self, List.getElem?_drop, Nat.add_zero]
theorem St_succ (L : List Int) (k : Nat) (hk : k < L.length) : St L (k + 1) = (St L k).set k (smallN (L.getD k 0)) := by
  have h : ((L.take k).map smallN).length = k := by simp; omega
  have hd : L.drop k = L[k] :: L.drop (k + 1) := List.drop_eq_getElem_cons hk
  unfold St
  rw [List.take_succ_eq_append_getElem hk, List.set_append_right _ _ (by omega), h, Nat.sub_self, hd, List.set_cons_zero, List.map_append, List.append_assoc]
  simp only [List.getD, List.getElem?_eq_getElem hk, Option.getD_some, List.map_cons, List.map_nil, List.singleton_append]
theorem St_same (L : List Int) (k : Nat) (hk : k < L.length) (hx : smallN (L.getD k 0) = L.getD k 0) : St L (k + 1) = St L k := by
  rw [St_succ L k hk, hx]
  apply List.ext_getElem (by simp)
  intro i h1 h2
  rw [List.getElem_set]
  split
  · rename_i e
    subst e
    have := St_get L k hk
    rw [List.getD_eq_getElem?_getD, List.getElem?_eq_getElem (by rw [St_len _ _ (by omega)]; exact hk)] at this
    exact this.symm
  · rfl

theorem spec_Small.walk (s : ByteArray) (w : World) (hs : s.size ≤ 140737488351232) :
    Calls Try.prog 19 #[.string s] w fun e w' => e = .returned (.string (strOfNums ((s.data.toList.map fun c => (c.toNat : Int)).map smallN))) ∧ Below w.heap.size w w' := by
  have hu1 := Try.underlying9
  have hu2 := Try.underlying39
  have hu3 := Try.underlying5
  have hcv := Lib.run_convert_string_bytes (P := Try.prog) w 9 39 5 s Try.underlying9 Try.underlying39 Try.underlying5
  have hB0 := Kit.BB.conv w 5 s
  have hb0 := Kit.below_conv w 5 s
  generalize hL : (s.data.toList.map fun c => (c.toNat : Int)) = L at hB0 ⊢
  have hlen : L.length = s.size := by rw [← hL]; simp
  generalize hW : Lib.bytesWorld w 5 s = w1 at hcv hB0 hb0
  generalize hC : (Lib.bytesCells w 5 s).size = cap at hB0
  clear hL hW hC
  go_enter Try.func19, Try.ntmps19
  go_wp2
  go_loopw [10] (fun v wr => ∃ k : Nat, k ≤ s.size ∧ v = .int .i64 k ∧ Aside0 (Kit.BB wr w.heap.size 5 cap (St L k)) ∧ Aside0 (Below w.heap.size w wr)) (fun v _ => s.size - (intOf v).toNat)
  case atStart => exact ⟨0, Nat.zero_le _, rfl, ⟨by simpa [St] using hB0⟩, ⟨hb0⟩⟩
  case round =>
    clear hcv hB0 hb0
    obtain ⟨k, hk, rfl, HB, HW⟩ := hrel
    by_cases hlt : k < s.size
    · obtain ⟨x, hx⟩ : ∃ x, L.getD k 0 = x := ⟨_, rfl⟩
      have hll := St_len L k (by omega)
      have hc := HB.out.cell k (by omega)
      have hf := HB.out.frozen k (by obtain ⟨cs, lo, hi, h1, h2, h3, h4, h5⟩ := HB.out; omega)
      have hg := St_get L k (by omega)
      rw [hx] at hg
      rw [hg] at hc
      clear hg hll
      have HX := Aside0.mk hx
      clear hx
      by_cases h1 : 65 ≤ x
      · by_cases h2 : x ≤ 90
        · go_wp2
          go_roundw
          case rel => exact ⟨k + 1, by omega, by go_num, ⟨by rw [St_succ L k (by omega), HX.out, smallN, if_pos ⟨h1, h2⟩]; exact HB.out.set k (by rw [St_len L k (by omega)]; omega) _⟩, ⟨HW.out.setCell (Nat.le_refl _) _⟩⟩
          case measure => simp [intOf]; omega
        · go_wp2
          go_roundw
          case rel => exact ⟨k + 1, by omega, by go_num, ⟨by rw [St_same L k (by omega) (by rw [HX.out, smallN, if_neg (by omega)])]; exact HB.out⟩, HW⟩
          case measure => simp [intOf]; omega
      · go_wp2
        go_roundw
        case rel => exact ⟨k + 1, by omega, by go_num, ⟨by rw [St_same L k (by omega) (by rw [HX.out, smallN, if_neg (by omega)])]; exact HB.out⟩, HW⟩
        case measure => simp [intOf]; omega
    · obtain rfl : k = s.size := by omega
      have hst := HB.out.str (P := Try.prog) (src := 39) (dst := 9) (c := grownCap w s.size 0 5) Try.underlying39 Try.underlying5 Try.underlying9
      have he : St L s.size = L.map smallN := by rw [← hlen]; simp [St]
      rw [he, List.length_map, hlen] at hst
      replace hst := hst (by omega)
      clear he
      go_wp2
      go_ret
      exact ⟨rfl, HW.out⟩

def spec_Small.f (a0 : ByteArray) : Option ByteArray := if a0.size ≤ 140737488351232 then some (strOfNums ((a0.data.toList.map fun c => (c.toNat : Int)).map smallN)) else none
theorem spec_Small.calls (a0 : ByteArray) (r : ByteArray) (w : World) (h : spec_Small.f a0 = some r) :
    Calls Try.prog 19 #[.string a0] w fun e w' => e = .returned (.string r) ∧ Below w.heap.size w w' := by
  unfold spec_Small.f at h
  split at h
  · rename_i hs
    injection h with h
    subst h
    exact spec_Small.walk a0 w hs
  · cases h

/-! ### laws_FnGjFold: function 8 -/
def laws_FnGjFold.j0 : Nat → ByteArray → ByteArray → Bool → Option (Bool)
  | 0, _, _, _ => none
  | k + 1, x0, x1, x12 => if x12 = true then (some true) else ((impl_GjLessFold.f k x0 x1).bind fun t103 => ((spec_Small.f x0).bind fun t104 => ((spec_Small.f x1).bind fun t105 => (some (t103 == (Op.bytesLess t104.toList t105.toList))))))
def laws_FnGjFold.f (k : Nat) (a0 : ByteArray) (a1 : ByteArray) : Option (Bool) := if (a0.size : Int) > 2147483647 then (laws_FnGjFold.j0 k a0 a1 true) else (laws_FnGjFold.j0 k a0 a1 (decide ((a1.size : Int) > 2147483647)))
theorem laws_FnGjFold.mono_l : ∀ k, (∀ y0 y1 y2, LeO (laws_FnGjFold.j0 k y0 y1 y2) (laws_FnGjFold.j0 (k + 1) y0 y1 y2))
  | 0 => fun _ _ _ r h => by simp [laws_FnGjFold.j0] at h
  | k + 1 => by
    have ih0 := laws_FnGjFold.mono_l k
    · intro y0 y1 y2
      unfold laws_FnGjFold.j0
      repeat' first
      | (with_reducible exact ih0 _ _ _)
      | (with_reducible exact impl_GjLessFold.mono _ _ _)
      | (with_reducible exact LeO.refl _)
      | (with_reducible exact LeO.none _)
      | (with_reducible refine LeO.ite ?_ ?_)
      | (with_reducible refine LeO.bind ?_ (fun _ => ?_))
      | exact ih0 _ _ _
      | exact impl_GjLessFold.mono _ _ _
      | exact LeO.none _
      | refine LeO.ite ?_ ?_
      | refine LeO.bind ?_ (fun _ => ?_)
theorem laws_FnGjFold.mono : ∀ a0 a1 k, LeO (laws_FnGjFold.f k a0 a1) (laws_FnGjFold.f (k + 1) a0 a1) := by
  intro a0 a1 k
  have ih0 := laws_FnGjFold.mono_l k
  unfold laws_FnGjFold.f
  repeat' first
      | (with_reducible exact ih0 _ _ _)
      | (with_reducible exact impl_GjLessFold.mono _ _ _)
      | (with_reducible exact LeO.refl _)
      | (with_reducible exact LeO.none _)
      | (with_reducible refine LeO.ite ?_ ?_)
      | (with_reducible refine LeO.bind ?_ (fun _ => ?_))
      | exact ih0 _ _ _
      | exact impl_GjLessFold.mono _ _ _
      | exact LeO.none _
      | refine LeO.ite ?_ ?_
      | refine LeO.bind ?_ (fun _ => ?_)
set_option maxHeartbeats 8000000 in
set_option maxRecDepth 100000 in
theorem laws_FnGjFold.calls (k : Nat) (a0 : ByteArray) (a1 : ByteArray) (r : Bool) (w : World) (h : laws_FnGjFold.f k a0 a1 = some r) :
    Calls Try.prog 8 #[.string a0, .string a1] w fun e w' => e = .returned (.bool r) ∧ Below w.heap.size w w' := by
  have HB := Aside0.mk (Below.refl w.heap.size w)
  have H : (if (a0.size : Int) > 2147483647 then (laws_FnGjFold.j0 k a0 a1 true) else (laws_FnGjFold.j0 k a0 a1 (decide ((a1.size : Int) > 2147483647)))) = some r := h
  clear h
  have HC3 := Aside0.mk H
  clear H
  go_enter Try.func8, Try.ntmps8
  go_upto_region 1 with (fail)
  go_cut [12] (fun v12 wc => ∃ (kq : Nat) (x12_2 : Bool), v12 = .bool x12_2 ∧ Aside0 (laws_FnGjFold.j0 kq a0 a1 x12_2 = some r) ∧ Aside0 (kq ≤ k) ∧ Aside0 (Below w.heap.size w wc))
  case first =>
    have H := HC3.out
    clear HC3
    by_cases c4 : (a0.size : Int) > 2147483647
    · rw [if_pos c4] at H
      have c4b0 : decide (2147483647 < (a0.size : Int)) = true := decide_eq_true c4
      have c4b1 : decide (2147483647 < a0.size) = true := decide_eq_true (by omega)
      clear c4
      (first | rw [c4b0] | (simp only [i64_w, i32_w]; rw [c4b0]) | skip)
      have H' := Aside0.mk H
      clear H
      go_wp2
      go_meet
      case rel => exact ⟨_, (true), (by first | rfl | (simp; done) | (simp [*]; done)), H', ⟨by first | omega | exact Nat.le_refl _⟩, ⟨by repeat (first | (with_reducible first | exact HB.out | apply below_alloc | apply pw_below_drewN | apply below_drew1) | exact HB.out)⟩⟩
    · rw [if_neg c4] at H
      have c4b0 : decide (2147483647 < (a0.size : Int)) = false := decide_eq_false c4
      have c4b1 : decide (2147483647 < a0.size) = false := decide_eq_false (by omega)
      clear c4
      (first | rw [c4b0] | (simp only [i64_w, i32_w]; rw [c4b0]) | skip)
      have H' := Aside0.mk H
      clear H
      go_wp2
      go_meet
      case rel => exact ⟨_, (decide ((a1.size : Int) > 2147483647)), (by first | rfl | (simp; done) | (simp [*]; done)), H', ⟨by first | omega | exact Nat.le_refl _⟩, ⟨by repeat (first | (with_reducible first | exact HB.out | apply below_alloc | apply pw_below_drewN | apply below_drew1) | exact HB.out)⟩⟩
  case rest =>
    clear HC3
    try clear p2
    try clear c4
    try clear c4b0
    try clear c4b1
    obtain ⟨kq, x12_2, rfl, HA, HJ2, HB⟩ := hcut
    cases kq with
    | zero => exact absurd HA.out (by simp [laws_FnGjFold.j0])
    | succ kj2 =>
      have H := HA.out
      clear HA
      simp only [laws_FnGjFold.j0] at H
      by_cases c5 : x12_2 = true
      · subst c5
        have H1 : (some true) = some r := by rw [if_pos rfl] at H; exact H
        clear H
        have H := H1
        clear H1
        obtain rfl := Option.some.inj H
        go_wp2
        go_ret
        exact ⟨by first | rfl | (simp [errW_none, errW_some] <;> rfl) | (simp [*, errW_none, errW_some] <;> rfl), by repeat (first | (with_reducible first | exact HB.out | apply below_alloc | apply pw_below_drewN | apply below_drew1) | exact HB.out)⟩
      · replace c5 := Bool.eq_false_iff.mpr c5
        subst c5
        have H1 : ((impl_GjLessFold.f kj2 a0 a1).bind fun t103 => ((spec_Small.f a0).bind fun t104 => ((spec_Small.f a1).bind fun t105 => (some (t103 == (Op.bytesLess t104.toList t105.toList)))))) = some r := by rw [if_neg (show ¬ (false = true) by decide)] at H; exact H
        clear H
        have H := H1
        clear H1
        replace H := Option.bind_eq_some_iff.mp H
        obtain ⟨t103, A60, H⟩ := H
        replace H : ((spec_Small.f a0).bind fun t104 => ((spec_Small.f a1).bind fun t105 => (some (t103 == (Op.bytesLess t104.toList t105.toList))))) = some r := H
        have A6 := Aside0.mk A60
        clear A60
        replace H := Option.bind_eq_some_iff.mp H
        obtain ⟨t104, A70, H⟩ := H
        replace H : ((spec_Small.f a1).bind fun t105 => (some (t103 == (Op.bytesLess t104.toList t105.toList)))) = some r := H
        have A7 := Aside0.mk A70
        clear A70
        replace H := Option.bind_eq_some_iff.mp H
        obtain ⟨t105, A80, H⟩ := H
        replace H : (some (t103 == (Op.bytesLess t104.toList t105.toList))) = some r := H
        have A8 := Aside0.mk A80
        clear A80
        obtain rfl := Option.some.inj H
        go_wp2_with (first | ((with_reducible refine gate_callee (f := 18) rfl ?_); refine goesL_ (some 15) rfl rfl Try.func18 (by kernel_rfl) rfl #[.string a0, .string a1] rfl (by (try simp only [List.map_toArray, List.map_cons, List.map_nil]); first | done | rfl | (simp only [List.length_drop, List.length_take]; rfl)) ?_; (with_reducible refine (impl_GjLessFold.calls kj2 a0 a1 t103 _ A6.out).mono ?_); rintro e w' ⟨rfl, ⟨nd, rfl⟩⟩; refine ⟨_, rfl, ?_⟩) | ((with_reducible refine gate_callee (f := 19) rfl ?_); refine goesL_ (some 17) rfl rfl Try.func19 (by kernel_rfl) rfl #[.string a0] rfl (by (try simp only [List.map_toArray, List.map_cons, List.map_nil]); first | done | rfl | (simp only [List.length_drop, List.length_take]; rfl)) ?_; (with_reducible refine (spec_Small.calls a0 t104 _ A7.out).mono ?_); rintro e w9 ⟨rfl, hb⟩; refine ⟨_, rfl, ?_⟩; have n0_ := Aside0.mk (below_step (by repeat (first | (with_reducible first | exact HB.out | apply below_alloc | apply pw_below_drewN | apply below_drew1) | exact HB.out)) hb); clear HB; have HB := n0_; clear n0_; (try clear hb); (try clear hb2); (try clear hk); (try clear hi)) | ((with_reducible refine gate_callee (f := 19) rfl ?_); refine goesL_ (some 19) rfl rfl Try.func19 (by kernel_rfl) rfl #[.string a1] rfl (by (try simp only [List.map_toArray, List.map_cons, List.map_nil]); first | done | rfl | (simp only [List.length_drop, List.length_take]; rfl)) ?_; (with_reducible refine (spec_Small.calls a1 t105 _ A8.out).mono ?_); rintro e w10 ⟨rfl, hb⟩; refine ⟨_, rfl, ?_⟩; have n0_ := Aside0.mk (below_step (by repeat (first | (with_reducible first | exact HB.out | apply below_alloc | apply pw_below_drewN | apply below_drew1) | exact HB.out)) hb); clear HB; have HB := n0_; clear n0_; (try clear hb); (try clear hb2); (try clear hk); (try clear hi)))
        go_ret
        exact ⟨by first | rfl | (simp [errW_none, errW_some] <;> rfl) | (simp [*, errW_none, errW_some] <;> rfl), by repeat (first | (with_reducible first | exact HB.out | apply below_alloc | apply pw_below_drewN | apply below_drew1) | exact HB.out)⟩

/-- THE ONE PURE STATEMENT of laws_FnGjFold: yours. -/
def laws_FnGjFold.Pure : Prop := ∀ (a0 : ByteArray) (a1 : ByteArray), a0.size ≤ 140737488351232 → a1.size ≤ 140737488351232 → ∃ k, laws_FnGjFold.f k a0 a1 = some true
theorem laws_FnGjFold.walk (P : laws_FnGjFold.Pure) (a0 : ByteArray) (a1 : ByteArray) (w : World) (w0 : a0.size ≤ 140737488351232) (w1 : a1.size ≤ 140737488351232) :
    Calls Try.prog 8 #[.string a0, .string a1] w fun e w' => e = .returned (.bool true) ∧ Below w.heap.size w w' := by
  obtain ⟨k, h⟩ := P a0 a1 w0 w1
  refine (laws_FnGjFold.calls k a0 a1 true w h).mono ?_
  rintro e w' ⟨rfl, hd⟩
  exact ⟨rfl, hd⟩

end Go.Proofs.Ytbppoiedaojjmaa.PFnGjFold
