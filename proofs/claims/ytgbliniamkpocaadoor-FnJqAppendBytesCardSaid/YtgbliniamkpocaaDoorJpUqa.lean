/- The reference's reader of strings, walked by hand: appendUTF8, Unquote. -/
import Derived.Test.YtgbliniamkpocaaDoorG10
import Derived.Test.YtgbliniamkpocaaDoorG2
namespace Go.Proofs.YtgbliniamkpocaaDoor.Jp
open Go.RowKit Go.Proofs.YtgbliniamkpocaaDoorW.PrintWords Go.Proofs.YtgbliniamkpocaaDoor.Kit

theorem gate_builtin {P : Program} {ops : Array Oper} {rest : List Oper} {o : Oper} {a : Act} {W : World} {Q : Exit → Act → World → Prop} {b : Builtin} {xs : Array Operand} {ts : Array TypeId} (_ho : o.op = .call { callee := .builtin b, args := xs, argTypes := ts }) (h : wpList P ops Q (o :: rest) a W) : wpList P ops Q (o :: rest) a W := h
theorem info5 : (Tryd.prog.info? 5).map (fun i => (i.zero, i.size, i.bytes)) = some (some (.int .u8 0), 1, 1) := by kernel_rfl
/-- A row of bytes of the call's own. -/
def Bu (w0 w : World) (v : Value) (l : List Int) : Prop := Kd.R (Kd.int .u8) 5 w w0.heap.size (fun _ => True) v l ∧ Below w0.heap.size w0 w
theorem Bu.below {w0 w w1 : World} {v : Value} {l : List Int} (h : Bu w0 w v l) (hb : Below w.heap.size w w1) : Bu w0 w1 v l := ⟨Kd.R_below h.1 hb, below_step h.2 hb⟩
theorem Bu.drewN {w0 w : World} {v : Value} {l : List Int} (h : Bu w0 w v l) (n : Nat) : Bu w0 (w.drewN n) v l := h.below (pw_below_drewN (Below.refl _ _) n)
theorem lit_row (W : World) (ys : List Int) (hl : ys.length ≤ 9223372036854775807) : (Kd.int .u8).C (W.alloc (.cells (ys.map (Value.int .u8)).toArray 5)) (some ⟨W.heap.size, 0, none⟩) ys.length ys := by
  refine ⟨rfl, hl, fun _ => ⟨_, rfl, fun j p hp => ⟨[.int .u8 p], rfl, rfl, fun i u hu => ?_⟩⟩⟩
  cases i with
  | succ i => simp at hu
  | zero =>
    obtain rfl : Value.int .u8 p = u := by simpa using hu
    show (W.alloc _).cell? ((⟨W.heap.size, 0, none⟩ : Addr).add (j * 1 + 0)) = _
    have ha : (⟨W.heap.size, 0, none⟩ : Addr).add (j * 1 + 0) = ⟨W.heap.size, j, none⟩ := by unfold Addr.add; split <;> simp_all
    rw [ha]
    have hh : (W.alloc (.cells (ys.map (Value.int .u8)).toArray 5)).heap[W.heap.size]? = some (.cells (ys.map (Value.int .u8)).toArray 5 (0, 0)) := by show (W.heap.push _)[W.heap.size]? = _; simp
    unfold World.cell?
    rw [hh]
    simp [hp]
theorem app_lit {ops : Array Oper} {rest : List Oper} {o : Oper} {a : Act} {Q : Exit → Act → World → Prop} {w0 W : World} (hgd : o.guard = none) (s x : Operand)
    (ho : o.op = .call { callee := .builtin .append, args := #[s, x], argTypes := #[57, 57] }) (ys : List Int) (v : Value) (xs : List Int) (hs : a.eval s = v)
    (hx : a.eval x = .slice (some ⟨W.heap.size, 0, none⟩) ys.length ys.length) (hB : Bu w0 W v xs) (hl : xs.length + ys.length ≤ 140737488355328)
    (h : ∀ v1 w1, Bu w0 w1 v1 (xs ++ ys) → wpList Tryd.prog ops Q rest (a.put o.dst v1) w1) :
    wpList Tryd.prog ops Q (o :: rest) a (W.alloc (.cells (ys.map (Value.int .u8)).toArray 5)) := by
  have hB' := hB.below (w1 := W.alloc (.cells (ys.map (Value.int .u8)).toArray 5)) (below_alloc (Below.refl _ _) _)
  refine Kd.R_append_rows (Kd.int .u8) (w0 := w0) w0.heap.size hgd s x 57 5 (.int .u8 0) 1 ho Tryd.underlying57 info5 rfl (by decide) (by omega) v xs ys _ _ _ (fun _ => True) (fun _ => False) hs hx hB'.1 (lit_row W ys (by omega)) (fun _ _ h => h) (fun _ h => h.elim) (fun _ _ => trivial) hB'.2 (below_size hB'.2) (by omega) ?_
  intro v1 w1 ho hb _ _
  exact h v1 w1 ⟨ho, hb⟩
set_option maxHeartbeats 8000000 in
set_option maxRecDepth 100000 in
theorem app8_c (c : Int) (w0 w : World) (v : Value) (l : List Int) (hB : Bu w0 w v l) (hl : l.length + 4 ≤ 140737488355328) (h0 : 0 ≤ c) (h1 : c ≤ 1114111) :
    Calls Tryd.prog 54 #[v, .int .i64 c] w fun e w' => ∃ v', e = .returned v' ∧ Bu w0 w' v' (l ++ Lib.encodeRuneZ c) := by
  have HB := Lib.hid hB
  clear hB
  by_cases c1 : c < 128
  · have e : Lib.encodeRuneZ c = [c] := by unfold Lib.encodeRuneZ; rw [if_pos ⟨h0, by omega⟩]
    rw [e]
    have u1 : IntKind.u8.wrap c = c := by simp only [IntKind.wrap_u8]; omega
    clear e
    go_enter Tryd.func54, Tryd.ntmps54
    go_wp2_with ((with_reducible refine gate_builtin (b := .append) (xs := #[.tmp 8, .tmp 11]) rfl ?_); at_builtin; refine app_lit (w0 := w0) rfl (.tmp 8) (.tmp 11) rfl [c] v l rfl rfl HB.out (by simp; omega) ?_; intro v1 w1 hb1; have HB1 := Lib.hid hb1; clear hb1)
    go_ret
    exact ⟨_, rfl, HB1.out⟩
  by_cases c2 : c < 2048
  · have e : Lib.encodeRuneZ c = [192 + c / 64, 128 + c % 64] := by unfold Lib.encodeRuneZ; rw [if_neg (by omega), if_pos ⟨by omega, by omega⟩]
    rw [e]
    have d1 : Int.tdiv c 64 = c / 64 := Int.tdiv_eq_ediv_of_nonneg h0
    have d2 : Int.tmod c 64 = c % 64 := Int.tmod_eq_emod_of_nonneg h0
    obtain ⟨q, hq⟩ : ∃ q, c / 64 = q := ⟨_, rfl⟩
    obtain ⟨r, hr⟩ : ∃ r, c % 64 = r := ⟨_, rfl⟩
    rw [hq] at d1
    rw [hr] at d2
    rw [hq, hr]
    have b1 : 0 ≤ q ∧ q ≤ 31 := by omega
    have b2 : 0 ≤ r ∧ r ≤ 63 := by omega
    have x1 : IntKind.i64.wrap q = q := by rw [IntKind.wrap_i64]; omega
    have x2 : IntKind.i64.wrap (192 + q) = 192 + q := by rw [IntKind.wrap_i64]; omega
    have x3 : IntKind.i64.wrap r = r := by rw [IntKind.wrap_i64]; omega
    have x4 : IntKind.i64.wrap (128 + r) = 128 + r := by rw [IntKind.wrap_i64]; omega
    have x5 : IntKind.u8.wrap (192 + q) = 192 + q := by simp only [IntKind.wrap_u8]; omega
    have x6 : IntKind.u8.wrap (128 + r) = 128 + r := by simp only [IntKind.wrap_u8]; omega
    clear e hq hr b1 b2
    go_enter Tryd.func54, Tryd.ntmps54
    go_wp2_with ((with_reducible refine gate_builtin (b := .append) (xs := #[.tmp 16, .tmp 25]) rfl ?_); at_builtin; refine app_lit (w0 := w0) rfl (.tmp 16) (.tmp 25) rfl [192 + q, 128 + r] v l rfl rfl HB.out (by simp; omega) ?_; intro v1 w1 hb1; have HB1 := Lib.hid hb1; clear hb1)
    go_ret
    exact ⟨_, rfl, HB1.out⟩
  by_cases c3 : 55296 ≤ c ∧ c ≤ 57343
  · have e : Lib.encodeRuneZ c = [239, 191, 189] := by unfold Lib.encodeRuneZ; rw [if_neg (by omega), if_neg (by omega), if_neg (by omega), if_neg (by omega)]
    rw [e]
    by_cases c4 : c ≤ 56319
    · have HH : Hid (∀ w : World, Calls Tryd.prog 52 #[.int .i64 c] w fun e w' => e = .returned (.bool true) ∧ w' = w) := Lib.hid (fun w => by have := high_c c w; rw [decide_eq_true ⟨c3.1, c4⟩] at this; exact this)
      clear e c3 c4
      go_enter Tryd.func54, Tryd.ntmps54
      go_wp2_with (first | (go_at_call 52; (with_reducible refine (HH.out _).mono ?_); rintro e1 w1 ⟨rfl, rfl⟩) | ((with_reducible refine gate_builtin (b := .append) (xs := #[.tmp 34, .tmp 35]) rfl ?_); at_builtin; refine app_lit (w0 := w0) rfl (.tmp 34) (.tmp 35) rfl [239, 191, 189] v l rfl rfl HB.out (by simp; omega) ?_; intro v1 w1 hb1; have HB1 := Lib.hid hb1; clear hb1))
      go_ret
      exact ⟨_, rfl, HB1.out⟩
    · have HH : Hid (∀ w : World, Calls Tryd.prog 52 #[.int .i64 c] w fun e w' => e = .returned (.bool false) ∧ w' = w) := Lib.hid (fun w => by have := high_c c w; rw [decide_eq_false (fun h => c4 h.2)] at this; exact this)
      have HL : Hid (∀ w : World, Calls Tryd.prog 53 #[.int .i64 c] w fun e w' => e = .returned (.bool true) ∧ w' = w) := Lib.hid (fun w => by have := low_c c w; rw [decide_eq_true ⟨by omega, c3.2⟩] at this; exact this)
      clear e c3 c4
      go_enter Tryd.func54, Tryd.ntmps54
      go_wp2_with (first | (go_at_call 52; (with_reducible refine (HH.out _).mono ?_); rintro e1 w1 ⟨rfl, rfl⟩) | (go_at_call 53; (with_reducible refine (HL.out _).mono ?_); rintro e1 w1 ⟨rfl, rfl⟩) | ((with_reducible refine gate_builtin (b := .append) (xs := #[.tmp 34, .tmp 35]) rfl ?_); at_builtin; refine app_lit (w0 := w0) rfl (.tmp 34) (.tmp 35) rfl [239, 191, 189] v l rfl rfl HB.out (by simp; omega) ?_; intro v1 w1 hb1; have HB1 := Lib.hid hb1; clear hb1))
      go_ret
      exact ⟨_, rfl, HB1.out⟩
  have HH : Hid (∀ w : World, Calls Tryd.prog 52 #[.int .i64 c] w fun e w' => e = .returned (.bool false) ∧ w' = w) := Lib.hid (fun w => by have := high_c c w; rw [decide_eq_false (fun h => c3 ⟨h.1, by omega⟩)] at this; exact this)
  have HL : Hid (∀ w : World, Calls Tryd.prog 53 #[.int .i64 c] w fun e w' => e = .returned (.bool false) ∧ w' = w) := Lib.hid (fun w => by have := low_c c w; rw [decide_eq_false (fun h => c3 ⟨by omega, h.2⟩)] at this; exact this)
  have d1 : Int.tdiv c 64 = c / 64 := Int.tdiv_eq_ediv_of_nonneg h0
  have d2 : Int.tmod c 64 = c % 64 := Int.tmod_eq_emod_of_nonneg h0
  have d3 : Int.tdiv c 4096 = c / 4096 := Int.tdiv_eq_ediv_of_nonneg h0
  have d4 : Int.tmod (c / 64) 64 = c / 64 % 64 := Int.tmod_eq_emod_of_nonneg (by omega)
  have d5 : Int.tdiv c 262144 = c / 262144 := Int.tdiv_eq_ediv_of_nonneg h0
  have d6 : Int.tmod (c / 4096) 64 = c / 4096 % 64 := Int.tmod_eq_emod_of_nonneg (by omega)
  have he : Lib.encodeRuneZ c = if c < 65536 then [224 + c / 4096, 128 + c / 64 % 64, 128 + c % 64] else [240 + c / 262144, 128 + c / 4096 % 64, 128 + c / 64 % 64, 128 + c % 64] := by
    unfold Lib.encodeRuneZ
    rw [if_neg (by omega), if_neg (by omega)]
    by_cases c5 : c < 65536
    · rw [if_pos c5, if_pos (by omega)]
    · rw [if_neg c5, if_neg (by omega), if_pos (by omega)]
  rw [he]
  obtain ⟨q1, hq1⟩ : ∃ q, c / 64 = q := ⟨_, rfl⟩
  obtain ⟨q2, hq2⟩ : ∃ q, c / 4096 = q := ⟨_, rfl⟩
  obtain ⟨q3, hq3⟩ : ∃ q, c / 262144 = q := ⟨_, rfl⟩
  rw [hq1] at d1 d4
  rw [hq2] at d3 d6
  rw [hq3] at d5
  rw [hq1, hq2, hq3]
  obtain ⟨r1, hr1⟩ : ∃ r, c % 64 = r := ⟨_, rfl⟩
  obtain ⟨r2, hr2⟩ : ∃ r, q1 % 64 = r := ⟨_, rfl⟩
  obtain ⟨r3, hr3⟩ : ∃ r, q2 % 64 = r := ⟨_, rfl⟩
  rw [hr1] at d2
  rw [hr2] at d4
  rw [hr3] at d6
  rw [hr1, hr2, hr3]
  have b1 : 0 ≤ q1 ∧ q1 ≤ 20000 ∧ 0 ≤ q2 ∧ q2 ≤ 300 ∧ 0 ≤ q3 ∧ q3 ≤ 4 := by omega
  have b2 : 0 ≤ r1 ∧ r1 ≤ 63 ∧ 0 ≤ r2 ∧ r2 ≤ 63 ∧ 0 ≤ r3 ∧ r3 ≤ 63 := by omega
  have b3 : c < 65536 → q2 ≤ 15 := by omega
  have x1 : IntKind.i64.wrap q1 = q1 := by rw [IntKind.wrap_i64]; omega
  have x2 : IntKind.i64.wrap q2 = q2 := by rw [IntKind.wrap_i64]; omega
  have x3 : IntKind.i64.wrap q3 = q3 := by rw [IntKind.wrap_i64]; omega
  have x4 : IntKind.i64.wrap r1 = r1 := by rw [IntKind.wrap_i64]; omega
  have x5 : IntKind.i64.wrap r2 = r2 := by rw [IntKind.wrap_i64]; omega
  have x6 : IntKind.i64.wrap r3 = r3 := by rw [IntKind.wrap_i64]; omega
  have y1 : IntKind.i64.wrap (128 + r1) = 128 + r1 := by rw [IntKind.wrap_i64]; omega
  have y2 : IntKind.i64.wrap (128 + r2) = 128 + r2 := by rw [IntKind.wrap_i64]; omega
  have y3 : IntKind.i64.wrap (128 + r3) = 128 + r3 := by rw [IntKind.wrap_i64]; omega
  have z1 : IntKind.u8.wrap (128 + r1) = 128 + r1 := by simp only [IntKind.wrap_u8]; omega
  have z2 : IntKind.u8.wrap (128 + r2) = 128 + r2 := by simp only [IntKind.wrap_u8]; omega
  have z3 : IntKind.u8.wrap (128 + r3) = 128 + r3 := by simp only [IntKind.wrap_u8]; omega
  by_cases c5 : c < 65536
  · rw [if_pos c5]
    have y4 : IntKind.i64.wrap (224 + q2) = 224 + q2 := by rw [IntKind.wrap_i64]; omega
    have z4 : IntKind.u8.wrap (224 + q2) = 224 + q2 := by have := b3 c5; simp only [IntKind.wrap_u8]; omega
    clear he hq1 hq2 hq3 hr1 hr2 hr3 b1 b2 b3 c3
    go_enter Tryd.func54, Tryd.ntmps54
    go_wp2_with (first | (go_at_call 52; (with_reducible refine (HH.out _).mono ?_); rintro e1 w1 ⟨rfl, rfl⟩) | (go_at_call 53; (with_reducible refine (HL.out _).mono ?_); rintro e1 w1 ⟨rfl, rfl⟩) | ((with_reducible refine gate_builtin (b := .append) (xs := #[.tmp 40, .tmp 54]) rfl ?_); at_builtin; refine app_lit (w0 := w0) rfl (.tmp 40) (.tmp 54) rfl [224 + q2, 128 + r2, 128 + r1] v l rfl rfl HB.out (by simp; omega) ?_; intro v1 w1 hb1; have HB1 := Lib.hid hb1; clear hb1))
    go_ret
    exact ⟨_, rfl, HB1.out⟩
  · rw [if_neg c5]
    have y4 : IntKind.i64.wrap (240 + q3) = 240 + q3 := by rw [IntKind.wrap_i64]; omega
    have z4 : IntKind.u8.wrap (240 + q3) = 240 + q3 := by simp only [IntKind.wrap_u8]; omega
    clear he hq1 hq2 hq3 hr1 hr2 hr3 b1 b2 b3 c3
    go_enter Tryd.func54, Tryd.ntmps54
    go_wp2_with (first | (go_at_call 52; (with_reducible refine (HH.out _).mono ?_); rintro e1 w1 ⟨rfl, rfl⟩) | (go_at_call 53; (with_reducible refine (HL.out _).mono ?_); rintro e1 w1 ⟨rfl, rfl⟩) | ((with_reducible refine gate_builtin (b := .append) (xs := #[.tmp 56, .tmp 75]) rfl ?_); at_builtin; refine app_lit (w0 := w0) rfl (.tmp 56) (.tmp 75) rfl [240 + q3, 128 + r3, 128 + r2, 128 + r1] v l rfl rfl HB.out (by simp; omega) ?_; intro v1 w1 hb1; have HB1 := Lib.hid hb1; clear hb1))
    go_ret
    exact ⟨_, rfl, HB1.out⟩
end Go.Proofs.YtgbliniamkpocaaDoor.Jp
