/- The walk of FnGjResultIntText. -/
import Derived.Test.YtphpjboljlkdkaaDoorGjInt
import Derived.Test.YtphpjboljlkdkaaDoorPQtx1
import Derived.Test.YtphpjboljlkdkaaDoorRows
namespace Go.Proofs.YtphpjboljlkdkaaDoor.Gi
open Go.RowKit Go.Proofs.YtphpjboljlkdkaaDoorW.PrintWords Go.Proofs.YtphpjboljlkdkaaDoor.PQt

theorem short_some (c : Int) : ∃ p, spec_shortOf.f c = some p := by
  unfold spec_shortOf.f
  repeat' split
  all_goals exact ⟨_, rfl⟩
theorem digit_some (c : Int) (b : Bool) : ∃ p, spec_digitOf.f c b = some p := by
  unfold spec_digitOf.f
  repeat' split
  all_goals exact ⟨_, rfl⟩
/-- spec.Quote ends. -/
theorem quote_ev (s : ByteArray) (hs : s.size ≤ 2147483647) : ∀ (d i : Nat) (out : List Int), s.size - i ≤ d → i ≤ s.size → out.length ≤ 6 * i + 1 → ∃ r, Ev (fun k => spec_Quote.l0 k s out (i : Int)) r := by
  intro d
  induction d with
  | zero =>
    intro i out hd hi ho
    refine ⟨strOfNums (out ++ [34]), Ev.step (f := fun _ => some (strOfNums (out ++ [34]))) (fun k => ?_) (Ev.now _)⟩
    simp only [spec_Quote.l0]
    rw [if_neg (by omega), if_pos (by omega)]
  | succ d ih =>
    intro i out hd hi ho
    by_cases hlt : i < s.size
    · have w1 : wrap64 ((i : Int) + 1) = ((i + 1 : Nat) : Int) := by unfold wrap64; omega
      obtain ⟨c, hc⟩ : ∃ c, bt s i = c := ⟨_, rfl⟩
      obtain ⟨⟨l, ok⟩, hp⟩ := short_some c
      have hin : ∀ b : Bool, ∃ r, Ev (fun k => spec_Quote.j1 k s out (i : Int) c l b) r := by
        intro b
        cases b with
        | true =>
          obtain ⟨r, hr⟩ := ih (i + 1) (out ++ [92, l]) (by omega) (by omega) (by simp; omega)
          refine ⟨r, Ev.step (fun k => ?_) hr⟩
          simp only [spec_Quote.j1, if_true, Option.bind_some]
          rw [if_pos (by simp; omega), w1]
        | false =>
          by_cases h32 : c < 32
          · obtain ⟨t, ht⟩ := digit_some (wrap64 (Int.tmod c 16)) false
            obtain ⟨r, hr⟩ := ih (i + 1) (out ++ [92, 117, 48, 48, (48 + ((Int.tdiv c 16) % 256)) % 256, t]) (by omega) (by omega) (by simp; omega)
            refine ⟨r, Ev.step (fun k => ?_) hr⟩
            simp only [spec_Quote.j1, Bool.false_eq_true, if_false, Option.bind_some]
            rw [if_pos h32, ht]
            simp only [Option.bind_some]
            rw [if_pos (by simp; omega), w1]
          · obtain ⟨r, hr⟩ := ih (i + 1) (out ++ [c]) (by omega) (by omega) (by simp; omega)
            refine ⟨r, Ev.step (fun k => ?_) hr⟩
            simp only [spec_Quote.j1, Bool.false_eq_true, if_false]
            rw [if_neg h32, if_pos (by omega), w1]
      cases ok with
      | true =>
        obtain ⟨r, hr⟩ := hin (c != 47)
        refine ⟨r, Ev.step (fun k => ?_) hr⟩
        simp only [spec_Quote.l0]
        rw [if_pos (by omega), if_pos (by omega), hc, hp]
        simp only [Option.bind_some, if_true]
      | false =>
        obtain ⟨r, hr⟩ := hin false
        refine ⟨r, Ev.step (fun k => ?_) hr⟩
        simp only [spec_Quote.l0]
        rw [if_pos (by omega), if_pos (by omega), hc, hp]
        simp only [Option.bind_some, Bool.false_eq_true, if_false]
    · refine ⟨strOfNums (out ++ [34]), Ev.step (f := fun _ => some (strOfNums (out ++ [34]))) (fun k => ?_) (Ev.now _)⟩
      simp only [spec_Quote.l0]
      rw [if_neg (by omega), if_pos (by omega)]
theorem quote_c (s : ByteArray) (hs : s.size ≤ 2147483647) : ∃ r, ∀ w, Calls Tryd.prog 18 #[.string s] w fun e w' => e = .returned (.string r) ∧ Below w.heap.size w w' := by
  obtain ⟨r, hr⟩ := quote_ev s hs _ 0 [34] (Nat.le_refl _) (by omega) (by simp)
  obtain ⟨k, hk⟩ := hr.rounds
  exact ⟨r, fun w => spec_Quote.calls k s r w (by simpa [spec_Quote.f] using hk)⟩

def G67 (k : Int) (raw str : ByteArray) (f : Nat) : Value := .agg #[.int .i64 k, .string raw, .string str, .float .f64 f, .int .i64 0, .slice none 0 0]
def I36 (k : Int) (raw str : ByteArray) (f : Nat) (x : Bool) : Value := .agg #[.int .i64 k, .string raw, .string str, .float .f64 f, .bool x]
theorem run_store_float {P : Program} {w : World} {a : Addr} {m : Mode} (k : FloatKind) (b : Nat) : (store a (.float k b) m).run P w = stored P w a (.float k b) m := run_store P w a _ m rfl
attribute [local go_sem] run_store_float
set_option maxHeartbeats 4000000 in
set_option maxRecDepth 100000 in
theorem gjOf_c (k : Int) (raw str : ByteArray) (f : Nat) (x : Bool) (w : World) :
    Calls Tryd.prog 37 #[I36 k raw str f x] w fun e w' => e = .returned (G67 k raw str f) ∧ Below w.heap.size w w' := by
  unfold I36 G67
  go_enter Tryd.func37, Tryd.ntmps37
  go_wp2
  exact bodyPost_ret (v := .agg #[.int .i64 k, .string raw, .string str, .float .f64 f, .int .i64 0, .slice none 0 0]) (by simp [results, Tryd.results37, go_sem]) rfl ⟨rfl, ((Below.refl _ _).alloc (Nat.le_refl _) _).alloc (by simp) _⟩
set_option maxHeartbeats 4000000 in
set_option maxRecDepth 100000 in
theorem resInt_c (raw str : ByteArray) (f : Nat) (m : Int) (h : IntOk str m) (hs : str.size ≤ 140737488351232) (w : World) :
    Calls Tryd.prog 40 #[G67 3 raw str f] w fun e w' => e = .returned (.int .i64 m) ∧ Below w.heap.size w w' := by
  have H1 := Lib.hid (fun w => pint_c str m h hs w)
  clear h
  unfold G67
  go_enter Tryd.func40, Tryd.ntmps40
  go_wp2_with (go_at_call 58; refine (H1.out _).mono ?_; rintro e w1 ⟨rfl, rfl⟩)
  go_ret
  exact ⟨rfl, (Below.refl _ _).alloc (Nat.le_refl _) _⟩
set_option maxHeartbeats 4000000 in
set_option maxRecDepth 100000 in
theorem resUint_c (raw str : ByteArray) (f : Nat) (n : Nat) (h : NumOk str n) (hs : str.size ≤ 140737488351232) (w : World) :
    Calls Tryd.prog 41 #[G67 3 raw str f] w fun e w' => e = .returned (.int .u64 n) ∧ Below w.heap.size w w' := by
  have H1 := Lib.hid (fun w => puint_c str n h hs w)
  clear h
  obtain ⟨m, hm⟩ : ∃ m : Int, (n : Int) = m := ⟨_, rfl⟩
  rw [hm] at H1 ⊢
  clear hm
  unfold G67
  go_enter Tryd.func41, Tryd.ntmps41
  go_wp2_with (go_at_call 62; refine (H1.out _).mono ?_; rintro e w1 ⟨rfl, rfl⟩)
  go_ret
  exact ⟨rfl, (Below.refl _ _).alloc (Nat.le_refl _) _⟩
set_option maxHeartbeats 4000000 in
set_option maxRecDepth 100000 in
theorem gInt_c (raw str : ByteArray) (f : Nat) (x : Bool) (m : Int) (h : IntOk str m) (hs : str.size ≤ 140737488351232) (w : World) :
    Calls Tryd.prog 20 #[I36 3 raw str f x] w fun e w' => e = .returned (.int .i64 m) ∧ Below w.heap.size w w' := by
  have HH := Lib.hid (And.intro (fun w => gjOf_c 3 raw str f x w) (fun w => resInt_c raw str f m h hs w))
  clear h
  unfold I36 G67 at HH
  unfold I36
  go_enter Tryd.func20, Tryd.ntmps20
  go_wp2_with (first | (go_at_call 37; refine (HH.out.1 _).mono ?_; rintro e w1 ⟨rfl, hb1⟩) | (go_at_call 40; refine (HH.out.2 _).mono ?_; rintro e w2 ⟨rfl, hb2⟩))
  go_ret
  exact ⟨rfl, ((Below.refl _ _).alloc (Nat.le_refl _) _).trans ((hb1.mono (by simp)).trans (hb2.mono (by have := hb1.size; simp at this; omega)))⟩
set_option maxHeartbeats 4000000 in
set_option maxRecDepth 100000 in
theorem gUint_c (raw str : ByteArray) (f : Nat) (x : Bool) (m : Nat) (h : NumOk str m) (hs : str.size ≤ 140737488351232) (w : World) :
    Calls Tryd.prog 22 #[I36 3 raw str f x] w fun e w' => e = .returned (.int .u64 m) ∧ Below w.heap.size w w' := by
  have HH := Lib.hid (And.intro (fun w => gjOf_c 3 raw str f x w) (fun w => resUint_c raw str f m h hs w))
  obtain ⟨n, hn⟩ : ∃ n : Int, (m : Int) = n := ⟨_, rfl⟩
  rw [hn] at HH ⊢
  clear h hn
  unfold I36 G67 at HH
  unfold I36
  go_enter Tryd.func22, Tryd.ntmps22
  go_wp2_with (first | (go_at_call 37; refine (HH.out.1 _).mono ?_; rintro e w1 ⟨rfl, hb1⟩) | (go_at_call 41; refine (HH.out.2 _).mono ?_; rintro e w2 ⟨rfl, hb2⟩))
  go_ret
  exact ⟨rfl, ((Below.refl _ _).alloc (Nat.le_refl _) _).trans ((hb1.mono (by simp)).trans (hb2.mono (by have := hb1.size; simp at this; omega)))⟩
theorem after_box {a0 a1 a2 a3 a4 : Value} {t : TypeId} {w w1 : World} (hb : Below (w.alloc (.cells #[a0, a1, a2, a3, a4] t)).heap.size (w.alloc (.cells #[a0, a1, a2, a3, a4] t)) w1) :
    w1.cell? ⟨w.heap.size, 0, none⟩ = some a0 ∧ w1.cell? ⟨w.heap.size, 1, none⟩ = some a1 ∧ w1.cell? ⟨w.heap.size, 2, none⟩ = some a2 ∧ w1.cell? ⟨w.heap.size, 3, none⟩ = some a3 ∧ w1.cell? ⟨w.heap.size, 4, none⟩ = some a4 := by
  have h : w1.heap[w.heap.size]? = some (.cells #[a0, a1, a2, a3, a4] t) := by
    rw [hb.block w.heap.size (by simp)]
    exact heap_alloc_new w _
  simp [World.cell?, h]
theorem bl_step {w w1 w2 : World} (h : Below w.heap.size w w1) (h2 : Below w1.heap.size w1 w2) : Below w.heap.size w w2 := h.trans (h2.mono h.size)
theorem bl_al {w w1 : World} (h : Below w.heap.size w w1) (o : Obj) : Below w.heap.size w (w1.alloc o) := h.alloc h.size o
set_option maxHeartbeats 4000000 in
set_option maxRecDepth 100000 in
theorem law_c (s : ByteArray) (hs : s.size ≤ 140737488351232) (w : World) :
    Calls Tryd.prog 6 #[.string s] w fun e w' => e = .returned (.bool true) ∧ Below w.heap.size w w' := by
  by_cases hbig : 2147483647 < s.size
  · go_enter Tryd.func6, Tryd.ntmps6
    go_wp2
    go_ret
    exact ⟨rfl, Below.refl _ _⟩
  obtain ⟨raw, hq⟩ := quote_c s (by omega)
  have HQ := Lib.hid hq
  have HI := Lib.hid (fun w => int_c s hs w)
  have HU := Lib.hid (fun w => uint_c s hs w)
  have HGI := Lib.hid (fun m h w => gInt_c raw s 0 true m h hs w)
  have HGU := Lib.hid (fun m h w => gUint_c raw s 0 true m h hs w)
  unfold I36 at HGI HGU
  clear hq hs
  go_enter Tryd.func6, Tryd.ntmps6
  go_wp2_with (first | (go_at_call 18; refine (HQ.out _).mono ?_; rintro e w1 ⟨rfl, hb1⟩; have HB1 := Lib.hid hb1; clear hb1) | (go_at_call 19; refine (HI.out _).mono ?_; rintro e w2 ⟨⟨m, ok, rfl, hok⟩, rfl⟩; have HK := Lib.hid hok; clear hok; rcases ok with _ | _) | (go_at_call 20; refine (HGI.out m (HK.out (by trivial)) _).mono ?_; rintro e w3 ⟨rfl, hb3⟩; obtain ⟨c0, c1, c2, c3, c4⟩ := after_box hb3; have HB3 := Lib.hid (bl_step (bl_al HB1.out _) hb3); clear hb3) | (go_at_call 21; refine (HU.out _).mono ?_; rintro e w4 ⟨⟨n, ok, rfl, hok⟩, rfl⟩; have HN := Lib.hid hok; clear hok; rcases ok with _ | _) | (go_at_call 22; refine (HGU.out n (HN.out (by trivial)) _).mono ?_; rintro e w5 ⟨rfl, hb5⟩; have HB5 := Lib.hid hb5; clear hb5))
  all_goals
    go_ret
    exact ⟨by rfl, by first | exact bl_step (bl_al HB1.out _) HB5.out | exact bl_step HB3.out HB5.out | exact HB3.out | exact bl_al HB1.out _⟩
theorem itx_walk (s : ByteArray) (w : World) (hs : s.size ≤ 140737488351232) (_hL : laidMetH Tryd.prog Rows.fnGjResultIntTextRow.laid w) :
    Calls Tryd.prog 6 #[.string s] w fun e w' => e = .returned (.bool true) ∧ Below w.heap.size w w' := law_c s hs w
end Go.Proofs.YtphpjboljlkdkaaDoor.Gi
