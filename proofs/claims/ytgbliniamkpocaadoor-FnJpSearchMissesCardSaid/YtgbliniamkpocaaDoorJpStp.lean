/- spec.Step, walked by hand. -/
import Derived.Test.YtgbliniamkpocaaDoorJpNm
namespace Go.Proofs.YtgbliniamkpocaaDoor.Jp
open Go.RowKit Go.Proofs.YtgbliniamkpocaaDoorW.PrintWords Go.Proofs.YtgbliniamkpocaaDoor.Kit Go.Proofs.YtgbliniamkpocaaDoor.Pure Go.Proofs.YtgbliniamkpocaaDoor.PPl

/-- What is to be read in a world is to be read in another one too. -/
def Sub (w w1 : World) : Prop := ∀ a v, w.cell? a = some v → w1.cell? a = some v
theorem Sub.of_below {w w1 : World} (h : Below w.heap.size w w1) : Sub w w1 := fun _ _ hc => pw_cell_below h hc
theorem Sub.trans {w w1 w2 : World} (h : Sub w w1) (k : Sub w1 w2) : Sub w w2 := fun a v hc => k a v (h a v hc)
theorem Sub.step {w w1 w2 : World} (h : Sub w w1) (k : Below w1.heap.size w1 w2) : Sub w w2 := h.trans (.of_below k)
theorem row_sub {α : Type} {R R' : α → List Value → Prop} {size : Nat} {w w1 : World} {A : Option Addr} {n : Nat} {ps : List α} (h : ReadsRow R size w A n ps) (hs : Sub w w1) (hR : ∀ p c, R p c → R' p c) : ReadsRow R' size w1 A n ps := by
  refine ⟨h.1, h.2.1, fun hn => ?_⟩
  obtain ⟨ad, e, hc⟩ := h.2.2 hn
  refine ⟨ad, e, fun j p hj => ?_⟩
  obtain ⟨c, h1, h2, h3⟩ := hc j p hj
  exact ⟨c, h1, hR _ _ h2, fun i u hu => hs _ _ (h3 i u hu)⟩
theorem k72_sub {w w1 : World} {A : Option Addr} {n : Nat} {xs : List S72} (h : k72.C w A n xs) (hs : Sub w w1) : k72.C w1 A n xs := row_sub h hs (fun _ _ hp => hp)
theorem up_sub {w w1 : World} (hs : Sub w w1) : ∀ (n : Nat) (x : S35) (cs : List Value), (Kd.upto F35 5 [35, 72] n).K w x cs → (Kd.upto F35 5 [35, 72] n).K w1 x cs := by
  intro n
  induction n with
  | zero => exact fun _ _ h => h.elim
  | succ n ih =>
    intro x cs h
    obtain ⟨_, _, rfl, rfl, ⟨_, _, rfl, rfl, ⟨_, _, rfl, rfl, ⟨_, _, rfl, ⟨A3, c3, rfl, l3, g3⟩, ⟨A4, c4, rfl, l4, g4⟩⟩⟩⟩⟩ := h
    exact ⟨_, _, rfl, rfl, ⟨_, _, rfl, rfl, ⟨_, _, rfl, rfl, ⟨_, _, rfl, ⟨A3, c3, rfl, l3, k72_sub g3 hs⟩, ⟨A4, c4, rfl, l4, row_sub g4 hs (fun p c hp => ih p c hp)⟩⟩⟩⟩⟩
theorem k35_sub {w w1 : World} {A : Option Addr} {n : Nat} {xs : List S35} (h : k35.C w A n xs) (hs : Sub w w1) : k35.C w1 A n xs := row_sub h hs (fun p c hp => by
  obtain ⟨m, hm⟩ := hp
  exact ⟨m, up_sub hs m p c hm⟩)
/-- A place's names and kids are to be read. -/
structure PlC (w : World) (p : S35) (A3 A4 : Option Addr) : Prop where
  ns : k72.C w A3 p.f3.length p.f3
  ks : k35.C w A4 p.f4.length p.f4
theorem PlC.sub {w w1 : World} {p : S35} {A3 A4 : Option Addr} (h : PlC w p A3 A4) (hb : Sub w w1) : PlC w1 p A3 A4 := ⟨k72_sub h.1 hb, k35_sub h.2 hb⟩
theorem PlC.below {w w1 : World} {p : S35} {A3 A4 : Option Addr} (h : PlC w p A3 A4) (hb : Below w.heap.size w w1) : PlC w1 p A3 A4 := ⟨Kd.C_below h.1 hb, Kd.C_below h.2 hb⟩
/-- What Step, jpFound come to: a place, or none. -/
def PlP (w0 w : World) (P : Option S35) (e : Ending) (w' : World) : Prop :=
  (∃ (q : S35) (A3 A4 : Option Addr) (c3 c4 : Nat), P = some q ∧ e = .returned (.tuple #[.agg #[.int .i64 q.f0, .int .i64 q.f1, .int .i64 q.f2, .slice A3 q.f3.length c3, .slice A4 q.f4.length c4], .bool true]) ∧ PlC w0 q A3 A4 ∧ Below w.heap.size w w') ∨
  (P = none ∧ e = .returned (.tuple #[.agg #[.int .i64 0, .int .i64 0, .int .i64 0, .slice none 0 0, .slice none 0 0], .bool false]) ∧ Below w.heap.size w w')
theorem ixF_nn : ∀ (l : List Int) (n m : Int), 0 ≤ n → ixF l n = some m → 0 ≤ m := by
  intro l
  induction l with
  | nil =>
    intro n m hn h
    unfold ixF at h
    injection h with h
    omega
  | cons c r ih =>
    intro n m hn h
    unfold ixF at h
    split at h
    · cases h
    · exact ih _ m (by split <;> omega) h
theorem brk_nn {key : ByteArray} {m : Int} (h : brkR key = some m) : 0 ≤ m := by
  unfold brkR at h
  split at h
  · unfold ixR at h
    split at h
    · cases h
    · exact ixF_nn _ 0 m (by omega) h
  · cases h
theorem stp_arr {L key : List Int} {p : S35} (h6 : ¬ p.f0 = 6) (h5 : p.f0 = 5) : stp L p key = (brkL key).bind fun k => if k < (p.f4.length : Int) then p.f4[k.toNat]? else none := by
  unfold stp
  rw [if_neg h6, if_pos h5]
  cases brkL key with
  | none => rfl
  | some k => rfl
set_option maxHeartbeats 16000000 in
set_option maxRecDepth 100000 in
theorem stp_c (s key : ByteArray) (w0 w : World) (h0 : Sub w0 w) (p : S35) (A3 A4 : Option Addr) (c3 c4 : Nat) (hs : s.size ≤ 140737488355000) (hks : key.size ≤ 9223372036854775807) (hC : PlC w0 p A3 A4) (hG : Gd (Kit.nums s) p) :
    Calls Tryd.prog 34 #[.string s, .agg #[.int .i64 p.f0, .int .i64 p.f1, .int .i64 p.f2, .slice A3 p.f3.length c3, .slice A4 p.f4.length c4], .string key] w (PlP w0 w (stp (Kit.nums s) p (Kit.nums key))) := by
  obtain ⟨R, hR⟩ : ∃ R, stp (Kit.nums s) p (Kit.nums key) = R := ⟨_, rfl⟩
  rw [hR]
  have HR := Lib.hid hR
  have HC := Lib.hid hC
  have H0 := Lib.hid h0
  have HG := Lib.hid hG
  have hnl := hC.2.2.1
  have hu35 := Tryd.underlying35
  clear hR hC hG h0
  obtain ⟨W, hW⟩ : ∃ W, W = (w.alloc (.cells #[.int .i64 p.f0, .int .i64 p.f1, .int .i64 p.f2, .slice A3 p.f3.length c3, .slice A4 p.f4.length c4] 35)).alloc (.cells #[.int .i64 0, .int .i64 0, .int .i64 0, .slice none 0 0, .slice none 0 0] 35) := ⟨_, rfl⟩
  have HB : Hid (Below w.heap.size w W) := Lib.hid (by rw [hW]; exact below_alloc (below_alloc (Below.refl _ _) _) _)
  have HP : Hid (Bx W w.heap.size p.f0 p.f1 p.f2 (.slice A3 p.f3.length c3) (.slice A4 p.f4.length c4)) := Lib.hid (by rw [hW]; exact bx_new _ _ _ _ _ _ _)
  have HQ : Hid (Bx W (w.heap.size + 1) 0 0 0 (.slice none 0 0) (.slice none 0 0)) := Lib.hid (by
    rw [hW]
    have := blk_new (w.alloc (.cells #[.int .i64 p.f0, .int .i64 p.f1, .int .i64 p.f2, .slice A3 p.f3.length c3, .slice A4 p.f4.length c4] 35)) (.cells #[.int .i64 0, .int .i64 0, .int .i64 0, .slice none 0 0, .slice none 0 0] 35)
    rw [alloc_size] at this
    exact this)
  have hne : w.heap.size ≠ w.heap.size + 1 := by omega
  have hne' : w.heap.size + 1 ≠ w.heap.size := by omega
  have d0 : (w.alloc (.cells #[.int .i64 p.f0, .int .i64 p.f1, .int .i64 p.f2, .slice A3 p.f3.length c3, .slice A4 p.f4.length c4] 35)).cell? ⟨w.heap.size, 0, none⟩ = some (.int .i64 p.f0) := (blk_cell (blk_new _ _) 0).trans rfl
  by_cases h6 : p.f0 = 6
  · have HNm : Hid (∀ w1, k72.C w1 A3 p.f3.length p.f3 → Calls Tryd.prog 19 #[.string s, .agg #[.int .i64 p.f0, .int .i64 p.f1, .int .i64 p.f2, .slice A3 p.f3.length c3, .slice A4 p.f4.length c4], .string key] w1 fun e w' => e = .returned (.int .i64 (nmZ (nmd (Kit.nums s) (Kit.nums key) p.f3 0))) ∧ Below w1.heap.size w1 w') := Lib.hid (fun w1 h => named_c s key w1 _ _ _ A3 A4 c3 c4 _ _ hs h (Gd.nmg HG.out h6))
    have HLen : Hid (p.f3.length = p.f4.length) := Lib.hid (Gd.names HG.out h6)
    have a6 : (p.f0 == 6) = true := by simpa using h6
    cases hn : nmd (Kit.nums s) (Kit.nums key) p.f3 0 with
    | none =>
      have HE : Hid (R = none) := Lib.hid (by rw [← HR.out]; unfold stp; rw [if_pos h6, hn])
      rw [hn] at HNm
      unfold nmZ at HNm
      clear hn h6 HR
      go_enter Tryd.func34, Tryd.ntmps34
      go_wp2_with fail
      rw [← hW]
      clear hW
      refine (HNm.out _ (k72_sub HC.out.ns (H0.out.step HB.out))).mono ?_
      rintro e2 w2 ⟨rfl, hb2⟩
      have HP2 : Hid (Bx w2 w.heap.size p.f0 p.f1 p.f2 (.slice A3 p.f3.length c3) (.slice A4 p.f4.length c4)) := Lib.hid (blk_below HP.out hb2)
      have HQ2 : Hid (Bx w2 (w.heap.size + 1) 0 0 0 (.slice none 0 0) (.slice none 0 0)) := Lib.hid (blk_below HQ.out hb2)
      have HB2 : Hid (Below w.heap.size w w2) := Lib.hid (below_step HB.out hb2)
      clear hb2 HNm d0 HP HQ
      have s0 := HQ2.out.c0
      have s1 := HQ2.out.c1
      have s2 := HQ2.out.c2
      have s3 := HQ2.out.c3
      have s4 := HQ2.out.c4
      have t0 := HQ2.out.fr 0
      have t1 := HQ2.out.fr 1
      have t2 := HQ2.out.fr 2
      have t3 := HQ2.out.fr 3
      have t4 := HQ2.out.fr 4
      go_wp2
      exact bodyPost_ret (results_ct rfl _ _ (w.heap.size + 1) 35 #[.int .i64 0, .int .i64 0, .int .i64 0, .slice none 0 0, .slice none 0 0] (0, 0) _ rfl (HQ2.out.five _ _ _ _ _) Tryd.underlying35 rfl rfl) rfl (.inr ⟨HE.out, rfl, five_below HB2.out (by omega) _ _ _ _ _⟩)
    | some k =>
      have hkl : k < p.f4.length := by
        obtain ⟨_, ⟨x, hx, _⟩, _⟩ := nmd_some _ _ _ hn
        have := (List.getElem?_eq_some_iff.1 hx).1
        have := HLen.out
        omega
      obtain ⟨q, hq⟩ : ∃ q, p.f4[k]? = some q := ⟨_, List.getElem?_eq_getElem hkl⟩
      have HE : Hid (R = some q) := Lib.hid (by rw [← HR.out]; unfold stp; rw [if_pos h6, hn]; exact hq)
      have HQk : Hid (rd_T35 p.f4 (k : Int) = q) := Lib.hid (by unfold rd_T35; rw [Int.toNat_natCast, List.getD_eq_getElem?_getD, hq]; rfl)
      rw [hn] at HNm
      unfold nmZ at HNm
      clear hn h6 HR hq
      go_enter Tryd.func34, Tryd.ntmps34
      go_wp2_with fail
      rw [← hW]
      clear hW
      refine (HNm.out _ (k72_sub HC.out.ns (H0.out.step HB.out))).mono ?_
      rintro e2 w2 ⟨rfl, hb2⟩
      have HP2 : Hid (Bx w2 w.heap.size p.f0 p.f1 p.f2 (.slice A3 p.f3.length c3) (.slice A4 p.f4.length c4)) := Lib.hid (blk_below HP.out hb2)
      have HQ2 : Hid (Bx w2 (w.heap.size + 1) 0 0 0 (.slice none 0 0) (.slice none 0 0)) := Lib.hid (blk_below HQ.out hb2)
      have HB2 : Hid (Below w.heap.size w w2) := Lib.hid (below_step HB.out hb2)
      clear hb2 HNm d0 HP HQ
      obtain ⟨ad, B3, b3, B4, b4, ea, x0, x1, x2, x3, x4, l3, g3, l4, g4⟩ := at_T35 HC.out.ks ((k : Nat) : Int) (by omega) (by omega)
      have hx : rd_T35 p.f4 ((k : Nat) : Int) = q := HQk.out
      rw [hx, Int.toNat_natCast] at x0 x1 x2 x3 x4
      rw [hx] at l3 g3 l4 g4
      subst ea
      replace x0 := (H0.out.step HB2.out) _ _ x0
      replace x1 := (H0.out.step HB2.out) _ _ x1
      replace x2 := (H0.out.step HB2.out) _ _ x2
      replace x3 := (H0.out.step HB2.out) _ _ x3
      replace x4 := (H0.out.step HB2.out) _ _ x4
      have e4 := HP2.out.c4
      have HG3 : Hid (PlC w0 q B3 B4) := Lib.hid ⟨g3, g4⟩
      clear g3 g4 hx
      have s0 := HQ2.out.c0
      have s1 := HQ2.out.c1
      have s2 := HQ2.out.c2
      have s3 := HQ2.out.c3
      have s4 := HQ2.out.c4
      have t0 := HQ2.out.fr 0
      have t1 := HQ2.out.fr 1
      have t2 := HQ2.out.fr 2
      have t3 := HQ2.out.fr 3
      have t4 := HQ2.out.fr 4
      have hka := eq_true (show (0 : Int) ≤ ((k : Nat) : Int) by omega)
      go_wp2
      refine bodyPost_ret (results_ct rfl _ _ (w.heap.size + 1) 35 #[.int .i64 q.f0, .int .i64 q.f1, .int .i64 q.f2, .slice B3 q.f3.length b3, .slice B4 q.f4.length b4] (0, 0) _ rfl (HQ2.out.five _ _ _ _ _) Tryd.underlying35 rfl rfl) rfl (.inl ⟨q, B3, B4, b3, b4, HE.out, rfl, HG3.out, ?_⟩)
      exact five_below HB2.out (by omega) _ _ _ _ _
  have a6 : (p.f0 == 6) = false := by simpa using h6
  by_cases h5 : p.f0 = 5
  · have a5 : (p.f0 == 5) = true := by simpa using h5
    have HBk := Lib.hid (fun w1 => brk_c key w1 hks)
    have HR5 : Hid (R = (brkL (Kit.nums key)).bind fun k => if k < (p.f4.length : Int) then p.f4[k.toNat]? else none) := Lib.hid (by rw [← HR.out]; exact stp_arr h6 h5)
    cases hb : brkR key with
    | none =>
      have HE : Hid (R = none) := Lib.hid (by rw [HR5.out, ← brk_L, hb, Option.bind_none])
      have HBz : Hid (∀ w1, Calls Tryd.prog 30 #[.string key] w1 fun e w' => e = .returned (.tuple #[.int .i64 0, .bool false]) ∧ w' = w1) := Lib.hid (fun w1 => by have := HBk.out w1; rw [hb] at this; exact this)
      clear hb h6 h5 HR HR5 HBk
      go_enter Tryd.func34, Tryd.ntmps34
      go_wp2_with fail
      rw [← hW]
      clear hW
      refine (HBz.out _).mono ?_
      rintro e2 w2 ⟨rfl, rfl⟩
      have s0 := HQ.out.c0
      have s1 := HQ.out.c1
      have s2 := HQ.out.c2
      have s3 := HQ.out.c3
      have s4 := HQ.out.c4
      have t0 := HQ.out.fr 0
      have t1 := HQ.out.fr 1
      have t2 := HQ.out.fr 2
      have t3 := HQ.out.fr 3
      have t4 := HQ.out.fr 4
      go_wp2
      exact bodyPost_ret (results_ct rfl _ _ (w.heap.size + 1) 35 #[.int .i64 0, .int .i64 0, .int .i64 0, .slice none 0 0, .slice none 0 0] (0, 0) _ rfl (HQ.out.five _ _ _ _ _) Tryd.underlying35 rfl rfl) rfl (.inr ⟨HE.out, rfl, five_below HB.out (by omega) _ _ _ _ _⟩)
    | some m =>
      have hm0 := brk_nn hb
      obtain ⟨k, rfl⟩ : ∃ k : Nat, m = (k : Int) := ⟨m.toNat, by omega⟩
      have HBz : Hid (∀ w1, Calls Tryd.prog 30 #[.string key] w1 fun e w' => e = .returned (.tuple #[.int .i64 (k : Int), .bool true]) ∧ w' = w1) := Lib.hid (fun w1 => by have := HBk.out w1; rw [hb] at this; exact this)
      by_cases hkl : k < p.f4.length
      · obtain ⟨q, hq⟩ : ∃ q, p.f4[k]? = some q := ⟨_, List.getElem?_eq_getElem hkl⟩
        have HE : Hid (R = some q) := Lib.hid (by rw [HR5.out, ← brk_L, hb, Option.bind_some, if_pos (by omega), Int.toNat_natCast]; exact hq)
        have HQk : Hid (rd_T35 p.f4 (k : Int) = q) := Lib.hid (by unfold rd_T35; rw [Int.toNat_natCast, List.getD_eq_getElem?_getD, hq]; rfl)
        have hkd := eq_true (show (k : Int) < (p.f4.length : Int) by omega)
        clear hb h6 h5 HR HR5 HBk hq
        go_enter Tryd.func34, Tryd.ntmps34
        go_wp2_with fail
        rw [← hW]
        clear hW
        refine (HBz.out _).mono ?_
        rintro e2 w2 ⟨rfl, rfl⟩
        obtain ⟨ad, B3, b3, B4, b4, ea, x0, x1, x2, x3, x4, l3, g3, l4, g4⟩ := at_T35 HC.out.ks ((k : Nat) : Int) (by omega) (by omega)
        have hx : rd_T35 p.f4 ((k : Nat) : Int) = q := HQk.out
        rw [hx, Int.toNat_natCast] at x0 x1 x2 x3 x4
        rw [hx] at l3 g3 l4 g4
        subst ea
        replace x0 := (H0.out.step HB.out) _ _ x0
        replace x1 := (H0.out.step HB.out) _ _ x1
        replace x2 := (H0.out.step HB.out) _ _ x2
        replace x3 := (H0.out.step HB.out) _ _ x3
        replace x4 := (H0.out.step HB.out) _ _ x4
        have e4 := HP.out.c4
        have HG3 : Hid (PlC w0 q B3 B4) := Lib.hid ⟨g3, g4⟩
        clear g3 g4 hx
        have s0 := HQ.out.c0
        have s1 := HQ.out.c1
        have s2 := HQ.out.c2
        have s3 := HQ.out.c3
        have s4 := HQ.out.c4
        have t0 := HQ.out.fr 0
        have t1 := HQ.out.fr 1
        have t2 := HQ.out.fr 2
        have t3 := HQ.out.fr 3
        have t4 := HQ.out.fr 4
        have hka := eq_true (show (0 : Int) ≤ ((k : Nat) : Int) by omega)
        go_wp2
        refine bodyPost_ret (results_ct rfl _ _ (w.heap.size + 1) 35 #[.int .i64 q.f0, .int .i64 q.f1, .int .i64 q.f2, .slice B3 q.f3.length b3, .slice B4 q.f4.length b4] (0, 0) _ rfl (HQ.out.five _ _ _ _ _) Tryd.underlying35 rfl rfl) rfl (.inl ⟨q, B3, B4, b3, b4, HE.out, rfl, HG3.out, ?_⟩)
        exact five_below HB.out (by omega) _ _ _ _ _
      · have HE : Hid (R = none) := Lib.hid (by rw [HR5.out, ← brk_L, hb, Option.bind_some, if_neg (by omega)])
        have hkd : decide ((k : Int) < (p.f4.length : Int)) = false := decide_eq_false (by omega)
        clear hb h6 h5 HR HR5 HBk
        have e4 := HP.out.c4
        go_enter Tryd.func34, Tryd.ntmps34
        go_wp2_with fail
        rw [← hW]
        clear hW
        refine (HBz.out _).mono ?_
        rintro e2 w2 ⟨rfl, rfl⟩
        have s0 := HQ.out.c0
        have s1 := HQ.out.c1
        have s2 := HQ.out.c2
        have s3 := HQ.out.c3
        have s4 := HQ.out.c4
        have t0 := HQ.out.fr 0
        have t1 := HQ.out.fr 1
        have t2 := HQ.out.fr 2
        have t3 := HQ.out.fr 3
        have t4 := HQ.out.fr 4
        go_wp2
        exact bodyPost_ret (results_ct rfl _ _ (w.heap.size + 1) 35 #[.int .i64 0, .int .i64 0, .int .i64 0, .slice none 0 0, .slice none 0 0] (0, 0) _ rfl (HQ.out.five _ _ _ _ _) Tryd.underlying35 rfl rfl) rfl (.inr ⟨HE.out, rfl, five_below HB.out (by omega) _ _ _ _ _⟩)
  · have a5 : (p.f0 == 5) = false := by simpa using h5
    have HE : Hid (R = none) := Lib.hid (by rw [← HR.out]; unfold stp; rw [if_neg h6, if_neg h5])
    clear h6 h5 HR
    go_enter Tryd.func34, Tryd.ntmps34
    go_upto_region 9 with (fail)
    rw [← hW]
    clear hW
    have s0 := HQ.out.c0
    have s1 := HQ.out.c1
    have s2 := HQ.out.c2
    have s3 := HQ.out.c3
    have s4 := HQ.out.c4
    have t0 := HQ.out.fr 0
    have t1 := HQ.out.fr 1
    have t2 := HQ.out.fr 2
    have t3 := HQ.out.fr 3
    have t4 := HQ.out.fr 4
    go_wp2
    exact bodyPost_ret (results_ct rfl _ _ (w.heap.size + 1) 35 #[.int .i64 0, .int .i64 0, .int .i64 0, .slice none 0 0, .slice none 0 0] (0, 0) _ rfl (HQ.out.five _ _ _ _ _) Tryd.underlying35 rfl rfl) rfl (.inr ⟨HE.out, rfl, five_below HB.out (by omega) _ _ _ _ _⟩)
end Go.Proofs.YtgbliniamkpocaaDoor.Jp
