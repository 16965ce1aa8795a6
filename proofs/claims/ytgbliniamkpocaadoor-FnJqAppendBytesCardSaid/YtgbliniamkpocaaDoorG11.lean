/- Texts of this claim, laid together. -/
import Derived.Test.YtgbliniamkpocaaDoorJpRdd
import Derived.Test.YtgbliniamkpocaaDoorJpUqa
/- spec.Places and jpPlaces, walked by hand. -/
namespace Go.Proofs.YtgbliniamkpocaaDoor.Jp
open Go.RowKit Go.Proofs.YtgbliniamkpocaaDoorW.PrintWords Go.Proofs.YtgbliniamkpocaaDoor.Kit Go.Proofs.YtgbliniamkpocaaDoor.Pure Go.Proofs.YtgbliniamkpocaaDoor.PPl

theorem value_c {g : Nat} {s : ByteArray} (hs : s.size ≤ 1000000000000) : ∀ (d i : Nat) (w : World), s.size - i ≤ d → i ≤ s.size → Rdr w g s i → Calls Tryd.prog 48 #[.pointer (some ⟨g, 0, none⟩)] w (ValP g s i w) := by
  intro d
  induction d with
  | zero => exact fun i w hd hi hR => value_s (fun h => by omega) (fun h => by omega) hR hi hs
  | succ d ih => exact fun i w hd hi hR => value_s (fun h w1 h1 => members_c (fun j w2 hj hjs h2 => ih j w2 (by omega) hjs h2) h1 h hs) (fun h w1 h1 => elements_c (fun j w2 hj hjs h2 => ih j w2 (by omega) hjs h2) h1 h hs) hR hi hs
/-- What Places comes to. -/
def PlsP (L : List Int) (w : World) (e : Ending) (w' : World) : Prop :=
  (∃ (p : S35) (A3 A4 : Option Addr) (c3 c4 : Nat), e = .returned (.tuple #[.agg #[.int .i64 p.f0, .int .i64 p.f1, .int .i64 p.f2, .slice A3 p.f3.length c3, .slice A4 p.f4.length c4], .bool true]) ∧ Doc L p ∧ Mk w w' (.slice A3 p.f3.length c3) (.slice A4 p.f4.length c4) p.f3 p.f4 ∧ Below w.heap.size w w') ∨
  (e = .returned (.tuple #[.agg #[.int .i64 0, .int .i64 0, .int .i64 0, .slice none 0 0, .slice none 0 0], .bool false]) ∧ Below w.heap.size w w')
theorem bx_new (w : World) (o : Obj) (k x y : Int) (v3 v4 : Value) : Bx ((w.alloc (.cells #[.int .i64 k, .int .i64 x, .int .i64 y, v3, v4] 35)).alloc o) w.heap.size k x y v3 v4 := blk_alloc (blk_new w _) o
theorem went_below {g i : Nat} {s : ByteArray} {w W w1 : World} (h : Went g s W w1 i) (hb : Below w.heap.size w W) (hg : w.heap.size ≤ g) : Below w.heap.size w w1 :=
  have k := h.2.below hb.size hg
  ⟨k.os.trans hb.os, k.tape.trans hb.tape, k.output.trans hb.output, Nat.le_trans hb.size k.size, fun i hi => (k.block i hi).trans (hb.block i hi)⟩
theorem five_below {w w1 : World} {b : Nat} (h : Below w.heap.size w w1) (hb : w.heap.size ≤ b) (b0 b1 b2 b3 b4 : Value) :
    Below w.heap.size w (((((w1.setCell ⟨b, 0, none⟩ b0).setCell ⟨b, 1, none⟩ b1).setCell ⟨b, 2, none⟩ b2).setCell ⟨b, 3, none⟩ b3).setCell ⟨b, 4, none⟩ b4) :=
  ((((h.setCell hb _).setCell hb _).setCell hb _).setCell hb _).setCell hb _
set_option maxHeartbeats 16000000 in
set_option maxRecDepth 100000 in
theorem places_c (s : ByteArray) (w : World) (hs : s.size ≤ 1000000000000) : Calls Tryd.prog 32 #[.string s] w (PlsP (Kit.nums s) w) := by
  have hs2 : s.size ≤ 140737488355000 := by omega
  have hu1 := Tryd.underlying35
  have hu2 := Tryd.underlying83
  go_enter Tryd.func32, Tryd.ntmps32
  go_wp2_with fail
  obtain ⟨W, hW⟩ : ∃ W, W = (w.alloc (.cells #[.int .i64 0, .int .i64 0, .int .i64 0, .slice none 0 0, .slice none 0 0] 35)).alloc (.cells #[.string s, .int .i64 0] 83) := ⟨_, rfl⟩
  have hR0 : Rdr W (w.heap.size + 1) s 0 := by
    rw [hW]
    have := blk_new (w.alloc (.cells #[.int .i64 0, .int .i64 0, .int .i64 0, .slice none 0 0, .slice none 0 0] 35)) (.cells #[.string s, .int .i64 0] 83)
    rw [alloc_size] at this
    exact this
  have hQ0 : Bx W w.heap.size 0 0 0 (.slice none 0 0) (.slice none 0 0) := by rw [hW]; exact bx_new _ _ _ _ _ _ _
  have hB0 : Below w.heap.size w W := by rw [hW]; exact below_alloc (below_alloc (Below.refl _ _) _) _
  rw [← hW]
  have HB0 := Lib.hid hB0
  clear hW hB0
  refine (blanks_c hR0 (Nat.zero_le _) hs2).mono ?_
  rintro e1 w1 ⟨rfl, hw1⟩
  have hb0 := bl_le (Kit.nums s) 0 (Nat.zero_le _)
  rw [nums_len] at hb0
  have HQ1 := Lib.hid (hQ0.gr hw1.gr (by omega))
  have HW1 := Lib.hid hw1
  clear hw1 hQ0 hR0
  go_wp2_with fail
  refine (value_c hs _ _ _ (Nat.le_refl _) hb0.2 HW1.out.rd).mono ?_
  rintro e2 w2 (⟨p, A3, A4, c3, c4, j, rfl, hw2, hv, hmk⟩ | ⟨k, b, e2, j, rfl, hw2⟩)
  rotate_left
  · have HQ2 := Lib.hid (HQ1.out.gr hw2.gr (by omega))
    have HW2 := Lib.hid (HW1.out.trans hw2)
    have hsz : w.heap.size + 2 ≤ w2.heap.size := by have := HW2.out.rd.lt; omega
    clear hw2 HQ1 HW1
    have s0 := HQ2.out.c0
    have s1 := HQ2.out.c1
    have s2 := HQ2.out.c2
    have s3 := HQ2.out.c3
    have s4 := HQ2.out.c4
    have t0 := HQ2.out.fr 0
    have t1 := HQ2.out.fr 1
    have t2 := HQ2.out.fr 2
    have t3 := HQ2.out.fr 3
    have t4 := HQ2.out.fr 4
    have hlt : w.heap.size < w2.heap.size := by omega
    have hne : w.heap.size ≠ w2.heap.size := by omega
    have hne' : w2.heap.size ≠ w.heap.size := by omega
    go_wp2
    exact bodyPost_ret (results_ct rfl _ _ w.heap.size 35 #[.int .i64 0, .int .i64 0, .int .i64 0, .slice none 0 0, .slice none 0 0] (0, 0) _ rfl (blk_alloc (HQ2.out.five _ _ _ _ _) _) Tryd.underlying35 rfl rfl) rfl
      (.inr ⟨rfl, below_alloc (five_below (went_below HW2.out HB0.out (by omega)) (Nat.le_refl _) _ _ _ _ _) _⟩)
  obtain ⟨n, hv⟩ := hv
  have hj := (v_lt n).1 _ _ _ (by rw [nums_len]; exact hb0.2) hv
  rw [nums_len] at hj
  have HV := Lib.hid hv
  have hsz1 : w.heap.size + 2 ≤ w1.heap.size := by have := HW1.out.rd.lt; omega
  have HQ2 := Lib.hid (HQ1.out.gr hw2.gr (by omega))
  have HW2 := Lib.hid (HW1.out.trans hw2)
  have HK : Hid (MkB w1.heap.size w2 (.slice A3 p.f3.length c3) (.slice A4 p.f4.length c4) p.f3 p.f4) := Lib.hid hmk
  have hsz2 : w1.heap.size ≤ w2.heap.size := hw2.gr.1.size
  clear hw2 hv hmk HQ1 HW1
  go_wp2_with fail
  refine (blanks_c (HW2.out.alloc _).rd hj.2 hs2).mono ?_
  rintro e3 w3 ⟨rfl, hw3⟩
  have hbj := bl_le (Kit.nums s) j (by rw [nums_len]; exact hj.2)
  have HW3 := Lib.hid ((HW2.out.alloc _).trans hw3)
  have HQ3 : Hid (Bx w3 w.heap.size 0 0 0 (.slice none 0 0) (.slice none 0 0)) := Lib.hid (Bx.gr (blk_alloc HQ2.out _) hw3.gr (by omega))
  have HP3 : Hid (Bx w3 w2.heap.size p.f0 p.f1 p.f2 (.slice A3 p.f3.length c3) (.slice A4 p.f4.length c4)) := Lib.hid (Bx.gr (blk_new w2 _) hw3.gr (by have := HW2.out.rd.lt; omega))
  have HK3 : Hid (MkB w1.heap.size w3 (.slice A3 p.f3.length c3) (.slice A4 p.f4.length c4) p.f3 p.f4) := Lib.hid ⟨R_gr (Kd.R_alloc HK.out.1 _) hw3.gr (by omega), R_gr (Kd.R_alloc HK.out.2 _) hw3.gr (by omega)⟩
  clear hw3 HW2 HQ2 HK
  have r1 := HW3.out.rd.c1
  have s0 := HQ3.out.c0
  have s1 := HQ3.out.c1
  have s2 := HQ3.out.c2
  have s3 := HQ3.out.c3
  have s4 := HQ3.out.c4
  have t0 := HQ3.out.fr 0
  have t1 := HQ3.out.fr 1
  have t2 := HQ3.out.fr 2
  have t3 := HQ3.out.fr 3
  have t4 := HQ3.out.fr 4
  have d0 := HP3.out.c0
  have d1 := HP3.out.c1
  have d2 := HP3.out.c2
  have d3 := HP3.out.c3
  have d4 := HP3.out.c4
  have hne : w.heap.size ≠ w2.heap.size := by omega
  have hne' : w2.heap.size ≠ w.heap.size := by omega
  by_cases he : bl (Kit.nums s) j = s.size
  · have a0 : (((bl (Kit.nums s) j : Nat) : Int) != (s.size : Int)) = false := by rw [bne_eq_false_iff_eq]; omega
    have HD : Hid (Doc (Kit.nums s) p) := Lib.hid ⟨n, j, HV.out, by rw [he, nums_len]⟩
    clear he HV
    go_wp2
    exact bodyPost_ret (results_ct rfl _ _ w.heap.size 35 #[.int .i64 p.f0, .int .i64 p.f1, .int .i64 p.f2, .slice A3 p.f3.length c3, .slice A4 p.f4.length c4] (0, 0) _ rfl (HQ3.out.five _ _ _ _ _) Tryd.underlying35 rfl rfl) rfl
      (.inl ⟨p, A3, A4, c3, c4, rfl, HD.out, MkB.low (B := w1.heap.size) (by (repeat (first | with_reducible exact HK3.out | with_reducible refine MkB.off ?_ (by omega) _)); all_goals exact HK3.out) (by omega), five_below (went_below HW3.out HB0.out (by omega)) (Nat.le_refl _) _ _ _ _ _⟩)
  · have a0 : (((bl (Kit.nums s) j : Nat) : Int) != (s.size : Int)) = true := by rw [bne_iff_ne]; omega
    clear he HV
    go_wp2
    exact bodyPost_ret (results_ct rfl _ _ w.heap.size 35 #[.int .i64 0, .int .i64 0, .int .i64 0, .slice none 0 0, .slice none 0 0] (0, 0) _ rfl (HQ3.out.five _ _ _ _ _) Tryd.underlying35 rfl rfl) rfl
      (.inr ⟨rfl, five_below (went_below HW3.out HB0.out (by omega)) (Nat.le_refl _) _ _ _ _ _⟩)
end Go.Proofs.YtgbliniamkpocaaDoor.Jp
/- The reference's reader of strings, walked by hand: Unquote. -/
namespace Go.Proofs.YtgbliniamkpocaaDoor.Jp
open Go.RowKit Go.Proofs.YtgbliniamkpocaaDoorW.PrintWords Go.Proofs.YtgbliniamkpocaaDoor.Kit

theorem getD1 {L : List Int} {i : Nat} : (L.drop i).getD 1 0 = gb L (i + 1) := drop_gb
theorem uni_sg {L : List Int} {i : Nat} (h0 : gb L i = 92) (h1 : gb L (i + 1) = 117) (h : (sg (L.drop i)).2 = true) : uni L i = ((sg (L.drop i)).1, true) ∧ i + 6 ≤ L.length := by
  have h6 := sg_len h
  rw [List.length_drop] at h6
  unfold uni
  rw [if_pos ⟨by omega, h0, h1, h⟩]
  exact ⟨rfl, by omega⟩
/-- One escape, as the reference reads it. -/
theorem uq_step {L bs : List Int} {i m : Nat} (h0 : gb L i = 92) (h : u1 (L.drop i) = some (m, bs)) :
    (uni L i = (0, false) ∧ i + 1 < L.length ∧ m = 2 ∧ bs = [sh (gb L (i + 1))]) ∨
    (∃ n, uni L i = (n, true) ∧ i + 6 ≤ L.length ∧ 0 ≤ n ∧ n ≤ 65535 ∧ ((uni L (i + 6) = (0, false)) ∨ (∃ k, uni L (i + 6) = (k, true) ∧ ¬ (55296 ≤ n ∧ n ≤ 56319)) ∨ (∃ k, uni L (i + 6) = (k, true) ∧ (55296 ≤ n ∧ n ≤ 56319) ∧ ¬ (56320 ≤ k ∧ k ≤ 57343))) ∧ m = 6 ∧ bs = Lib.encodeRuneZ n) ∨
    (∃ n k, uni L i = (n, true) ∧ uni L (i + 6) = (k, true) ∧ (55296 ≤ n ∧ n ≤ 56319) ∧ (56320 ≤ k ∧ k ≤ 57343) ∧ i + 12 ≤ L.length ∧ m = 12 ∧ bs = Lib.encodeRuneZ (65536 + (n - 55296) * 1024 + (k - 56320))) := by
  unfold u1 at h
  rw [getD1] at h
  split at h
  · cases h
  rename_i hlen
  rw [List.length_drop] at hlen
  split at h
  · rename_i hs
    simp only [Option.some.injEq, Prod.mk.injEq] at h
    obtain ⟨rfl, rfl⟩ := h
    left
    refine ⟨?_, by omega, rfl, rfl⟩
    unfold uni
    rw [if_neg]
    intro h
    unfold isSh at hs
    have := h.2.2.1
    omega
  split at h
  rotate_left
  · cases h
  rename_i h117
  split at h
  · cases h
  rename_i hd
  right
  simp only [Option.some.injEq, Prod.mk.injEq] at h
  obtain ⟨rfl, rfl⟩ := h
  have hsg : (sg (L.drop i)).2 = true := by
    by_cases hh : (sg (L.drop i)).2 = true
    · exact hh
    · exfalso
      apply hd
      unfold dec
      rw [if_pos (by simpa using hh)]
  obtain ⟨hu, hl6⟩ := uni_sg h0 h117 hsg
  have hr := sg_range (L.drop i)
  have hr2 := sg_range (L.drop (i + 6))
  have e65 : Lib.encodeRuneZ 65533 = [239, 191, 189] := by decide
  have ehalf : ∀ n : Int, 55296 ≤ n → n ≤ 57343 → Lib.encodeRuneZ n = [239, 191, 189] := fun n a b => by
    unfold Lib.encodeRuneZ
    rw [if_neg (by omega), if_neg (by omega), if_neg (by omega), if_neg (by omega)]
  have hk : uni L (i + 6) = (0, false) ∨ ∃ k, uni L (i + 6) = (k, true) ∧ gb L (i + 6) = 92 ∧ gb L (i + 7) = 117 ∧ i + 12 ≤ L.length ∧ sg (L.drop (i + 6)) = (k, true) := by
    unfold uni
    split
    · rename_i h2
      exact .inr ⟨_, rfl, h2.2.1, h2.2.2.1, by have := h2.1; omega, by rw [← h2.2.2.2]⟩
    · exact .inl rfl
  have e6 : (L.drop i).getD 6 0 = gb L (i + 6) := drop_gb
  have e7 : (L.drop i).getD 7 0 = gb L (i + 7) := drop_gb
  have ed : (L.drop i).drop 6 = L.drop (i + 6) := by rw [List.drop_drop]
  unfold dec at hd ⊢
  rw [if_neg (by simp [hsg]), e6, e7, ed] at hd ⊢
  obtain ⟨n, hn⟩ : ∃ n, (sg (L.drop i)).1 = n := ⟨_, rfl⟩
  rw [hn] at hd hu hr ⊢
  by_cases c1 : ¬ (55296 ≤ n ∧ n ≤ 57343)
  · rw [if_pos c1]
    left
    refine ⟨n, hu, hl6, hr.1, hr.2, ?_, rfl, rfl⟩
    rcases hk with hk | ⟨k, hk, _⟩
    · exact .inl hk
    · exact .inr (.inl ⟨k, hk, by omega⟩)
  rw [if_neg c1] at hd ⊢
  by_cases c2 : 56320 ≤ n
  · rw [if_pos c2]
    left
    refine ⟨n, hu, hl6, hr.1, hr.2, ?_, rfl, by rw [e65, ehalf n (by omega) (by omega)]⟩
    rcases hk with hk | ⟨k, hk, _⟩
    · exact .inl hk
    · exact .inr (.inl ⟨k, hk, by omega⟩)
  rw [if_neg c2] at hd ⊢
  by_cases c3 : (L.drop i).length < 8 ∨ gb L (i + 6) ≠ 92 ∨ gb L (i + 7) ≠ 117
  · rw [if_pos c3]
    left
    refine ⟨n, hu, hl6, hr.1, hr.2, .inl ?_, rfl, by rw [e65, ehalf n (by omega) (by omega)]⟩
    rcases hk with hk | ⟨k, hk, g1, g2, g3, _⟩
    · exact hk
    · rw [List.length_drop] at c3
      exact absurd c3 (by omega)
  rw [if_neg c3] at hd ⊢
  by_cases c4 : (sg (L.drop (i + 6))).2 = false
  · rw [if_pos c4] at hd
    exact absurd rfl hd
  rw [if_neg c4]
  have c4' : (sg (L.drop (i + 6))).2 = true := by simpa using c4
  obtain ⟨hu2, hl12⟩ := uni_sg (show gb L (i + 6) = 92 by omega) (show gb L (i + 7) = 117 by omega) c4'
  obtain ⟨k, hk2⟩ : ∃ k, (sg (L.drop (i + 6))).1 = k := ⟨_, rfl⟩
  rw [hk2] at hu2 ⊢
  by_cases c5 : k < 56320 ∨ 57343 < k
  · rw [if_pos c5]
    left
    exact ⟨n, hu, hl6, hr.1, hr.2, .inr (.inr ⟨k, hu2, by omega, by omega⟩), rfl, by rw [e65, ehalf n (by omega) (by omega)]⟩
  · rw [if_neg c5]
    right
    exact ⟨n, k, hu, hu2, by omega, by omega, by omega, rfl, rfl⟩
theorem un_at {L t : List Int} {i : Nat} (hi : i < L.length) (h : un (L.drop i) = some t) :
    (gb L i ≠ 92 ∧ ∃ t', un (L.drop (i + 1)) = some t' ∧ t = gb L i :: t') ∨ (gb L i = 92 ∧ ∃ m bs t', u1 (L.drop i) = some (m, bs) ∧ un (L.drop (i + m)) = some t' ∧ t = bs ++ t') := by
  have hd : L.drop i = gb L i :: L.drop (i + 1) := by
    rw [List.drop_eq_getElem_cons hi]
    simp [gb, hi]
  by_cases h92 : gb L i = 92
  · right
    refine ⟨h92, ?_⟩
    cases hu : u1 (L.drop i) with
    | none =>
      rw [hd, h92] at hu h
      rw [un_none hu] at h
      cases h
    | some mb =>
      obtain ⟨m, bs⟩ := mb
      have hu' := hu
      rw [hd, h92] at hu' h
      rw [un_some hu', ← h92, ← hd, List.drop_drop] at h
      obtain ⟨t', h1, h2⟩ := Option.map_eq_some_iff.1 h
      exact ⟨m, bs, t', rfl, h1, h2.symm⟩
  · left
    refine ⟨h92, ?_⟩
    rw [hd, un_cons _ h92] at h
    obtain ⟨t', h1, h2⟩ := Option.map_eq_some_iff.1 h
    exact ⟨t', h1, h2.symm⟩
/-- The loop's state. -/
def UqS (L r : List Int) (w wc : World) (v : Value) (i : Nat) : Prop := ∃ acc t, Bu w wc v acc ∧ i ≤ L.length ∧ acc.length ≤ i ∧ un (L.drop i) = some t ∧ acc ++ t = r
set_option maxHeartbeats 16000000 in
set_option maxRecDepth 100000 in
theorem uq_c (s : ByteArray) (r : List Int) (w : World) (hs2 : 2 ≤ s.size) (hsz : s.size ≤ 140737488355000) (h : un (Kit.nums (s.extract 1 (s.size - 1))) = some r) :
    Calls Tryd.prog 35 #[.string s] w fun e w' => e = .returned (.string (strOfNums r)) ∧ Below w.heap.size w w' := by
  have H0 := Lib.hid h
  clear h
  have ws : IntKind.i64.wrap ((s.size : Int) - 1) = ((s.size - 1 : Nat) : Int) := by rw [IntKind.wrap_i64]; omega
  go_enter Tryd.func35, Tryd.ntmps35
  go_wp2
  have hts : (s.extract 1 (s.size - 1)).size = s.size - 2 := by simp; omega
  generalize s.extract 1 (s.size - 1) = t at H0 hts ⊢
  obtain ⟨L, hL⟩ : ∃ L, Kit.nums t = L := ⟨_, rfl⟩
  have hlen : L.length = t.size := by rw [← hL, nums_len]
  rw [hL] at H0
  go_loopw [3, 5] (fun v3 v5 wc => ∃ i : Nat, v5 = .int .i64 i ∧ Hid (UqS L r w wc v3 i)) (fun _ v5 _ => t.size - (intOf v5).toNat)
  case atStart => exact ⟨0, rfl, Lib.hid ⟨[], r, ⟨Kd.R_nil _ _ _ _ _, Below.refl _ _⟩, Nat.zero_le _, Nat.le_refl _, H0.out, rfl⟩⟩
  case round =>
    obtain ⟨i, rfl, HU⟩ := hrel
    obtain ⟨acc, tt, hB, hi, hal, hun, hacc⟩ := HU.out
    clear HU
    have HB := Lib.hid hB
    clear hB
    by_cases hlt : i < L.length
    · have hlt' : i < t.size := by omega
      have e0 : gb L i = (t[i].toNat : Int) := by rw [← hL]; exact nums_get t i hlt'
      rcases un_at hlt hun with ⟨h92, t', hun', rfl⟩ | ⟨h92, m, bs, t', hu1, hun', rfl⟩
      · obtain ⟨x, hx⟩ : ∃ x, (t[i].toNat : Int) = x := ⟨_, rfl⟩
        have a0 : ((t[i].toNat : Int) != 92) = true := by rw [← e0]; simpa using h92
        have HP : Hid (i + 1 ≤ L.length ∧ (acc ++ [(t[i].toNat : Int)]).length ≤ i + 1 ∧ un (L.drop (i + 1)) = some t' ∧ (acc ++ [(t[i].toNat : Int)]) ++ t' = r) := Lib.hid ⟨by omega, by simp; omega, hun', by rw [← e0, List.append_assoc]; exact hacc⟩
        clear hun hun' hacc e0 h92 hx
        go_wp2_with (first | ((with_reducible refine gate_builtin (b := .append) (xs := #[.tmp 23, .tmp 27]) rfl ?_); at_builtin; refine app_lit (w0 := w) rfl (.tmp 23) (.tmp 27) rfl [(t[i].toNat : Int)] u3 acc rfl rfl (by first | exact HB.out | exact HB.out.drewN _ | exact (HB.out.drewN _).drewN _ | exact ((HB.out.drewN _).drewN _).drewN _) (by simp; omega) ?_; intro v1 w1 hb1; have HB1 := Lib.hid hb1; clear hb1))
        go_round
        case rel => exact ⟨i + 1, by go_num, Lib.hid ⟨acc ++ [(t[i].toNat : Int)], t', HB1.out, HP.out.1, HP.out.2.1, HP.out.2.2.1, HP.out.2.2.2⟩⟩
        case measure => have := HP.out.1; simp [intOf]; omega
      · have a0 : ((t[i].toNat : Int) != 92) = false := by rw [← e0]; simp [h92]
        rcases uq_step h92 hu1 with ⟨g1, g2, rfl, rfl⟩ | ⟨n, g1, g6, g2, g3, g4, rfl, rfl⟩ | ⟨n, k, g1, g2, g3, g4, g5, rfl, rfl⟩
        · have hi1 : i + 1 < t.size := by omega
          have e1 : gb L (i + 1) = (t[i + 1].toNat : Int) := by rw [← hL]; exact nums_get t (i + 1) hi1
          have U1 : Hid (∀ w : World, Calls Tryd.prog 50 #[.string t, .int .i64 i] w fun e w' => e = .returned (.tuple #[.int .i64 0, .bool false]) ∧ Drawn0 w w') := Lib.hid (fun w => by have := unit_c t (i) w (by omega) (by omega); rw [hL, g1] at this; exact this)
          rw [e1] at hacc
          have HP : Hid (i + 2 ≤ L.length ∧ (acc ++ [sh (t[i + 1].toNat : Int)]).length ≤ i + 2 ∧ un (L.drop (i + 2)) = some t' ∧ (acc ++ [sh (t[i + 1].toNat : Int)]) ++ t' = r) := Lib.hid ⟨by omega, by rw [List.length_append]; simp; omega, hun', by rw [List.append_assoc]; exact hacc⟩
          clear hun hun' hacc e0 e1 h92 hu1 g1 g2
          go_wp2_with (first | (go_at_call 50; (with_reducible refine (U1.out _).mono ?_); rintro e1 w1 ⟨rfl, ⟨⟨n1, rfl⟩⟩⟩) | (go_at_call 51; (with_reducible refine (sh_c _ _).mono ?_); rintro e1 w1 ⟨rfl, rfl⟩) | ((with_reducible refine gate_builtin (b := .append) (xs := #[.tmp 39, .tmp 45]) rfl ?_); at_builtin; refine app_lit (w0 := w) rfl (.tmp 39) (.tmp 45) rfl [sh (t[i + 1].toNat : Int)] u3 acc rfl rfl (by first | exact HB.out | exact HB.out.drewN _ | exact (HB.out.drewN _).drewN _ | exact ((HB.out.drewN _).drewN _).drewN _) (by simp; omega) ?_; intro v1 w1 hb1; have HB1 := Lib.hid hb1; clear hb1))
          go_round
          case rel => exact ⟨i + 2, by go_num, Lib.hid ⟨acc ++ [sh (t[i + 1].toNat : Int)], t', HB1.out, HP.out.1, HP.out.2.1, HP.out.2.2.1, HP.out.2.2.2⟩⟩
          case measure => have := HP.out.1; simp [intOf]; omega
        · have U1 : Hid (∀ w : World, Calls Tryd.prog 50 #[.string t, .int .i64 i] w fun e w' => e = .returned (.tuple #[.int .i64 n, .bool true]) ∧ Drawn0 w w') := Lib.hid (fun w => by have := unit_c t (i) w (by omega) (by omega); rw [hL, g1] at this; exact this)
          have hel := (enc_len n (by omega) (by omega)).2.2 g3
          have HP : Hid (i + 6 ≤ L.length ∧ (acc ++ Lib.encodeRuneZ n).length ≤ i + 6 ∧ un (L.drop (i + 6)) = some t' ∧ (acc ++ Lib.encodeRuneZ n) ++ t' = r) := Lib.hid ⟨by omega, by rw [List.length_append]; omega, hun', by rw [List.append_assoc]; exact hacc⟩
          have w6 : IntKind.i64.wrap ((i : Int) + 6) = (i : Int) + 6 := by rw [IntKind.wrap_i64]; omega
          rcases g4 with g4 | ⟨k, g4, g5⟩ | ⟨k, g4, g5, g7⟩
          · have U2 : Hid (∀ w : World, Calls Tryd.prog 50 #[.string t, .int .i64 ((i : Int) + 6)] w fun e w' => e = .returned (.tuple #[.int .i64 0, .bool false]) ∧ Drawn0 w w') := Lib.hid (fun w => by have := unit_c t (i + 6) w (by omega) (by omega); rw [hL, g4] at this; rw [show ((i + 6 : Nat) : Int) = (i : Int) + 6 by omega] at this; exact this)
            clear hun hun' hacc e0 h92 hu1 g1 g4 hel
            go_wp2_with (first | (go_at_call 50; (with_reducible refine (U1.out _).mono ?_); rintro e1 w1 ⟨rfl, ⟨⟨n1, rfl⟩⟩⟩) | (go_at_call 50; (with_reducible refine (U2.out _).mono ?_); rintro e1 w1 ⟨rfl, ⟨⟨n2, rfl⟩⟩⟩) | (go_at_call 54; (with_reducible refine (app8_c n w _ u3 acc (by first | exact HB.out | exact HB.out.drewN _ | exact (HB.out.drewN _).drewN _ | exact ((HB.out.drewN _).drewN _).drewN _) (by omega) (by omega) (by omega)).mono ?_); rintro e1 w1 ⟨v1, rfl, hb1⟩; have HB1 := Lib.hid hb1; clear hb1))
            go_round
            case rel => exact ⟨i + 6, by go_num, Lib.hid ⟨acc ++ Lib.encodeRuneZ n, t', HB1.out, HP.out.1, HP.out.2.1, HP.out.2.2.1, HP.out.2.2.2⟩⟩
            case measure => have := HP.out.1; simp [intOf]; omega
          · have U2 : Hid (∀ w : World, Calls Tryd.prog 50 #[.string t, .int .i64 ((i : Int) + 6)] w fun e w' => e = .returned (.tuple #[.int .i64 k, .bool true]) ∧ Drawn0 w w') := Lib.hid (fun w => by have := unit_c t (i + 6) w (by omega) (by omega); rw [hL, g4] at this; rw [show ((i + 6 : Nat) : Int) = (i : Int) + 6 by omega] at this; exact this)
            have HH : Hid (∀ w : World, Calls Tryd.prog 52 #[.int .i64 n] w fun e w' => e = .returned (.bool false) ∧ w' = w) := Lib.hid (fun w => by have := high_c n w; rw [decide_eq_false g5] at this; exact this)
            clear hun hun' hacc e0 h92 hu1 g1 g4 hel g5
            go_wp2_with (first | (go_at_call 50; (with_reducible refine (U1.out _).mono ?_); rintro e1 w1 ⟨rfl, ⟨⟨n1, rfl⟩⟩⟩) | (go_at_call 50; (with_reducible refine (U2.out _).mono ?_); rintro e1 w1 ⟨rfl, ⟨⟨n2, rfl⟩⟩⟩) | (go_at_call 52; (with_reducible refine (HH.out _).mono ?_); rintro e1 w1 ⟨rfl, rfl⟩) | (go_at_call 54; (with_reducible refine (app8_c n w _ u3 acc (by first | exact HB.out | exact HB.out.drewN _ | exact (HB.out.drewN _).drewN _ | exact ((HB.out.drewN _).drewN _).drewN _) (by omega) (by omega) (by omega)).mono ?_); rintro e1 w1 ⟨v1, rfl, hb1⟩; have HB1 := Lib.hid hb1; clear hb1))
            go_round
            case rel => exact ⟨i + 6, by go_num, Lib.hid ⟨acc ++ Lib.encodeRuneZ n, t', HB1.out, HP.out.1, HP.out.2.1, HP.out.2.2.1, HP.out.2.2.2⟩⟩
            case measure => have := HP.out.1; simp [intOf]; omega
          · have U2 : Hid (∀ w : World, Calls Tryd.prog 50 #[.string t, .int .i64 ((i : Int) + 6)] w fun e w' => e = .returned (.tuple #[.int .i64 k, .bool true]) ∧ Drawn0 w w') := Lib.hid (fun w => by have := unit_c t (i + 6) w (by omega) (by omega); rw [hL, g4] at this; rw [show ((i + 6 : Nat) : Int) = (i : Int) + 6 by omega] at this; exact this)
            have HH : Hid (∀ w : World, Calls Tryd.prog 52 #[.int .i64 n] w fun e w' => e = .returned (.bool true) ∧ w' = w) := Lib.hid (fun w => by have := high_c n w; rw [decide_eq_true g5] at this; exact this)
            have HL : Hid (∀ w : World, Calls Tryd.prog 53 #[.int .i64 k] w fun e w' => e = .returned (.bool false) ∧ w' = w) := Lib.hid (fun w => by have := low_c k w; rw [decide_eq_false g7] at this; exact this)
            clear hun hun' hacc e0 h92 hu1 g1 g4 hel g5 g7
            go_wp2_with (first | (go_at_call 50; (with_reducible refine (U1.out _).mono ?_); rintro e1 w1 ⟨rfl, ⟨⟨n1, rfl⟩⟩⟩) | (go_at_call 50; (with_reducible refine (U2.out _).mono ?_); rintro e1 w1 ⟨rfl, ⟨⟨n2, rfl⟩⟩⟩) | (go_at_call 52; (with_reducible refine (HH.out _).mono ?_); rintro e1 w1 ⟨rfl, rfl⟩) | (go_at_call 53; (with_reducible refine (HL.out _).mono ?_); rintro e1 w1 ⟨rfl, rfl⟩) | (go_at_call 54; (with_reducible refine (app8_c n w _ u3 acc (by first | exact HB.out | exact HB.out.drewN _ | exact (HB.out.drewN _).drewN _ | exact ((HB.out.drewN _).drewN _).drewN _) (by omega) (by omega) (by omega)).mono ?_); rintro e1 w1 ⟨v1, rfl, hb1⟩; have HB1 := Lib.hid hb1; clear hb1))
            go_round
            case rel => exact ⟨i + 6, by go_num, Lib.hid ⟨acc ++ Lib.encodeRuneZ n, t', HB1.out, HP.out.1, HP.out.2.1, HP.out.2.2.1, HP.out.2.2.2⟩⟩
            case measure => have := HP.out.1; simp [intOf]; omega
        · have U1 : Hid (∀ w : World, Calls Tryd.prog 50 #[.string t, .int .i64 i] w fun e w' => e = .returned (.tuple #[.int .i64 n, .bool true]) ∧ Drawn0 w w') := Lib.hid (fun w => by have := unit_c t (i) w (by omega) (by omega); rw [hL, g1] at this; exact this)
          have U2 : Hid (∀ w : World, Calls Tryd.prog 50 #[.string t, .int .i64 ((i : Int) + 6)] w fun e w' => e = .returned (.tuple #[.int .i64 k, .bool true]) ∧ Drawn0 w w') := Lib.hid (fun w => by have := unit_c t (i + 6) w (by omega) (by omega); rw [hL, g2] at this; rw [show ((i + 6 : Nat) : Int) = (i : Int) + 6 by omega] at this; exact this)
          have HH : Hid (∀ w : World, Calls Tryd.prog 52 #[.int .i64 n] w fun e w' => e = .returned (.bool true) ∧ w' = w) := Lib.hid (fun w => by have := high_c n w; rw [decide_eq_true g3] at this; exact this)
          have HL : Hid (∀ w : World, Calls Tryd.prog 53 #[.int .i64 k] w fun e w' => e = .returned (.bool true) ∧ w' = w) := Lib.hid (fun w => by have := low_c k w; rw [decide_eq_true g4] at this; exact this)
          have hel := (enc_len (65536 + (n - 55296) * 1024 + (k - 56320)) (by omega) (by omega)).2.1
          have HP : Hid (i + 12 ≤ L.length ∧ (acc ++ Lib.encodeRuneZ (65536 + (n - 55296) * 1024 + (k - 56320))).length ≤ i + 12 ∧ un (L.drop (i + 12)) = some t' ∧ (acc ++ Lib.encodeRuneZ (65536 + (n - 55296) * 1024 + (k - 56320))) ++ t' = r) := Lib.hid ⟨by omega, by rw [List.length_append]; omega, hun', by rw [List.append_assoc]; exact hacc⟩
          have w6 : IntKind.i64.wrap ((i : Int) + 6) = (i : Int) + 6 := by rw [IntKind.wrap_i64]; omega
          have w7 : IntKind.i64.wrap (n - 55296) = n - 55296 := by rw [IntKind.wrap_i64]; omega
          have w8 : IntKind.i64.wrap ((n - 55296) * 1024) = (n - 55296) * 1024 := by rw [IntKind.wrap_i64]; omega
          have w9 : IntKind.i64.wrap (65536 + (n - 55296) * 1024) = 65536 + (n - 55296) * 1024 := by rw [IntKind.wrap_i64]; omega
          have wa : IntKind.i64.wrap (k - 56320) = k - 56320 := by rw [IntKind.wrap_i64]; omega
          have wb : IntKind.i64.wrap (65536 + (n - 55296) * 1024 + (k - 56320)) = 65536 + (n - 55296) * 1024 + (k - 56320) := by rw [IntKind.wrap_i64]; omega
          have wc : IntKind.i64.wrap ((i : Int) + 6 + 6) = (i : Int) + 6 + 6 := by rw [IntKind.wrap_i64]; omega
          clear hun hun' hacc e0 h92 hu1 g1 g2 hel
          go_wp2_with (first | (go_at_call 50; (with_reducible refine (U1.out _).mono ?_); rintro e1 w1 ⟨rfl, ⟨⟨n1, rfl⟩⟩⟩) | (go_at_call 50; (with_reducible refine (U2.out _).mono ?_); rintro e1 w1 ⟨rfl, ⟨⟨n2, rfl⟩⟩⟩) | (go_at_call 52; (with_reducible refine (HH.out _).mono ?_); rintro e1 w1 ⟨rfl, rfl⟩) | (go_at_call 53; (with_reducible refine (HL.out _).mono ?_); rintro e1 w1 ⟨rfl, rfl⟩) | (go_at_call 54; (with_reducible refine (app8_c (65536 + (n - 55296) * 1024 + (k - 56320)) w _ u3 acc (by first | exact HB.out | exact HB.out.drewN _ | exact (HB.out.drewN _).drewN _ | exact ((HB.out.drewN _).drewN _).drewN _) (by omega) (by omega) (by omega)).mono ?_); rintro e1 w1 ⟨v1, rfl, hb1⟩; have HB1 := Lib.hid hb1; clear hb1))
          go_round
          case rel => exact ⟨i + 12, by go_num, Lib.hid ⟨acc ++ Lib.encodeRuneZ (65536 + (n - 55296) * 1024 + (k - 56320)), t', HB1.out, HP.out.1, HP.out.2.1, HP.out.2.2.1, HP.out.2.2.2⟩⟩
          case measure => have := HP.out.1; simp [intOf]; omega
    · have hie : i = L.length := by omega
      rw [List.drop_eq_nil_of_le (by omega), un_nil] at hun
      cases hun
      rw [List.append_nil] at hacc
      subst hacc
      have hcv := own_string (P := Tryd.prog) Tryd.underlying57 Tryd.underlying5 Tryd.underlying9 (Kd.own_of_R HB.out.1)
      go_wp2
      go_ret
      exact ⟨rfl, HB.out.2⟩
end Go.Proofs.YtgbliniamkpocaaDoor.Jp
