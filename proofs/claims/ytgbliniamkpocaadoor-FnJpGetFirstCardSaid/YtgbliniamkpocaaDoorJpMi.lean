/- jpMisses, walked by hand. -/
import Derived.Test.YtgbliniamkpocaaDoorJpFo
namespace Go.Proofs.YtgbliniamkpocaaDoor.Jp
open Go.RowKit Go.Proofs.YtgbliniamkpocaaDoorW.PrintWords Go.Proofs.YtgbliniamkpocaaDoor.Kit Go.Proofs.YtgbliniamkpocaaDoor.Pure Go.Proofs.YtgbliniamkpocaaDoor.PPl

set_option maxRecDepth 100000 in
theorem keys_take (K : Option Addr) (ks : List ByteArray) (ck n : Nat) (hn : n ≤ ks.length) (hc : ks.length ≤ ck) : (∀ W : World, (Instr.slice 26 (.slice K ks.length ck) none (some (.int .i64 (n : Int))) none).run Tryd.prog W = .ok (.slice K n ck) W) ∧ (ks.take n).length = n ∧
    ∀ W : World, KeysR W K ks → KeysR W K (ks.take n) := by
  have hl : (ks.take n).length = n := by rw [List.length_take]; omega
  obtain ⟨i9, hi9, hsz9⟩ : ∃ i, Tryd.prog.info? 9 = some i ∧ i.size = 1 := ⟨_, rfl, rfl⟩
  refine ⟨fun W => ?_, hl, fun W h => ?_⟩
  · have he : Tryd.prog.elem 26 = 9 := by simp [Program.elem, Tryd.underlying26]
    have hu : Tryd.prog.underlying 26 = some (.slice (Tryd.prog.elem 26)) := by
      have : Tryd.prog.elem 26 = 9 := by simp [Program.elem, Tryd.underlying26]
      rw [this]
      exact Tryd.underlying26
    rw [run_slice_h W 26 K ks.length ck hu .i64 (n : Int) (Int.natCast_nonneg _) (by omega), he, Int.toNat_natCast]
    simp [sizeOf, typeInfo, hi9, hsz9, sliced, Result.andThen]
    intro _
    cases K with
    | none => rfl
    | some a => simp [Addr.add]
  · unfold KeysR
    rw [hl]
    exact ReadsOf.take_ h n hn
theorem rch_le {L : List Int} : ∀ (keys : List (List Int)) (p : S35) (c : Nat), (rch L p keys c).2 ≤ c + keys.length := by
  intro keys
  induction keys with
  | nil => intro p c; exact Nat.le_refl _
  | cons key r ih =>
    intro p c
    unfold rch
    cases stp L p key with
    | none => simp
    | some q =>
      have := ih q (c + 1)
      rw [List.length_cons]
      show (rch L q r (c + 1)).2 ≤ _
      omega
/-- What jpMisses comes to. -/
def MiP (s : ByteArray) (ks : List ByteArray) (w : World) (e : Ending) (w' : World) : Prop :=
  (∃ n : Int, e = .returned (.tuple #[.int .i64 n, .bool true]) ∧ (∃ p, Doc (Kit.nums s) p ∧ s.size ≤ 65536 ∧ Ms (Kit.nums s) p (ks.map Kit.nums)) ∧ Below w.heap.size w w') ∨
  (∃ n : Int, e = .returned (.tuple #[.int .i64 n, .bool false]) ∧ Below w.heap.size w w')
set_option maxHeartbeats 16000000 in
set_option maxRecDepth 100000 in
theorem misses_c (s : ByteArray) (w : World) (K : Option Addr) (ck : Nat) (ks : List ByteArray) (hK : KeysR w K ks) (hks : ∀ k ∈ ks, k.size ≤ 2147483647) (hck : ks.length ≤ ck) : Calls Tryd.prog 13 #[.string s, .slice K ks.length ck] w (MiP s ks w) := by
  have hu1 := Tryd.underlying35
  have hkl : ks.length ≤ 9223372036854775807 := hK.2.1
  have HK := Lib.hid hK
  have HKs := Lib.hid hks
  have HCk := Lib.hid hck
  clear hK hks hck
  go_enter Tryd.func13, Tryd.ntmps13
  go_wp2_with fail
  refine (jpl_c s w).mono ?_
  rintro e2 w2 (⟨p, A3, A4, c3, c4, rfl, hd, hs65, hmk, hb2⟩ | ⟨rfl, hb2⟩)
  rotate_left
  · have HB2 := Lib.hid hb2
    clear hb2
    go_wp2
    go_ret2
    exact .inr ⟨0, rfl, below_alloc_ HB2.out _⟩
  obtain ⟨W3, hW3⟩ : ∃ W3, W3 = w2.alloc (.cells #[.int .i64 p.f0, .int .i64 p.f1, .int .i64 p.f2, .slice A3 p.f3.length c3, .slice A4 p.f4.length c4] 35) := ⟨_, rfl⟩
  obtain ⟨b, hb⟩ : ∃ b, b = w2.heap.size := ⟨_, rfl⟩
  have HX : Hid (Bx W3 b p.f0 p.f1 p.f2 (.slice A3 p.f3.length c3) (.slice A4 p.f4.length c4)) := Lib.hid (by rw [hW3, hb]; exact blk_new w2 _)
  have HB3 : Hid (Below w.heap.size w W3) := Lib.hid (by rw [hW3]; exact below_alloc_ hb2 _)
  have HP3 : Hid (PlC W3 p A3 A4) := Lib.hid (by rw [hW3]; exact (MkB.plc hmk).below (below_alloc (Below.refl _ _) _))
  have HD := Lib.hid hd
  have HS := Lib.hid hs65
  have hs2 : s.size ≤ 1000000000000 := by omega
  have e0 := HX.out.c0
  have e1 := HX.out.c1
  have e2 := HX.out.c2
  have e3 := HX.out.c3
  have e4 := HX.out.c4
  rw [hb, hW3] at e0 e1 e2 e3 e4
  clear hmk hd hb2 hs65
  go_wp2_with fail
  rw [← hW3, ← hb]
  refine (once_c s W3 p A3 A4 K c3 c4 ck ks hs2 HP3.out (Doc.gd HD.out) (HK.out.below HB3.out) HKs.out).mono ?_
  rintro e3 w4 ⟨rfl, hb4⟩
  clear e0 e1 e2 e3 e4 hb hW3
  have HX4 : Hid (Bx w4 b p.f0 p.f1 p.f2 (.slice A3 p.f3.length c3) (.slice A4 p.f4.length c4)) := Lib.hid (blk_below HX.out hb4)
  have HB4 : Hid (Below w.heap.size w w4) := Lib.hid (below_step HB3.out hb4)
  have HP4 : Hid (PlC w4 p A3 A4) := Lib.hid (HP3.out.below hb4)
  clear hb4 HX HB3 HP3
  cases hon : onB (Kit.nums s) p (ks.map Kit.nums) with
  | false =>
    clear hon
    go_wp2
    go_ret2
    exact .inr ⟨0, rfl, HB4.out⟩
  | true =>
    have HON := Lib.hid (on_of _ _ hon)
    clear hon
    have e0 := HX4.out.c0
    have e1 := HX4.out.c1
    have e2 := HX4.out.c2
    have e3 := HX4.out.c3
    have e4 := HX4.out.c4
    go_wp2_with fail
    refine (reach_c s w4 p A3 A4 K c3 c4 ck ks hs2 HP4.out (Doc.gd HD.out) (HK.out.below HB4.out) HKs.out).mono ?_
    rintro e5 w5 ⟨q, B3, B4, b3, b4, n, hr, rfl, hc5, hb5⟩
    clear e0 e1 e2 e3 e4
    have hnle : n ≤ ks.length := by
      have := rch_le (L := Kit.nums s) (ks.map Kit.nums) p 0
      rw [hr] at this
      simpa using this
    have HRc := Lib.hid hr
    have HB5 : Hid (Below w.heap.size w w5) := Lib.hid (below_step HB4.out hb5)
    clear hr hc5 hb5 HX4 HB4 HP4
    by_cases hnl : n = ks.length
    · have a0 : ((n : Int) == (ks.length : Int)) = true := by rw [beq_iff_eq]; omega
      clear hnl
      go_wp2
      go_ret2
      exact .inr ⟨0, rfl, below_alloc_ HB5.out _⟩
    have hnlt : n < ks.length := by omega
    have a0 : ((n : Int) == (ks.length : Int)) = false := by rw [beq_eq_false_iff_ne]; omega
    have wn : IntKind.i64.wrap ((n : Int) + 1) = (n : Int) + 1 := by rw [IntKind.wrap_i64]; omega
    obtain ⟨ht1, htl, ht2⟩ := keys_take K ks ck n (by omega) HCk.out
    obtain ⟨K', hk1, hk2⟩ := keys_cut K ks ck (n + 1) (by omega) HCk.out
    rw [show ((n + 1 : Nat) : Int) = (n : Int) + 1 by omega, List.length_drop] at hk1
    have HT2 := Lib.hid ht2
    have HK2 := Lib.hid hk2
    clear ht2 hk2 hnl
    obtain ⟨W6, hW6⟩ : ∃ W6, W6 = w5.alloc (.cells #[.int .i64 q.f0, .int .i64 q.f1, .int .i64 q.f2, .slice B3 q.f3.length b3, .slice B4 q.f4.length b4] 35) := ⟨_, rfl⟩
    obtain ⟨g, hg⟩ : ∃ g, g = w5.heap.size := ⟨_, rfl⟩
    have HX : Hid (Bx W6 g q.f0 q.f1 q.f2 (.slice B3 q.f3.length b3) (.slice B4 q.f4.length b4)) := Lib.hid (by rw [hW6, hg]; exact blk_new w5 _)
    have HB6 : Hid (Below w.heap.size w W6) := Lib.hid (by rw [hW6]; exact below_alloc_ HB5.out _)
    clear HB5
    go_wp2_with fail
    rw [← hW6, ← hg]
    clear hW6 hg
    have HF := found_c s W6 K ck (ks.take n) (HT2.out _ (HK.out.below HB6.out)) (fun k hk => HKs.out k (List.mem_of_mem_take hk))
    rw [htl] at HF
    refine HF.mono ?_
    clear HF htl ht1 HT2
    rintro e7 w7 (⟨p7, q7, C3, C4, d3, d4, rfl, _, hc7, hb7⟩ | ⟨rfl, hb7⟩)
    rotate_left
    · have HB7 : Hid (Below w.heap.size w w7) := Lib.hid (below_step HB6.out hb7)
      clear hb7
      go_wp2
      go_ret2
      exact .inr ⟨0, rfl, below_alloc_ HB7.out _⟩
    obtain ⟨W8, hW8⟩ : ∃ W8, W8 = w7.alloc (.cells #[.int .i64 q7.f0, .int .i64 q7.f1, .int .i64 q7.f2, .slice C3 q7.f3.length d3, .slice C4 q7.f4.length d4] 35) := ⟨_, rfl⟩
    have HX8 : Hid (Bx W8 g q.f0 q.f1 q.f2 (.slice B3 q.f3.length b3) (.slice B4 q.f4.length b4)) := Lib.hid (by rw [hW8]; exact blk_alloc (blk_below HX.out hb7) _)
    have HB8 : Hid (Below w.heap.size w W8) := Lib.hid (by rw [hW8]; exact below_alloc_ (below_step HB6.out hb7) _)
    clear hc7 hb7 HX HB6
    go_upto_region 10 with (fail)
    rw [← hW8]
    clear hW8
    have HDl : Hid ((ks.drop (n + 1)).length = ks.length - (n + 1)) := Lib.hid List.length_drop
    go_wp2_with fail
    go_loopw [56] (fun v wc => ∃ j : Nat, j ≤ ks.length - (n + 1) ∧ v = .int .i64 j ∧ Hid (Below W8.heap.size W8 wc)) (fun v _ => ks.length - (intOf v).toNat)
    case atStart => exact ⟨0, Nat.zero_le _, rfl, Lib.hid (Below.refl _ _)⟩
    case round =>
      obtain ⟨j, hj, rfl, HI⟩ := hrel
      have HBw : Hid (Below w.heap.size w wr) := Lib.hid (below_step HB8.out HI.out)
      by_cases hlt : j < ks.length - (n + 1)
      · have hkr := HK2.out _ (HK.out.below HBw.out)
        have hdl := HDl.out
        obtain ⟨kad, ek, hcell⟩ := ReadsOf.at_ hkr (j : Int) (by omega) (by omega)
        have hjd : j < (ks.drop (n + 1)).length := by omega
        have hki : rdOf ByteArray.empty (ks.drop (n + 1)) (j : Int) = (ks.drop (n + 1))[j] := by unfold rdOf; rw [Int.toNat_natCast, List.getD_eq_getElem?_getD, List.getElem?_eq_getElem hjd]; rfl
        rw [hki, Int.toNat_natCast] at hcell
        subst ek
        obtain ⟨key, hkey⟩ : ∃ key, (ks.drop (n + 1))[j] = key := ⟨_, rfl⟩
        rw [hkey] at hcell
        have HJ := Lib.hid (fun w1 => jpi_c key w1)
        clear hki hkey hkr hjd hdl
        by_cases h9 : gb (Kit.nums key) 0 = 91
        · have HJ2 : Hid (∀ w1, Calls Tryd.prog 18 #[.string key] w1 fun e w' => e = .returned (.bool true) ∧ w' = w1) := Lib.hid (fun w1 => by have := HJ.out w1; rw [decide_eq_true h9] at this; exact this)
          clear h9 HJ
          go_wp2_with (go_at_call 18; (with_reducible refine (HJ2.out _).mono ?_); rintro e4 w4 ⟨rfl, rfl⟩)
          go_ret2
          exact .inr ⟨0, rfl, HBw.out⟩
        · have HJ2 : Hid (∀ w1, Calls Tryd.prog 18 #[.string key] w1 fun e w' => e = .returned (.bool false) ∧ w' = w1) := Lib.hid (fun w1 => by have := HJ.out w1; rw [decide_eq_false h9] at this; exact this)
          clear h9 HJ
          go_wp2_with (go_at_call 18; (with_reducible refine (HJ2.out _).mono ?_); rintro e4 w4 ⟨rfl, rfl⟩)
          go_round
          case rel => exact ⟨j + 1, by omega, by go_num, HI⟩
          case measure => simp [intOf]; omega
      · have HX9 : Hid (Bx wr g q.f0 q.f1 q.f2 (.slice B3 q.f3.length b3) (.slice B4 q.f4.length b4)) := Lib.hid (blk_below HX8.out HI.out)
        obtain ⟨kad, ek, hcell⟩ := (HK.out.below HBw.out).at_ (n : Int) (by omega) (by omega)
        have hki : rdOf ByteArray.empty ks (n : Int) = ks[n] := by simp [rdOf, hnlt]
        rw [hki, Int.toNat_natCast] at hcell
        subst ek
        obtain ⟨key, hkey⟩ : ∃ key, ks[n] = key := ⟨_, rfl⟩
        rw [hkey] at hcell
        have hksz : key.size ≤ 2147483647 := HKs.out key (by rw [← hkey]; exact List.getElem_mem hnlt)
        have HBk := Lib.hid (fun w1 => brk_c key w1 (by omega))
        have HJ := Lib.hid (fun w1 => jpi_c key w1)
        have d0 := HX9.out.c0
        have HMs : Hid ((gb (Kit.nums key) 0 ≠ 91 ∨ (q.f0 = 5 ∧ brkL (Kit.nums key) ≠ none ∧ (Kit.nums key).length ≤ 20)) → Ms (Kit.nums s) p (ks.map Kit.nums)) := Lib.hid (fun h => by
          have hgd : (ks.map Kit.nums).getD n [] = Kit.nums key := by rw [List.getD_eq_getElem?_getD, List.getElem?_map, List.getElem?_eq_getElem hnlt, hkey]; rfl
          exact ms_of (by rw [nums_len]; omega) (ks.map Kit.nums) p q 0 n (Doc.gd HD.out) HON.out (by rw [HRc.out, Nat.zero_add]) (by rw [List.length_map]; exact hnlt) (by rw [hgd]; exact h))
        have hka := eq_true (show (0 : Int) ≤ (n : Int) by omega)
        have hkb := eq_true (show (n : Int) < (ks.length : Int) by omega)
        clear hki hkey hk1 HX8 HX9 HK2
        obtain ⟨m, is, HBz, HBi⟩ : ∃ (m : Int) (is : Bool), Hid (∀ w1, Calls Tryd.prog 30 #[.string key] w1 fun e w' => e = .returned (.tuple #[.int .i64 m, .bool is]) ∧ w' = w1) ∧ Hid (is = true → brkL (Kit.nums key) ≠ none) := by
          cases hb : brkR key with
          | none => exact ⟨0, false, Lib.hid (fun w1 => by have := HBk.out w1; rw [hb] at this; exact this), Lib.hid (fun h => by cases h)⟩
          | some m => exact ⟨m, true, Lib.hid (fun w1 => by have := HBk.out w1; rw [hb] at this; exact this), Lib.hid (fun _ => by rw [← brk_L, hb]; exact fun h => by cases h)⟩
        clear HBk
        by_cases h9 : gb (Kit.nums key) 0 = 91
        · have HJ2 : Hid (∀ w1, Calls Tryd.prog 18 #[.string key] w1 fun e w' => e = .returned (.bool true) ∧ w' = w1) := Lib.hid (fun w1 => by have := HJ.out w1; rw [decide_eq_true h9] at this; exact this)
          clear h9 HJ
          by_cases h5 : q.f0 = 5
          · have a5 : (q.f0 == 5) = true := by simpa using h5
            cases is with
            | true =>
              by_cases h20 : key.size ≤ 20
              · have HFin := Lib.hid (HMs.out (.inr ⟨h5, HBi.out rfl, by rw [nums_len]; exact h20⟩))
                have d20 : decide ((key.size : Int) ≤ 20) = true := decide_eq_true (by omega)
                clear h5 h20
                go_wp2_with (go_at_call 30; (with_reducible refine (HBz.out _).mono ?_); rintro e4 w4 ⟨rfl, rfl⟩)
                go_quiet ((go_at_call 18; exact Calls.quiet_of_same (HJ2.out _)))
                go_wp2
                go_ret2
                exact .inl ⟨_, rfl, ⟨p, HD.out, HS.out, HFin.out⟩, pw_below_drewN HBw.out _⟩
              · have d20 : decide ((key.size : Int) ≤ 20) = false := decide_eq_false (by omega)
                clear h5 h20
                go_wp2_with (go_at_call 30; (with_reducible refine (HBz.out _).mono ?_); rintro e4 w4 ⟨rfl, rfl⟩)
                go_quiet ((go_at_call 18; exact Calls.quiet_of_same (HJ2.out _)))
                go_wp2
                go_ret2
                exact .inr ⟨_, rfl, pw_below_drewN HBw.out _⟩
            | false =>
              clear h5
              go_wp2_with (go_at_call 30; (with_reducible refine (HBz.out _).mono ?_); rintro e4 w4 ⟨rfl, rfl⟩)
              go_quiet ((go_at_call 18; exact Calls.quiet_of_same (HJ2.out _)))
              go_wp2
              go_ret2
              exact .inr ⟨_, rfl, pw_below_drewN HBw.out _⟩
          · have a5 : (q.f0 == 5) = false := by simpa using h5
            clear h5
            go_wp2_with (go_at_call 30; (with_reducible refine (HBz.out _).mono ?_); rintro e4 w4 ⟨rfl, rfl⟩)
            go_quiet ((go_at_call 18; exact Calls.quiet_of_same (HJ2.out _)))
            go_wp2
            go_ret2
            exact .inr ⟨_, rfl, pw_below_drewN HBw.out _⟩
        · have HJ2 : Hid (∀ w1, Calls Tryd.prog 18 #[.string key] w1 fun e w' => e = .returned (.bool false) ∧ w' = w1) := Lib.hid (fun w1 => by have := HJ.out w1; rw [decide_eq_false h9] at this; exact this)
          have HFin := Lib.hid (HMs.out (.inl h9))
          clear h9 HJ
          go_wp2_with (go_at_call 30; (with_reducible refine (HBz.out _).mono ?_); rintro e4 w4 ⟨rfl, rfl⟩)
          go_quiet ((go_at_call 18; exact Calls.quiet_of_same (HJ2.out _)))
          go_wp2
          go_ret2
          exact .inl ⟨_, rfl, ⟨p, HD.out, HS.out, HFin.out⟩, pw_below_drewN HBw.out _⟩
end Go.Proofs.YtgbliniamkpocaaDoor.Jp
