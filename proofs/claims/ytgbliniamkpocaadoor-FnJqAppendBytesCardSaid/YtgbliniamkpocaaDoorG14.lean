/- Texts of this claim, laid together. -/
import Derived.Test.YtgbliniamkpocaaDoorJpFo
import Derived.Test.YtgbliniamkpocaaDoorG9
/- jpMisses, walked by hand. -/
namespace Go.Proofs.YtgbliniamkpocaaDoor.Jp
open Go.RowKit Go.Proofs.YtgbliniamkpocaaDoorW.PrintWords Go.Proofs.YtgbliniamkpocaaDoor.Kit Go.Proofs.YtgbliniamkpocaaDoor.Pure Go.Proofs.YtgbliniamkpocaaDoor.PPl

set_option maxRecDepth 100000 in
theorem keys_take (K : Option Addr) (ks : List ByteArray) (ck n : Nat) (hn : n ≤ ks.length) (hc : ks.length ≤ ck) : (∀ W : World, (Instr.slice 26 (.slice K ks.length ck) none (some (.int .i64 (n : Int))) none).run Tryd.prog W = .ok (.slice K n ck) W) ∧ (ks.take n).length = n ∧
    ∀ W : World, KeysR W K ks → KeysR W K (ks.take n) := by
  have hl : (ks.take n).length = n := by rw [List.length_take]; omega
  obtain ⟨i9, hi9, hsz9⟩ : ∃ i, Tryd.prog.info? 9 = some i ∧ i.size = 1 := ⟨_, rfl, rfl⟩
  refine ⟨fun W => ?_, hl, fun W h => ?_⟩
  · have he : Tryd.prog.elem 26 = 9 := by simp [Program.elem, Tryd.underlying26]
    have hu : Tryd.prog.underlying 26 = some (.slice (Tryd.prog.elem 26)) := by
      have : Tryd.prog.elem 26 = 9 := by simp [Program.elem, Tryd.underlying26]
      rw [this]
      exact Tryd.underlying26
    rw [run_slice_h W 26 K ks.length ck hu .i64 (n : Int) (Int.natCast_nonneg _) (by omega), he, Int.toNat_natCast]
    simp [sizeOf, typeInfo, hi9, hsz9, sliced, Result.andThen]
    intro _
    cases K with
    | none => rfl
    | some a => simp [Addr.add]
  · unfold KeysR
    rw [hl]
    exact ReadsOf.take_ h n hn
theorem rch_le {L : List Int} : ∀ (keys : List (List Int)) (p : S35) (c : Nat), (rch L p keys c).2 ≤ c + keys.length := by
  intro keys
  induction keys with
  | nil => intro p c; exact Nat.le_refl _
  | cons key r ih =>
    intro p c
    unfold rch
    cases stp L p key with
    | none => simp
    | some q =>
      have := ih q (c + 1)
      rw [List.length_cons]
      show (rch L q r (c + 1)).2 ≤ _
      omega
/-- What jpMisses comes to. -/
def MiP (s : ByteArray) (ks : List ByteArray) (w : World) (e : Ending) (w' : World) : Prop :=
  (∃ n : Int, e = .returned (.tuple #[.int .i64 n, .bool true]) ∧ (∃ p, Doc (Kit.nums s) p ∧ s.size ≤ 65536 ∧ Ms (Kit.nums s) p (ks.map Kit.nums)) ∧ Below w.heap.size w w') ∨
  (∃ n : Int, e = .returned (.tuple #[.int .i64 n, .bool false]) ∧ Below w.heap.size w w')
set_option maxHeartbeats 16000000 in
set_option maxRecDepth 100000 in
theorem misses_c (s : ByteArray) (w : World) (K : Option Addr) (ck : Nat) (ks : List ByteArray) (hK : KeysR w K ks) (hks : ∀ k ∈ ks, k.size ≤ 2147483647) (hck : ks.length ≤ ck) : Calls Tryd.prog 13 #[.string s, .slice K ks.length ck] w (MiP s ks w) := by
  have hu1 := Tryd.underlying35
  have hkl : ks.length ≤ 9223372036854775807 := hK.2.1
  have HK := Lib.hid hK
  have HKs := Lib.hid hks
  have HCk := Lib.hid hck
  clear hK hks hck
  go_enter Tryd.func13, Tryd.ntmps13
  go_wp2_with fail
  refine (jpl_c s w).mono ?_
  rintro e2 w2 (⟨p, A3, A4, c3, c4, rfl, hd, hs65, hmk, hb2⟩ | ⟨rfl, hb2⟩)
  rotate_left
  · have HB2 := Lib.hid hb2
    clear hb2
    go_wp2
    go_ret2
    exact .inr ⟨0, rfl, below_alloc_ HB2.out _⟩
  obtain ⟨W3, hW3⟩ : ∃ W3, W3 = w2.alloc (.cells #[.int .i64 p.f0, .int .i64 p.f1, .int .i64 p.f2, .slice A3 p.f3.length c3, .slice A4 p.f4.length c4] 35) := ⟨_, rfl⟩
  obtain ⟨b, hb⟩ : ∃ b, b = w2.heap.size := ⟨_, rfl⟩
  have HX : Hid (Bx W3 b p.f0 p.f1 p.f2 (.slice A3 p.f3.length c3) (.slice A4 p.f4.length c4)) := Lib.hid (by rw [hW3, hb]; exact blk_new w2 _)
  have HB3 : Hid (Below w.heap.size w W3) := Lib.hid (by rw [hW3]; exact below_alloc_ hb2 _)
  have HP3 : Hid (PlC W3 p A3 A4) := Lib.hid (by rw [hW3]; exact (MkB.plc hmk).below (below_alloc (Below.refl _ _) _))
  have HD := Lib.hid hd
  have HS := Lib.hid hs65
  have hs2 : s.size ≤ 1000000000000 := by omega
  have e0 := HX.out.c0
  have e1 := HX.out.c1
  have e2 := HX.out.c2
  have e3 := HX.out.c3
  have e4 := HX.out.c4
  rw [hb, hW3] at e0 e1 e2 e3 e4
  clear hmk hd hb2 hs65
  go_wp2_with fail
  rw [← hW3, ← hb]
  refine (once_c s W3 p A3 A4 K c3 c4 ck ks hs2 HP3.out (Doc.gd HD.out) (HK.out.below HB3.out) HKs.out).mono ?_
  rintro e3 w4 ⟨rfl, hb4⟩
  clear e0 e1 e2 e3 e4 hb hW3
  have HX4 : Hid (Bx w4 b p.f0 p.f1 p.f2 (.slice A3 p.f3.length c3) (.slice A4 p.f4.length c4)) := Lib.hid (blk_below HX.out hb4)
  have HB4 : Hid (Below w.heap.size w w4) := Lib.hid (below_step HB3.out hb4)
  have HP4 : Hid (PlC w4 p A3 A4) := Lib.hid (HP3.out.below hb4)
  clear hb4 HX HB3 HP3
  cases hon : onB (Kit.nums s) p (ks.map Kit.nums) with
  | false =>
    clear hon
    go_wp2
    go_ret2
    exact .inr ⟨0, rfl, HB4.out⟩
  | true =>
    have HON := Lib.hid (on_of _ _ hon)
    clear hon
    have e0 := HX4.out.c0
    have e1 := HX4.out.c1
    have e2 := HX4.out.c2
    have e3 := HX4.out.c3
    have e4 := HX4.out.c4
    go_wp2_with fail
    refine (reach_c s w4 p A3 A4 K c3 c4 ck ks hs2 HP4.out (Doc.gd HD.out) (HK.out.below HB4.out) HKs.out).mono ?_
    rintro e5 w5 ⟨q, B3, B4, b3, b4, n, hr, rfl, hc5, hb5⟩
    clear e0 e1 e2 e3 e4
    have hnle : n ≤ ks.length := by
      have := rch_le (L := Kit.nums s) (ks.map Kit.nums) p 0
      rw [hr] at this
      simpa using this
    have HRc := Lib.hid hr
    have HB5 : Hid (Below w.heap.size w w5) := Lib.hid (below_step HB4.out hb5)
    clear hr hc5 hb5 HX4 HB4 HP4
    by_cases hnl : n = ks.length
    · have a0 : ((n : Int) == (ks.length : Int)) = true := by rw [beq_iff_eq]; omega
      clear hnl
      go_wp2
      go_ret2
      exact .inr ⟨0, rfl, below_alloc_ HB5.out _⟩
    have hnlt : n < ks.length := by omega
    have a0 : ((n : Int) == (ks.length : Int)) = false := by rw [beq_eq_false_iff_ne]; omega
    have wn : IntKind.i64.wrap ((n : Int) + 1) = (n : Int) + 1 := by rw [IntKind.wrap_i64]; omega
    obtain ⟨ht1, htl, ht2⟩ := keys_take K ks ck n (by omega) HCk.out
    obtain ⟨K', hk1, hk2⟩ := keys_cut K ks ck (n + 1) (by omega) HCk.out
    rw [show ((n + 1 : Nat) : Int) = (n : Int) + 1 by omega, List.length_drop] at hk1
    have HT2 := Lib.hid ht2
    have HK2 := Lib.hid hk2
    clear ht2 hk2 hnl
    obtain ⟨W6, hW6⟩ : ∃ W6, W6 = w5.alloc (.cells #[.int .i64 q.f0, .int .i64 q.f1, .int .i64 q.f2, .slice B3 q.f3.length b3, .slice B4 q.f4.length b4] 35) := ⟨_, rfl⟩
    obtain ⟨g, hg⟩ : ∃ g, g = w5.heap.size := ⟨_, rfl⟩
    have HX : Hid (Bx W6 g q.f0 q.f1 q.f2 (.slice B3 q.f3.length b3) (.slice B4 q.f4.length b4)) := Lib.hid (by rw [hW6, hg]; exact blk_new w5 _)
    have HB6 : Hid (Below w.heap.size w W6) := Lib.hid (by rw [hW6]; exact below_alloc_ HB5.out _)
    clear HB5
    go_wp2_with fail
    rw [← hW6, ← hg]
    clear hW6 hg
    have HF := found_c s W6 K ck (ks.take n) (HT2.out _ (HK.out.below HB6.out)) (fun k hk => HKs.out k (List.mem_of_mem_take hk))
    rw [htl] at HF
    refine HF.mono ?_
    clear HF htl ht1 HT2
    rintro e7 w7 (⟨p7, q7, C3, C4, d3, d4, rfl, _, hc7, hb7⟩ | ⟨rfl, hb7⟩)
    rotate_left
    · have HB7 : Hid (Below w.heap.size w w7) := Lib.hid (below_step HB6.out hb7)
      clear hb7
      go_wp2
      go_ret2
      exact .inr ⟨0, rfl, below_alloc_ HB7.out _⟩
    obtain ⟨W8, hW8⟩ : ∃ W8, W8 = w7.alloc (.cells #[.int .i64 q7.f0, .int .i64 q7.f1, .int .i64 q7.f2, .slice C3 q7.f3.length d3, .slice C4 q7.f4.length d4] 35) := ⟨_, rfl⟩
    have HX8 : Hid (Bx W8 g q.f0 q.f1 q.f2 (.slice B3 q.f3.length b3) (.slice B4 q.f4.length b4)) := Lib.hid (by rw [hW8]; exact blk_alloc (blk_below HX.out hb7) _)
    have HB8 : Hid (Below w.heap.size w W8) := Lib.hid (by rw [hW8]; exact below_alloc_ (below_step HB6.out hb7) _)
    clear hc7 hb7 HX HB6
    go_upto_region 10 with (fail)
    rw [← hW8]
    clear hW8
    have HDl : Hid ((ks.drop (n + 1)).length = ks.length - (n + 1)) := Lib.hid List.length_drop
    go_wp2_with fail
    go_loopw [56] (fun v wc => ∃ j : Nat, j ≤ ks.length - (n + 1) ∧ v = .int .i64 j ∧ Hid (Below W8.heap.size W8 wc)) (fun v _ => ks.length - (intOf v).toNat)
    case atStart => exact ⟨0, Nat.zero_le _, rfl, Lib.hid (Below.refl _ _)⟩
    case round =>
      obtain ⟨j, hj, rfl, HI⟩ := hrel
      have HBw : Hid (Below w.heap.size w wr) := Lib.hid (below_step HB8.out HI.out)
      by_cases hlt : j < ks.length - (n + 1)
      · have hkr := HK2.out _ (HK.out.below HBw.out)
        have hdl := HDl.out
        obtain ⟨kad, ek, hcell⟩ := ReadsOf.at_ hkr (j : Int) (by omega) (by omega)
        have hjd : j < (ks.drop (n + 1)).length := by omega
        have hki : rdOf ByteArray.empty (ks.drop (n + 1)) (j : Int) = (ks.drop (n + 1))[j] := by unfold rdOf; rw [Int.toNat_natCast, List.getD_eq_getElem?_getD, List.getElem?_eq_getElem hjd]; rfl
        rw [hki, Int.toNat_natCast] at hcell
        subst ek
        obtain ⟨key, hkey⟩ : ∃ key, (ks.drop (n + 1))[j] = key := ⟨_, rfl⟩
        rw [hkey] at hcell
        have HJ := Lib.hid (fun w1 => jpi_c key w1)
        clear hki hkey hkr hjd hdl
        by_cases h9 : gb (Kit.nums key) 0 = 91
        · have HJ2 : Hid (∀ w1, Calls Tryd.prog 18 #[.string key] w1 fun e w' => e = .returned (.bool true) ∧ w' = w1) := Lib.hid (fun w1 => by have := HJ.out w1; rw [decide_eq_true h9] at this; exact this)
          clear h9 HJ
          go_wp2_with (go_at_call 18; (with_reducible refine (HJ2.out _).mono ?_); rintro e4 w4 ⟨rfl, rfl⟩)
          go_ret2
          exact .inr ⟨0, rfl, HBw.out⟩
        · have HJ2 : Hid (∀ w1, Calls Tryd.prog 18 #[.string key] w1 fun e w' => e = .returned (.bool false) ∧ w' = w1) := Lib.hid (fun w1 => by have := HJ.out w1; rw [decide_eq_false h9] at this; exact this)
          clear h9 HJ
          go_wp2_with (go_at_call 18; (with_reducible refine (HJ2.out _).mono ?_); rintro e4 w4 ⟨rfl, rfl⟩)
          go_round
          case rel => exact ⟨j + 1, by omega, by go_num, HI⟩
          case measure => simp [intOf]; omega
      · have HX9 : Hid (Bx wr g q.f0 q.f1 q.f2 (.slice B3 q.f3.length b3) (.slice B4 q.f4.length b4)) := Lib.hid (blk_below HX8.out HI.out)
        obtain ⟨kad, ek, hcell⟩ := (HK.out.below HBw.out).at_ (n : Int) (by omega) (by omega)
        have hki : rdOf ByteArray.empty ks (n : Int) = ks[n] := by simp [rdOf, hnlt]
        rw [hki, Int.toNat_natCast] at hcell
        subst ek
        obtain ⟨key, hkey⟩ : ∃ key, ks[n] = key := ⟨_, rfl⟩
        rw [hkey] at hcell
        have hksz : key.size ≤ 2147483647 := HKs.out key (by rw [← hkey]; exact List.getElem_mem hnlt)
        have HBk := Lib.hid (fun w1 => brk_c key w1 (by omega))
        have HJ := Lib.hid (fun w1 => jpi_c key w1)
        have d0 := HX9.out.c0
        have HMs : Hid ((gb (Kit.nums key) 0 ≠ 91 ∨ (q.f0 = 5 ∧ brkL (Kit.nums key) ≠ none ∧ (Kit.nums key).length ≤ 20)) → Ms (Kit.nums s) p (ks.map Kit.nums)) := Lib.hid (fun h => by
          have hgd : (ks.map Kit.nums).getD n [] = Kit.nums key := by rw [List.getD_eq_getElem?_getD, List.getElem?_map, List.getElem?_eq_getElem hnlt, hkey]; rfl
          exact ms_of (by rw [nums_len]; omega) (ks.map Kit.nums) p q 0 n (Doc.gd HD.out) HON.out (by rw [HRc.out, Nat.zero_add]) (by rw [List.length_map]; exact hnlt) (by rw [hgd]; exact h))
        have hka := eq_true (show (0 : Int) ≤ (n : Int) by omega)
        have hkb := eq_true (show (n : Int) < (ks.length : Int) by omega)
        clear hki hkey hk1 HX8 HX9 HK2
        obtain ⟨m, is, HBz, HBi⟩ : ∃ (m : Int) (is : Bool), Hid (∀ w1, Calls Tryd.prog 30 #[.string key] w1 fun e w' => e = .returned (.tuple #[.int .i64 m, .bool is]) ∧ w' = w1) ∧ Hid (is = true → brkL (Kit.nums key) ≠ none) := by
          cases hb : brkR key with
          | none => exact ⟨0, false, Lib.hid (fun w1 => by have := HBk.out w1; rw [hb] at this; exact this), Lib.hid (fun h => by cases h)⟩
          | some m => exact ⟨m, true, Lib.hid (fun w1 => by have := HBk.out w1; rw [hb] at this; exact this), Lib.hid (fun _ => by rw [← brk_L, hb]; exact fun h => by cases h)⟩
        clear HBk
        by_cases h9 : gb (Kit.nums key) 0 = 91
        · have HJ2 : Hid (∀ w1, Calls Tryd.prog 18 #[.string key] w1 fun e w' => e = .returned (.bool true) ∧ w' = w1) := Lib.hid (fun w1 => by have := HJ.out w1; rw [decide_eq_true h9] at this; exact this)
          clear h9 HJ
          by_cases h5 : q.f0 = 5
          · have a5 : (q.f0 == 5) = true := by simpa using h5
            cases is with
            | true =>
              by_cases h20 : key.size ≤ 20
              · have HFin := Lib.hid (HMs.out (.inr ⟨h5, HBi.out rfl, by rw [nums_len]; exact h20⟩))
                have d20 : decide ((key.size : Int) ≤ 20) = true := decide_eq_true (by omega)
                clear h5 h20
                go_wp2_with (go_at_call 30; (with_reducible refine (HBz.out _).mono ?_); rintro e4 w4 ⟨rfl, rfl⟩)
                go_quiet ((go_at_call 18; exact Calls.quiet_of_same (HJ2.out _)))
                go_wp2
                go_ret2
                exact .inl ⟨_, rfl, ⟨p, HD.out, HS.out, HFin.out⟩, pw_below_drewN HBw.out _⟩
              · have d20 : decide ((key.size : Int) ≤ 20) = false := decide_eq_false (by omega)
                clear h5 h20
                go_wp2_with (go_at_call 30; (with_reducible refine (HBz.out _).mono ?_); rintro e4 w4 ⟨rfl, rfl⟩)
                go_quiet ((go_at_call 18; exact Calls.quiet_of_same (HJ2.out _)))
                go_wp2
                go_ret2
                exact .inr ⟨_, rfl, pw_below_drewN HBw.out _⟩
            | false =>
              clear h5
              go_wp2_with (go_at_call 30; (with_reducible refine (HBz.out _).mono ?_); rintro e4 w4 ⟨rfl, rfl⟩)
              go_quiet ((go_at_call 18; exact Calls.quiet_of_same (HJ2.out _)))
              go_wp2
              go_ret2
              exact .inr ⟨_, rfl, pw_below_drewN HBw.out _⟩
          · have a5 : (q.f0 == 5) = false := by simpa using h5
            clear h5
            go_wp2_with (go_at_call 30; (with_reducible refine (HBz.out _).mono ?_); rintro e4 w4 ⟨rfl, rfl⟩)
            go_quiet ((go_at_call 18; exact Calls.quiet_of_same (HJ2.out _)))
            go_wp2
            go_ret2
            exact .inr ⟨_, rfl, pw_below_drewN HBw.out _⟩
        · have HJ2 : Hid (∀ w1, Calls Tryd.prog 18 #[.string key] w1 fun e w' => e = .returned (.bool false) ∧ w' = w1) := Lib.hid (fun w1 => by have := HJ.out w1; rw [decide_eq_false h9] at this; exact this)
          have HFin := Lib.hid (HMs.out (.inl h9))
          clear h9 HJ
          go_wp2_with (go_at_call 30; (with_reducible refine (HBz.out _).mono ?_); rintro e4 w4 ⟨rfl, rfl⟩)
          go_quiet ((go_at_call 18; exact Calls.quiet_of_same (HJ2.out _)))
          go_wp2
          go_ret2
          exact .inl ⟨_, rfl, ⟨p, HD.out, HS.out, HFin.out⟩, pw_below_drewN HBw.out _⟩
end Go.Proofs.YtgbliniamkpocaaDoor.Jp
/- jsonparser.searchKeysConfig behind the fast skip: one lemma for each kind of byte (written by mk_find.py). -/
namespace Go.Proofs.YtgbliniamkpocaaDoor.Jp
open Go.RowKit Go.Proofs.YtgbliniamkpocaaDoorW.PrintWords Go.Proofs.YtgbliniamkpocaaDoor.Kit

/-- The first region of a code. -/
def skFirst : Code → Option Nat
  | .region n _ _ => some n
  | .seq a _ => skFirst a
  | _ => none
/-- The part of a code that begins with region n. -/
def skSuf (n : Nat) : Code → Option Code
  | .seq a b => if skFirst a = some n then some (.seq a b) else match skSuf n a with | some x => some x | none => skSuf n b
  | .block _ a => skSuf n a
  | .loop a => skSuf n a
  | _ => none
noncomputable def sk17 : Code := (Tryd.f60.body.bind (skSuf 17)).getD .skip
/-- What stands in every world of the search. -/
def HSt (ks : List ByteArray) (l : List Int) (ad : Addr) (K : Option Addr) (c : Nat) (w w1 : World) : Prop :=
  ∀ W, Gr (w.heap.size + 2) w1 W → ReadsInt W .u8 (some ad) l.length l ∧ CfgAt w.heap.size W ∧ W.cell? ⟨w.heap.size + 1, 0, none⟩ = some (.slice (some ad) l.length c) ∧ BO W (w.heap.size + 2) 64 [] ∧ KeysR W K ks ∧ Errs W ∧ Vars W ∧ Below w.heap.size w W
def HZt (ks : List ByteArray) (l : List Int) (z : Int) (at_ : Nat → Nat → Int) (S : Sk) : Prop :=
  sk S l 0 0 0 true = z ∧ z ≠ -7 ∧ S = skS (ks.map Kit.nums) l at_ ∧ (∀ i n, at_ i n ≠ -7 → Ixr (ks.map Kit.nums) l i n (at_ i n)) ∧ ∀ (n : Nat) (M : List Int) (z2 : Int), Fnd ((ks.map Kit.nums).drop (n + 1)) M z2 → F60 (ks.drop (n + 1)) M z2
/-- What the search is given. -/
def SkPre (ks : List ByteArray) (l : List Int) (z : Int) (at_ : Nat → Nat → Int) (ad : Addr) (K : Option Addr) (c ck : Nat) (w w1 : World) (S : Sk) : Prop :=
  l.length ≤ c ∧ l.length ≤ 140737488351232 ∧ ks.length ≤ ck ∧ S.lk = ks.length ∧ ks.length ≤ 9223372036854775807 ∧ Hid (HSt ks l ad K c w w1) ∧ Hid (HZt ks l z at_ S) ∧ Hid (∀ x ∈ l, 0 ≤ x ∧ x ≤ 255) ∧ ad.block < w.heap.size ∧ 4 < w.heap.size
theorem keys_get {ks : List ByteArray} {n : Nat} (h : n < ks.length) : (ks.map Kit.nums).getD n [] = Kit.nums (rdOf ByteArray.empty ks (n : Int)) := by
  have e : rdOf ByteArray.empty ks (n : Int) = ks[n] := by
    simp [rdOf, h]
  rw [e, List.getD, List.getElem?_map, List.getElem?_eq_getElem h]
  rfl
theorem eq_key {r : List Int} {s : ByteArray} (hr : ∀ x ∈ r, 0 ≤ x ∧ x ≤ 255) : decide ((strOfNums r).toList = s.toList) = decide (some r = some (Kit.nums s)) := by
  have h1 : (strOfNums r).toList = s.toList ↔ some r = some (Kit.nums s) := by
    rw [ByteArray.toList_eq, ByteArray.toList_eq, Option.some.injEq]
    have e : (strOfNums r).data.toList = r.map fun n => UInt8.ofNat n.toNat := by simp [strOfNums]
    rw [e]
    unfold Kit.nums
    constructor
    · intro h
      rw [← h, List.map_map]
      conv => lhs; rw [← List.map_id r]
      apply List.map_congr_left
      intro x hx
      have hx2 := hr x hx
      simp only [id_eq, Function.comp_apply, UInt8.toNat_ofNat']
      omega
    · intro h
      rw [h, List.map_map]
      conv => rhs; rw [← List.map_id s.data.toList]
      apply List.map_congr_left
      intro x _
      simp
  by_cases h : some r = some (Kit.nums s)
  · rw [decide_eq_true h, decide_eq_true (h1.2 h)]
  · rw [decide_eq_false h, decide_eq_false (fun h2 => h (h1.1 h2))]
set_option maxRecDepth 100000 in
/-- data[a:b] of bytes that are there. -/
theorem mid_in (ad : Addr) (n c a b : Nat) (hab : a ≤ b) (hb : b ≤ n) (hc : n ≤ c) : ∃ ad' : Addr, ad'.block = ad.block ∧ (∀ W : World, (Instr.slice 57 (.slice (some ad) n c) (some (.int .i64 (a : Int))) (some (.int .i64 (b : Int))) none).run Tryd.prog W = .ok (.slice (some ad') (b - a) (c - a)) W) ∧
    ∀ (W : World) (xs : List Int), ReadsInt W .u8 (some ad) n xs → ReadsInt W .u8 (some ad') (b - a) ((xs.take b).drop a) := by
  obtain ⟨i5, hi5, hz5, hsz5, hby5⟩ : ∃ i, Tryd.prog.info? 5 = some i ∧ i.zero = some (.int .u8 0) ∧ i.size = 1 ∧ i.bytes = 1 := ⟨_, rfl, rfl, rfl, rfl⟩
  have hel : Tryd.prog.elem 57 = 5 := by simp [Program.elem, Tryd.underlying57]
  have hu : Tryd.prog.underlying 57 = some (.slice (Tryd.prog.elem 57)) := by rw [hel]; exact Tryd.underlying57
  refine ⟨if c = a then ad else ad.add a, ?_, fun W => ?_, fun W xs h => ?_⟩
  · split
    · rfl
    · unfold Addr.add
      split <;> rfl
  · rw [run_slice_lh W 57 (some ad) n c hu .i64 .i64 (a : Int) (b : Int) (by omega) (by omega) (by omega), hel]
    simp only [sizeOf, typeInfo, sliced, Result.andThen]
    by_cases e : c = a
    · simp [e, hi5, hsz5, Result.andThen]
    · simp [e, hi5, hsz5, Result.andThen]
  · rw [List.drop_take]
    have := (h.drop_ a (by omega) hc).take_ (b - a) (by omega)
    by_cases e : c = a
    · rw [if_pos e] at this ⊢
      exact this
    · rw [if_neg e] at this ⊢
      exact this
theorem bsf_no {l : List Int} : ∀ {i : Nat}, bsf l i = false → ∀ k, k < i → gb l k ≠ 92
  | 0, _, k, hk => by omega
  | i + 1, h, k, hk => by
    simp only [bsf, Bool.or_eq_false_iff, decide_eq_false_iff_not] at h
    by_cases e : k = i
    · rw [e]
      exact h.2
    · exact bsf_no h.1 k (by omega)
theorem cutI_gb0 {L : List Int} {a b k : Nat} (h : a + k < b) : gb (cutI L a b) k = gb L (a + k) := by
  unfold cutI
  rw [gb_drop]
  unfold gb
  simp [List.getD, h]
theorem reads_set1 {w : World} {g : Nat} {v u : Value} {A : Option Addr} {n : Nat} {xs : List Int} (h : ReadsInt w .u8 A n xs) (hv : V1 w g v) (hu : ∀ x, v ≠ .int .u8 x) : ReadsInt (w.setCell ⟨g, 0, none⟩ u) .u8 A n xs := by
  refine ⟨h.1, h.2.1, fun hn => ?_⟩
  obtain ⟨ad, e, hc⟩ := h.2.2 hn
  have hno : ad.block ≠ g := by
    intro he
    obtain ⟨t, hh⟩ := hv
    have h0 := hc 0 hn
    have e0 : ad.add 0 = ad := by simp [Addr.add]
    rw [e0] at h0
    unfold World.cell? at h0
    rw [he, hh] at h0
    simp only at h0
    split at h0
    · cases h0
    · have hlt := (Array.getElem?_eq_some_iff.1 h0).1
      have ho : ad.off = 0 := by simpa using hlt
      rw [ho] at h0
      simp at h0
      exact hu _ h0
  refine ⟨ad, e, fun j hj => ?_⟩
  rw [← hc j hj]
  have hb : (ad.add j).block = ad.block := by unfold Addr.add; split <;> rfl
  exact World.cell?_of_block (by rw [hb]; exact set_heap w u hno)
theorem cfg_keep_gr {B g : Nat} {W W1 W2 : World} (h : CfgAt B W1) (hB : B ≠ g) (hk : Gr g W W1) (hb : Gr g W1 W2) :
    W2.cell? ⟨B, 0, none⟩ = some (.bool false) ∧ W2.cell? ⟨B, 1, none⟩ = some (.bool false) ∧ W2.cell? ⟨B, 2, none⟩ = some (.int .i64 0) ∧ Gr g W W2 := by
  have h2 := h.gr hb hB
  exact ⟨h2.1, h2.2.1, h2.2.2, hk.trans hb⟩
set_option maxRecDepth 100000 in
theorem buf_cut (a : Addr) (W : World) : (Instr.sliceAt 115 (.pointer (some a)) none none none).run Tryd.prog W = .ok (.slice (some a) 64 64) W := by
  have h1 : Tryd.prog.arrayLen 115 = 64 := by simp [Program.arrayLen, Tryd.underlying115]
  have h2 : Tryd.prog.elem 115 = 5 := by simp [Program.elem, Tryd.underlying115]
  have h3 : Tryd.prog.underlying 115 = some (.array (Tryd.prog.arrayLen 115) (Tryd.prog.elem 115)) := by rw [h1, h2]; exact Tryd.underlying115
  obtain ⟨i5, hi5, hsz5⟩ : ∃ i, Tryd.prog.info? 5 = some i ∧ i.size = 1 := ⟨_, rfl, rfl⟩
  have ha : a.add 0 = a := by simp [Addr.add]
  rw [run_sliceAt_array_all W 115 a h3, h1, h2]
  simp [Go.sizeOf, typeInfo, hi5, slicedAt, Result.andThen, ha]
theorem gr_set {g g2 : Nat} {w1 w5 : World} {v : Value} (h : Gr g w1 w5) (h1 : w1.heap.size ≤ g2) (h2 : g ≠ g2) : Gr g w1 (w5.setCell ⟨g2, 0, none⟩ v) :=
  ⟨⟨h.1.os, h.1.tape, h.1.output, by have := h.1.size; simpa [World.setCell] using this, fun k hk hn => (set_heap w5 v (by omega)).trans (h.1.block k hk hn)⟩, h.2.trans (Sm.same (set_heap w5 v h2))⟩
/-- Behind a byte the loop goes on. -/
def GoP (u5 : Value) (ks : List ByteArray) (l : List Int) (ad : Addr) (K : Option Addr) (c ck : Nat) (w w1 : World) (S : Sk) (i : Nat) (R : Exit → Act → World → Prop) : Prop :=
  ∀ (i' : Nat) (kl' lv' : Int) (lm' : Bool) (w' : World) {v6 v14 v15 v16 v17 v18 v19 v20 v21 v22 v23 v24 v25 v26 v27 v28 v29 v30 v31 v32 v33 v34 v41 v42 v43 v44 v45 v46 v47 v48 v49 v50 v51 v52 v53 v54 v55 v56 v57 v58 v59 v60 v61 v62 v63 v64 v65 v66 v67 v68 v69 v70 v71 v72 v73 v74 v75 v76 v77 v78 v79 v80 v81 v82 v83 v84 v85 v86 v87 v88 v89 v90 v91 v92 v93 v94 v95 v96 v97 v98 v99 v100 v101 v102 v103 v104 v105 v106 v107 v108 v109 v110 v111 v112 v113 v114 v115 v116 v117 v118 v119 v120 v121 v122 v123 v124 v125 v126 v127 v128 v129 v130 v131 v132 v133 v134 v135 v136 v137 v138 v139 v140 v141 v142 v143 v144 v145 v146 v147 v148 v149 v150 v151 v152 v153 v154 v155 v156 v157 v158 v159 v160 v161 v162 v163 v164 v165 v166 v167 v168 v169 v170 v171 v172 v173 v174 v175 v176 v177 v178 v179 v180 v181 v182 v183 v184 v185 v186 v187 v188 v189 v190 v191 v192 v193 v194 v195 v196 v197 v198 v199 v200 v201 v202 v203 v204 v205 v206 v207 v208 v209 v210 v211 v212 v213 v214 v215 v216 v217 v218 v219 v220 v221 v222 v223 v224 v225 v226 v227 v228 v229 v230 v231 v232 v233 v234 v235 v236 v237 v238 v239 v240 v241 v242 v243 v244 v245 v246 v247 v248 v249 v250 v251 v252 v253 v254 v255 v256 v257 v258 v259 v260 v261 v262 v263 v264 v265 v266 v267 v268 v269 v270 v271 v272 v273 v274 v275 v276 v277 v278 v279 v280 v281 v282 : Value}, i < i' → i' ≤ l.length → SkInv ks.length i' lv' kl' → Hid (SkRel S l (w.heap.size + 2) w1 w' i' lv' kl' lm') → R .normal ⟨#[.agg #[.bool false, .bool false, .int .i64 0], .slice (some ad) l.length c, .slice K ks.length ck, .pointer (some ⟨w.heap.size, 0, none⟩), .pointer (some ⟨w.heap.size + 1, 0, none⟩), u5, v6, .int .i64 kl', .int .i64 lv', .int .i64 (i' : Int), .int .i64 (l.length : Int), .int .i64 (ks.length : Int), .bool lm', .pointer (some ⟨w.heap.size + 1 + 1, 0, none⟩), v14, v15, v16, v17, v18, v19, v20, v21, v22, v23, v24, v25, v26, v27, v28, v29, v30, v31, v32, v33, v34, .slice (some ad) l.length c, .int .i64 (l.length : Int), .slice K ks.length ck, .int .i64 (ks.length : Int), .int .i64 (ks.length : Int), .bool false, v41, v42, v43, v44, v45, v46, v47, v48, v49, v50, v51, v52, v53, v54, v55, v56, v57, v58, v59, v60, v61, v62, v63, v64, v65, v66, v67, v68, v69, v70, v71, v72, v73, v74, v75, v76, v77, v78, v79, v80, v81, v82, v83, v84, v85, v86, v87, v88, v89, v90, v91, v92, v93, v94, v95, v96, v97, v98, v99, v100, v101, v102, v103, v104, v105, v106, v107, v108, v109, v110, v111, v112, v113, v114, v115, v116, v117, v118, v119, v120, v121, v122, v123, v124, v125, v126, v127, v128, v129, v130, v131, v132, v133, v134, v135, v136, v137, v138, v139, v140, v141, v142, v143, v144, v145, v146, v147, v148, v149, v150, v151, v152, v153, v154, v155, v156, v157, v158, v159, v160, v161, v162, v163, v164, v165, v166, v167, v168, v169, v170, v171, v172, v173, v174, v175, v176, v177, v178, v179, v180, v181, v182, v183, v184, v185, v186, v187, v188, v189, v190, v191, v192, v193, v194, v195, v196, v197, v198, v199, v200, v201, v202, v203, v204, v205, v206, v207, v208, v209, v210, v211, v212, v213, v214, v215, v216, v217, v218, v219, v220, v221, v222, v223, v224, v225, v226, v227, v228, v229, v230, v231, v232, v233, v234, v235, v236, v237, v238, v239, v240, v241, v242, v243, v244, v245, v246, v247, v248, v249, v250, v251, v252, v253, v254, v255, v256, v257, v258, v259, v260, v261, v262, v263, v264, v265, v266, v267, v268, v269, v270, v271, v272, v273, v274, v275, v276, v277, v278, v279, v280, v281, v282], []⟩ w'
/-- Behind a byte the search ends. -/
def RetP (z : Int) (w : World) (R : Exit → Act → World → Prop) : Prop :=
  ∀ (w' : World) {v0 v1 v2 v3 v4 v5 v7 v8 v9 v10 v11 v12 v13 v14 v15 v16 v17 v18 v19 v20 v21 v22 v23 v24 v25 v26 v27 v28 v29 v30 v31 v32 v33 v34 v35 v36 v37 v38 v39 v40 v41 v42 v43 v44 v45 v46 v47 v48 v49 v50 v51 v52 v53 v54 v55 v56 v57 v58 v59 v60 v61 v62 v63 v64 v65 v66 v67 v68 v69 v70 v71 v72 v73 v74 v75 v76 v77 v78 v79 v80 v81 v82 v83 v84 v85 v86 v87 v88 v89 v90 v91 v92 v93 v94 v95 v96 v97 v98 v99 v100 v101 v102 v103 v104 v105 v106 v107 v108 v109 v110 v111 v112 v113 v114 v115 v116 v117 v118 v119 v120 v121 v122 v123 v124 v125 v126 v127 v128 v129 v130 v131 v132 v133 v134 v135 v136 v137 v138 v139 v140 v141 v142 v143 v144 v145 v146 v147 v148 v149 v150 v151 v152 v153 v154 v155 v156 v157 v158 v159 v160 v161 v162 v163 v164 v165 v166 v167 v168 v169 v170 v171 v172 v173 v174 v175 v176 v177 v178 v179 v180 v181 v182 v183 v184 v185 v186 v187 v188 v189 v190 v191 v192 v193 v194 v195 v196 v197 v198 v199 v200 v201 v202 v203 v204 v205 v206 v207 v208 v209 v210 v211 v212 v213 v214 v215 v216 v217 v218 v219 v220 v221 v222 v223 v224 v225 v226 v227 v228 v229 v230 v231 v232 v233 v234 v235 v236 v237 v238 v239 v240 v241 v242 v243 v244 v245 v246 v247 v248 v249 v250 v251 v252 v253 v254 v255 v256 v257 v258 v259 v260 v261 v262 v263 v264 v265 v266 v267 v268 v269 v270 v271 v272 v273 v274 v275 v276 v277 v278 v279 v280 v281 v282 : Value}, Below w.heap.size w w' → R .ret ⟨#[v0, v1, v2, v3, v4, v5, .int .i64 z, v7, v8, v9, v10, v11, v12, v13, v14, v15, v16, v17, v18, v19, v20, v21, v22, v23, v24, v25, v26, v27, v28, v29, v30, v31, v32, v33, v34, v35, v36, v37, v38, v39, v40, v41, v42, v43, v44, v45, v46, v47, v48, v49, v50, v51, v52, v53, v54, v55, v56, v57, v58, v59, v60, v61, v62, v63, v64, v65, v66, v67, v68, v69, v70, v71, v72, v73, v74, v75, v76, v77, v78, v79, v80, v81, v82, v83, v84, v85, v86, v87, v88, v89, v90, v91, v92, v93, v94, v95, v96, v97, v98, v99, v100, v101, v102, v103, v104, v105, v106, v107, v108, v109, v110, v111, v112, v113, v114, v115, v116, v117, v118, v119, v120, v121, v122, v123, v124, v125, v126, v127, v128, v129, v130, v131, v132, v133, v134, v135, v136, v137, v138, v139, v140, v141, v142, v143, v144, v145, v146, v147, v148, v149, v150, v151, v152, v153, v154, v155, v156, v157, v158, v159, v160, v161, v162, v163, v164, v165, v166, v167, v168, v169, v170, v171, v172, v173, v174, v175, v176, v177, v178, v179, v180, v181, v182, v183, v184, v185, v186, v187, v188, v189, v190, v191, v192, v193, v194, v195, v196, v197, v198, v199, v200, v201, v202, v203, v204, v205, v206, v207, v208, v209, v210, v211, v212, v213, v214, v215, v216, v217, v218, v219, v220, v221, v222, v223, v224, v225, v226, v227, v228, v229, v230, v231, v232, v233, v234, v235, v236, v237, v238, v239, v240, v241, v242, v243, v244, v245, v246, v247, v248, v249, v250, v251, v252, v253, v254, v255, v256, v257, v258, v259, v260, v261, v262, v263, v264, v265, v266, v267, v268, v269, v270, v271, v272, v273, v274, v275, v276, v277, v278, v279, v280, v281, v282], []⟩ w'
end Go.Proofs.YtgbliniamkpocaaDoor.Jp
