/- Texts of this claim, laid together. -/
import Derived.Test.YtgbliniamkpocaaDoorJpGn
import Derived.Test.YtgbliniamkpocaaDoorG15
import Derived.SizedLaws
import Derived.ChangeSlices
/- The law FnJpGetFirst, walked by hand. -/
namespace Go.Proofs.YtgbliniamkpocaaDoor.Jp
open Go.RowKit Go.Proofs.YtgbliniamkpocaaDoorW.PrintWords Go.Proofs.YtgbliniamkpocaaDoor.Kit Go.Proofs.YtgbliniamkpocaaDoor.Pure Go.Proofs.YtgbliniamkpocaaDoor.PPl

theorem more_c (K : Option Addr) (ck : Nat) (ks : List ByteArray) (name : ByteArray) (w : World) (hK : KeysR w K ks) (hck : ks.length ≤ ck) (hl : ks.length ≤ 2147483647) :
    Calls Tryd.prog 20 #[.slice K ks.length ck, .string name] w fun e w' => ∃ (K2 : Option Addr) (c2 : Nat), e = .returned (.slice K2 (ks ++ [name]).length c2) ∧ KeysR w' K2 (ks ++ [name]) ∧ (ks ++ [name]).length ≤ c2 ∧ Below w.heap.size w w' := by
  refine (spec_More.calls K ck ks name (ks ++ [name]) w (Kd.C_of_reads (d := ByteArray.empty) hK) hck ?_).mono ?_
  · unfold spec_More.f
    simp only [Option.bind_some, List.length_nil, List.nil_append]
    have e1 : ks.length < 8796093022208 := by omega
    simp [e1]
  · rintro e w' ⟨v, rfl, hR, hb⟩
    obtain ⟨K2, c2, rfl⟩ := Kd.R_slice hR
    have h := Kd.Q_reads' (Kd.Q_of_R hR)
    exact ⟨K2, c2, rfl, Kd.reads_of_C h.2.2, h.2.1, hb⟩
theorem zf_len {ks : List ByteArray} (h : zf ks = true) : ks.length ≤ 2147483647 := by
  unfold zf at h
  rw [Bool.and_eq_true] at h
  simpa using h.1
set_option maxHeartbeats 16000000 in
set_option maxRecDepth 100000 in
theorem gf_main (s : ByteArray) (K : Option Addr) (ck : Nat) (ks : List ByteArray) (name : ByteArray) (w : World) (hK : KeysR w K ks) (hck : ks.length ≤ ck) (hE : Errs w) (hV : Vars w) :
    Calls Tryd.prog 6 #[.string s, .slice K ks.length ck, .string name] w fun e w' => e = .returned (.bool true) ∧ Below w.heap.size w w' := by
  have HK := Lib.hid hK
  have HE := Lib.hid hE
  have HV := Lib.hid hV
  have HCk := Lib.hid hck
  have HZ := Lib.hid (fun w1 (h : KeysR w1 K ks) => zf_c K ck ks w1 h)
  clear hK hE hV hck
  by_cases hs : (2147483647 : Int) < s.size
  · have d0 : decide ((2147483647 : Int) < s.size) = true := decide_eq_true hs
    clear hs
    go_enter Tryd.func6, Tryd.ntmps6
    go_wp2
    go_ret
    exact ⟨rfl, Below.refl _ _⟩
  have d0 : decide ((2147483647 : Int) < s.size) = false := decide_eq_false hs
  clear hs
  cases hz : zf ks with
  | false =>
    have HZ2 : Hid (∀ w1, KeysR w1 K ks → Calls Tryd.prog 12 #[.slice K ks.length ck] w1 fun e w' => e = .returned (.bool false) ∧ w' = w1) := Lib.hid (fun w1 h => by have := HZ.out w1 h; rw [hz] at this; exact this)
    clear HZ hz
    go_enter Tryd.func6, Tryd.ntmps6
    go_wp2_with (go_at_call 12; (with_reducible refine (HZ2.out _ HK.out).mono ?_); rintro e w3 ⟨rfl, rfl⟩)
    go_ret
    exact ⟨rfl, Below.refl _ _⟩
  | true =>
    have HZ2 : Hid (∀ w1, KeysR w1 K ks → Calls Tryd.prog 12 #[.slice K ks.length ck] w1 fun e w' => e = .returned (.bool true) ∧ w' = w1) := Lib.hid (fun w1 h => by have := HZ.out w1 h; rw [hz] at this; exact this)
    have HM := Lib.hid (found_c s w K ck ks HK.out (zf_all hz))
    have HLen := Lib.hid (zf_len hz)
    clear HZ hz
    by_cases hn : (2147483647 : Int) < name.size
    · have d1 : decide ((2147483647 : Int) < name.size) = true := decide_eq_true hn
      clear hn
      go_enter Tryd.func6, Tryd.ntmps6
      go_wp2_with (go_at_call 12; (with_reducible refine (HZ2.out _ HK.out).mono ?_); rintro e w3 ⟨rfl, rfl⟩)
      go_ret
      exact ⟨rfl, Below.refl _ _⟩
    have d1 : decide ((2147483647 : Int) < name.size) = false := decide_eq_false hn
    clear hn
    go_enter Tryd.func6, Tryd.ntmps6
    go_upto_region 3 with (go_at_call 12; (with_reducible refine (HZ2.out _ HK.out).mono ?_); rintro e w3 ⟨rfl, hw3⟩; rw [hw3]; clear hw3 w3)
    go_wp2_with fail
    refine HM.out.mono ?_
    clear HM HZ2
    rintro e2 w2 (⟨p, q, A3, A4, c3, c4, rfl, ⟨hd, hs65, _, hL⟩, hpl, hb2⟩ | ⟨rfl, hb2⟩)
    rotate_left
    · have HB := Lib.hid hb2
      clear hb2
      go_wp2
      go_ret
      exact ⟨rfl, below_alloc_ HB.out _⟩
    have HD := Lib.hid (And.intro hd (And.intro hs65 hL))
    have HP := Lib.hid hpl
    have HJ := Lib.hid (fun w1 => jpi_c name w1)
    obtain ⟨W3, hW3⟩ : ∃ W3, W3 = w2.alloc (.cells #[.int .i64 q.f0, .int .i64 q.f1, .int .i64 q.f2, .slice A3 q.f3.length c3, .slice A4 q.f4.length c4] 35) := ⟨_, rfl⟩
    obtain ⟨g, hg⟩ : ∃ g, g = w2.heap.size := ⟨_, rfl⟩
    have HX : Hid (Bx W3 g q.f0 q.f1 q.f2 (.slice A3 q.f3.length c3) (.slice A4 q.f4.length c4)) := Lib.hid (by rw [hW3, hg]; exact blk_new w2 _)
    have HB3 : Hid (Below w.heap.size w W3) := Lib.hid (by rw [hW3]; exact below_alloc_ hb2 _)
    have HB23 : Hid (Below w2.heap.size w2 W3) := Lib.hid (by rw [hW3]; exact below_alloc (Below.refl _ _) _)
    clear hd hs65 hL hb2 hpl
    go_upto_region 4 with (fail)
    rw [← hW3, ← hg]
    clear hW3 hg
    have x0 := HX.out.c0
    by_cases h6 : q.f0 = 6
    rotate_left
    · have a6 : (q.f0 != 6) = true := by simpa using h6
      clear h6
      go_wp2
      go_ret
      exact ⟨rfl, HB3.out⟩
    have a6 : (q.f0 != 6) = false := by simpa using h6
    have H6 := Lib.hid h6
    clear h6
    by_cases h9 : gb (Kit.nums name) 0 = 91
    · have HJ2 : Hid (∀ w1, Calls Tryd.prog 18 #[.string name] w1 fun e w' => e = .returned (.bool true) ∧ w' = w1) := Lib.hid (fun w1 => by have := HJ.out w1; rw [decide_eq_true h9] at this; exact this)
      clear h9 HJ
      go_wp2_with (go_at_call 18; (with_reducible refine (HJ2.out _).mono ?_); rintro e4 w4 ⟨rfl, hw4⟩; rw [hw4]; clear hw4 w4)
      go_ret
      exact ⟨rfl, HB3.out⟩
    have HJ2 : Hid (∀ w1, Calls Tryd.prog 18 #[.string name] w1 fun e w' => e = .returned (.bool false) ∧ w' = w1) := Lib.hid (fun w1 => by have := HJ.out w1; rw [decide_eq_false h9] at this; exact this)
    clear h9 HJ
    have x1 := HX.out.c1
    have x2 := HX.out.c2
    have x3 := HX.out.c3
    have x4 := HX.out.c4
    have hsz : s.size ≤ 1000000000000 := by have := HD.out.2.1; omega
    have HGd : Hid (Gd (Kit.nums s) q) := Lib.hid (by
      obtain ⟨n0, e0, hv0, he0⟩ := HD.out.1
      have hb0 := (bl_le (Kit.nums s) 0 (Nat.zero_le _)).2
      have hve := (v_lt n0).1 _ _ _ hb0 hv0
      have hed : e0 = (Kit.nums s).length ∨ isDl (gb (Kit.nums s) e0) := by
        by_cases hel : e0 = (Kit.nums s).length
        · exact .inl hel
        · right
          by_cases hb : isBlank (gb (Kit.nums s) e0)
          · unfold isBlank at hb
            unfold isDl
            omega
          · rw [bl_stop hb] at he0
            exact absurd he0 hel
      obtain ⟨n', b', e', h1, _, h3, _⟩ := HD.out.2.2.val _ _ _ hv0 hb0 hed
      exact ⟨n', b', e', h1, h3⟩)
    have HNm := Lib.hid (named_c s name W3 q.f0 q.f1 q.f2 A3 A4 c3 c4 q.f4.length q.f3 (by omega) (Kd.C_below HP.out.ns HB23.out) (Gd.nmg HGd.out H6.out))
    go_upto_region 6 with (go_at_call 18; (with_reducible refine (HJ2.out _).mono ?_); rintro e4 w4 ⟨rfl, hw4⟩; rw [hw4]; clear hw4 w4)
    go_wp2_with fail
    refine HNm.out.mono ?_
    rintro e5 w5 ⟨rfl, hb5⟩
    clear HNm HJ2 x0 x1 x2 x3 x4
    have HX5 : Hid (Bx w5 g q.f0 q.f1 q.f2 (.slice A3 q.f3.length c3) (.slice A4 q.f4.length c4)) := Lib.hid (blk_below HX.out hb5)
    have HB5 : Hid (Below w.heap.size w w5) := Lib.hid (below_step HB3.out hb5)
    have HB25 : Hid (Below w2.heap.size w2 w5) := Lib.hid (below_step HB23.out hb5)
    clear hb5 HX HB3 HB23
    cases hnm : nmd (Kit.nums s) (Kit.nums name) q.f3 0 with
    | none =>
      unfold nmZ
      clear hnm
      go_wp2
      go_ret
      exact ⟨rfl, HB5.out⟩
    | some k =>
      unfold nmZ
      have hkl : k < q.f4.length := by
        obtain ⟨_, ⟨x, hx, _⟩, _⟩ := nmd_some _ _ _ hnm
        have := (List.getElem?_eq_some_iff.1 hx).1
        have := Gd.names HGd.out H6.out
        omega
      obtain ⟨kid, hkid⟩ : ∃ kid, q.f4[k]? = some kid := ⟨_, List.getElem?_eq_getElem hkl⟩
      have hst : stp (Kit.nums s) q (Kit.nums name) = some kid := by unfold stp; rw [if_pos H6.out, hnm]; exact hkid
      have hLk : Ld (Kit.nums s) p ((ks ++ [name]).map Kit.nums) kid := by
        rw [List.map_append]
        exact Ld.snoc HD.out.2.2 (Ld.cons HGd.out (by rw [nums_len]; omega) hst (.nil kid))
      obtain ⟨z, b, ee, hA, hq1, hq2⟩ := at_of HD.out.1 hLk
      obtain ⟨nv, hv⟩ := hA.v
      have hzb := bl_le (Kit.nums s) z hA.zl
      rw [hA.bl] at hzb
      have hbe := (v_lt nv).1 _ _ _ hzb.2 hv
      rw [nums_len] at hbe
      have h4 : kid.f0 = 4 → b + 2 ≤ ee := fun h => val_str hv (by unfold jk; rw [if_pos h])
      have HA := Lib.hid hA
      have HT := Lib.hid (fun (d : ByteArray) (B3 B4 : Option Addr) (b3 b4 : Nat) (w1 : World) => told_c s kid.f0 b ee B3 B4 kid.f3.length b3 kid.f4.length b4 d w1 hsz (by omega) hbe.2 h4)
      have hraw := raw_str (s := s) (k := kid.f0) (b := b) (e := ee) (by by_cases h : kid.f0 = 4; exact .inl (h4 h); exact .inr h)
      obtain ⟨ad, B3, b3, B4, b4, ea, y0, y1, y2, y3, y4, l3, g3, l4, g4⟩ := at_T35 HP.out.ks ((k : Nat) : Int) (by omega) (by omega)
      have hx : rd_T35 q.f4 ((k : Nat) : Int) = kid := by unfold rd_T35; rw [Int.toNat_natCast, List.getD_eq_getElem?_getD, hkid]; rfl
      rw [hx, Int.toNat_natCast] at y0 y1 y2 y3 y4
      rw [hq1] at y1
      rw [hq2] at y2
      subst ea
      have HY : Hid (w5.cell? (ad.add (k * 5)) = some (.int .i64 kid.f0) ∧ w5.cell? ⟨(ad.add (k * 5)).block, (ad.add (k * 5)).off + 1, none⟩ = some (.int .i64 (b : Int)) ∧ w5.cell? ⟨(ad.add (k * 5)).block, (ad.add (k * 5)).off + 2, none⟩ = some (.int .i64 (ee : Int)) ∧ w5.cell? ⟨(ad.add (k * 5)).block, (ad.add (k * 5)).off + 3, none⟩ = some (.slice B3 kid.f3.length b3) ∧ w5.cell? ⟨(ad.add (k * 5)).block, (ad.add (k * 5)).off + 4, none⟩ = some (.slice B4 kid.f4.length b4)) := Lib.hid ⟨pw_cell_below HB25.out y0, pw_cell_below HB25.out y1, pw_cell_below HB25.out y2, pw_cell_below HB25.out y3, pw_cell_below HB25.out y4⟩
      clear y0 y1 y2 y3 y4 l3 g3 l4 g4 hx hkid hst hLk hq1 hq2 hv hA h4 hnm hzb
      have HMo := Lib.hid (more_c K ck ks name w5 (HK.out.below HB5.out) HCk.out HLen.out)
      go_wp2_with fail
      refine HMo.out.mono ?_
      rintro e6 w6 ⟨K2, ck2, rfl, hk6, hc6, hb6⟩
      have HB6 : Hid (Below w.heap.size w w6) := Lib.hid (below_step HB5.out hb6)
      have HG := Lib.hid (jpgetk_c HA.out HD.out.2.1 K2 ck2 w6 hk6 hc6 (HE.out.below HB6.out) (HV.out.below HB6.out))
      unfold JgV at HG
      rw [hraw] at HG
      have HX6 := Lib.hid (blk_below HX5.out hb6)
      have HB56 := Lib.hid hb6
      clear hk6 hc6 hb6 hraw HMo
      obtain ⟨kl, hkn⟩ : ∃ kl, (ks ++ [name]).length = kl := ⟨_, rfl⟩
      obtain ⟨v, hv⟩ : ∃ v, rawS s kid.f0 b ee = v := ⟨_, rfl⟩
      obtain ⟨kk, hkk⟩ : ∃ kk, jk kid.f0 = kk := ⟨_, rfl⟩
      rw [hkn, hv, hkk] at HG
      rw [hv, hkk] at HT
      rw [hkn]
      clear hkn hv hkk
      go_wp2_with fail
      refine HG.out.mono ?_
      rintro e7 w7 ⟨rfl, hb7⟩
      have HB7 : Hid (Below w.heap.size w w7) := Lib.hid (below_step HB6.out hb7)
      obtain ⟨W8, hW8⟩ : ∃ W8, W8 = w7.alloc (.cells #[.string ⟨#[]⟩, .string v, .int .i64 kk, .int .i64 ee] 39) := ⟨_, rfl⟩
      obtain ⟨h, hh⟩ : ∃ h, h = w7.heap.size := ⟨_, rfl⟩
      have HX8 : Hid (W8.heap[h]? = some (.cells #[.string ⟨#[]⟩, .string v, .int .i64 kk, .int .i64 ee] 39 (0, 0))) := Lib.hid (by rw [hW8, hh]; exact blk_new w7 _)
      have HB8 : Hid (Below w.heap.size w W8) := Lib.hid (by rw [hW8]; exact below_alloc_ HB7.out _)
      have HG8 : Hid (Bx W8 g q.f0 q.f1 q.f2 (.slice A3 q.f3.length c3) (.slice (some ad) q.f4.length c4)) := Lib.hid (by rw [hW8]; exact blk_alloc (blk_below HX6.out hb7) _)
      go_upto_region 10 with (fail)
      rw [← hW8, ← hh]
      have hb58 : Below w5.heap.size w5 W8 := by rw [hW8]; exact below_alloc_ (below_step HB56.out hb7) _
      have hY : (∀ x, w5.cell? x ≠ none → W8.cell? x = w5.cell? x) := fun x hx => by
        cases hc : w5.cell? x with
        | none => exact absurd hc hx
        | some u => exact pw_cell_below hb58 hc
      obtain ⟨y0, y1, y2, y3, y4⟩ := HY.out
      have y0 := pw_cell_below hb58 y0
      have y1 := pw_cell_below hb58 y1
      have y2 := pw_cell_below hb58 y2
      have y3 := pw_cell_below hb58 y3
      have y4 := pw_cell_below hb58 y4
      have x4 : W8.drew.cell? ⟨g, 4, none⟩ = some (.slice (some ad) q.f4.length c4) := HG8.out.c4
      have u0 : W8.drew.cell? ⟨h, 0, none⟩ = some (.string ⟨#[]⟩) := (blk_cell HX8.out 0).trans rfl
      have u1 : W8.drew.cell? ⟨h, 1, none⟩ = some (.string v) := (blk_cell HX8.out 1).trans rfl
      have u2 : W8.drew.cell? ⟨h, 2, none⟩ = some (.int .i64 kk) := (blk_cell HX8.out 2).trans rfl
      have u3 : W8.drew.cell? ⟨h, 3, none⟩ = some (.int .i64 ee) := (blk_cell HX8.out 3).trans rfl
      have z0 : W8.drew.cell? (ad.add (k * 5)) = _ := y0
      have z1 : W8.drew.cell? ⟨(ad.add (k * 5)).block, (ad.add (k * 5)).off + 1, none⟩ = _ := y1
      have z2 : W8.drew.cell? ⟨(ad.add (k * 5)).block, (ad.add (k * 5)).off + 2, none⟩ = _ := y2
      have z3 : W8.drew.cell? ⟨(ad.add (k * 5)).block, (ad.add (k * 5)).off + 3, none⟩ = _ := y3
      have z4 : W8.drew.cell? ⟨(ad.add (k * 5)).block, (ad.add (k * 5)).off + 4, none⟩ = _ := y4
      have kp0 : Below W8.heap.size W8 W8.drew := (Below.refl _ _).drew
      have t1 := eq_true (show (0 : Int) ≤ (k : Int) by omega)
      have t2 := eq_true (show (k : Int) < (q.f4.length : Int) by omega)
      clear hY y0 y1 y2 y3 y4 hW8 hh hb7 hb58 HX6 HB56 HX5 HY
      go_region_held3 (fun w' => w'.cell? ⟨g, 4, none⟩ = some (.slice (some ad) q.f4.length c4) ∧ w'.cell? ⟨h, 0, none⟩ = some (.string ⟨#[]⟩) ∧ w'.cell? ⟨h, 1, none⟩ = some (.string v) ∧ w'.cell? ⟨h, 2, none⟩ = some (.int .i64 kk) ∧ w'.cell? ⟨h, 3, none⟩ = some (.int .i64 ee) ∧ w'.cell? (ad.add (k * 5)) = some (.int .i64 kid.f0) ∧ w'.cell? ⟨(ad.add (k * 5)).block, (ad.add (k * 5)).off + 1, none⟩ = some (.int .i64 b) ∧ w'.cell? ⟨(ad.add (k * 5)).block, (ad.add (k * 5)).off + 2, none⟩ = some (.int .i64 ee) ∧ w'.cell? ⟨(ad.add (k * 5)).block, (ad.add (k * 5)).off + 3, none⟩ = some (.slice B3 kid.f3.length b3) ∧ w'.cell? ⟨(ad.add (k * 5)).block, (ad.add (k * 5)).off + 4, none⟩ = some (.slice B4 kid.f4.length b4) ∧ Below W8.heap.size W8 w')
        (first | exact ⟨x4, u0, u1, u2, u3, z0, z1, z2, z3, z4, kp0⟩ | exact ⟨pw_cell_below hb9 x4, pw_cell_below hb9 u0, pw_cell_below hb9 u1, pw_cell_below hb9 u2, pw_cell_below hb9 u3, pw_cell_below hb9 z0, pw_cell_below hb9 z1, pw_cell_below hb9 z2, pw_cell_below hb9 z3, pw_cell_below hb9 z4, kp2⟩)
        (first | (go_at_call 21; (with_reducible refine (HT.out _ _ _ _ _ _).mono ?_); rintro e9 w9 ⟨rfl, hb9⟩; have kp2 : Below W8.heap.size W8 w9 := below_step kp0 hb9))
      go_wp2
      go_ret
      exact ⟨rfl, below_step HB8.out kp2⟩
theorem gf_walk (s : ByteArray) (K : Option Addr) (ck : Nat) (ks : List ByteArray) (name : ByteArray) (w : World) (_hs : s.size ≤ 140737488351232) (hK : KeysR w K ks) (hck : ks.length ≤ ck) (_hn : name.size ≤ 140737488351232) (hL : laidMetH Tryd.prog Rows.fnJpGetFirstRow.laid w) :
    Calls Tryd.prog 6 #[.string s, .slice K ks.length ck, .string name] w fun e w' => e = .returned (.bool true) ∧ Below w.heap.size w w' :=
  gf_main s K ck ks name w hK hck
    (errs_all (l := Rows.fnJpGetFirstRow.laid) (by kernel_rfl) (by simp [Rows.fnJpGetFirstRow]) (by simp [Rows.fnJpGetFirstRow]) (by simp [Rows.fnJpGetFirstRow]) (by simp [Rows.fnJpGetFirstRow]) hL)
    (vars_of (l := Rows.fnJpGetFirstRow.laid) (by kernel_rfl) (by simp [Rows.fnJpGetFirstRow]) (by simp [Rows.fnJpGetFirstRow]) (by simp [Rows.fnJpGetFirstRow]) hL)
end Go.Proofs.YtgbliniamkpocaaDoor.Jp
/- Words of the print, those that this claim needs (cut by a program of this session). -/
-- PRINTED WORDS (module Derived/Print/Sized.lean): go-gate-2's, for the rows of laws over slices: an AI agent of Go's test side, Tue Nov 17 2026; no person has read it. Lean checks it.
namespace Go.Proofs.YtgbliniamkpocaaDoorW.PrintWords
open Go.ChangeShapes Go.WideShapes
end Go.Proofs.YtgbliniamkpocaaDoorW.PrintWords
