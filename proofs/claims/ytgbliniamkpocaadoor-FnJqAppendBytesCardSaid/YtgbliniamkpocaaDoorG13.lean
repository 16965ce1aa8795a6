/- Texts of this claim, laid together. -/
import Derived.Test.YtgbliniamkpocaaDoorG12
import Derived.Test.YtgbliniamkpocaaDoorPureGu
/- spec.Once and spec.Reach, walked by hand (written by mk_one.py). -/
namespace Go.Proofs.YtgbliniamkpocaaDoor.Jp
open Go.RowKit Go.Proofs.YtgbliniamkpocaaDoorW.PrintWords Go.Proofs.YtgbliniamkpocaaDoor.Kit Go.Proofs.YtgbliniamkpocaaDoor.Pure Go.Proofs.YtgbliniamkpocaaDoor.PPl

def onB (L : List Int) : S35 → List (List Int) → Bool
  | _, [] => true
  | p, key :: r => if p.f0 = 6 ∧ 1 < cnt L key p.f3 then false else (stp L p key).elim true (fun q => onB L q r)
theorem on_of {L : List Int} : ∀ (keys : List (List Int)) (p : S35), onB L p keys = true → On L p keys := by
  intro keys
  induction keys with
  | nil => intro p _; exact trivial
  | cons key r ih =>
    intro p h
    unfold onB at h
    split at h
    · cases h
    · rename_i hc
      unfold On
      refine ⟨fun h6 => ?_, ?_⟩
      · have : ¬ 1 < cnt L key p.f3 := fun h => hc ⟨h6, h⟩
        omega
      · cases hs : stp L p key with
        | none => exact trivial
        | some q =>
          rw [hs] at h
          exact ih q h
theorem cnt_drop {L key : List Int} {ns : List S72} {k : Nat} (h : k < ns.length) : cnt L key (ns.drop k) = (if un (nmI L ns[k]) = some key then 1 else 0) + cnt L key (ns.drop (k + 1)) := by
  rw [List.drop_eq_getElem_cons h]
  unfold cnt
  rw [List.filter_cons]
  by_cases hu : un (nmI L ns[k]) = some key
  · rw [if_pos (by simpa using hu), if_pos hu, List.length_cons]
    omega
  · rw [if_neg (by simpa using hu), if_neg hu]
    omega
/-- Where a loop over keys stands. -/
structure OI (L : List Int) (w wc : World) (q : S35) (A3 A4 : Option Addr) (c3 c4 : Nat) : Prop where
  bx : Bx wc w.heap.size q.f0 q.f1 q.f2 (.slice A3 q.f3.length c3) (.slice A4 q.f4.length c4)
  pl : PlC w q A3 A4
  gd : Gd L q
  bl : Below w.heap.size w wc
theorem OI.below {L : List Int} {w wc w1 : World} {q : S35} {A3 A4 : Option Addr} {c3 c4 : Nat} (h : OI L w wc q A3 A4 c3 c4) (hb : Below wc.heap.size wc w1) : OI L w w1 q A3 A4 c3 c4 := ⟨blk_below h.bx hb, h.pl, h.gd, below_step h.bl hb⟩
theorem key_at {ks : List ByteArray} {i : Nat} (h : i < ks.length) : (ks.map Kit.nums).drop i = Kit.nums ks[i] :: (ks.map Kit.nums).drop (i + 1) := by
  rw [List.drop_eq_getElem_cons (by simpa using h)]
  simp
theorem Bx.alloc_ {w : World} {b : Nat} {k x y : Int} {v3 v4 : Value} (h : Bx w b k x y v3 v4) (o : Obj) : Bx (w.alloc o) b k x y v3 v4 := blk_alloc h o
theorem below_alloc_ {w W : World} (h : Below w.heap.size w W) (o : Obj) : Below w.heap.size w (W.alloc o) := below_alloc h o
set_option maxHeartbeats 16000000 in
set_option maxRecDepth 100000 in
theorem once_c (s : ByteArray) (w : World) (p : S35) (A3 A4 K : Option Addr) (c3 c4 ck : Nat) (ks : List ByteArray) (hs : s.size ≤ 1000000000000) (hC : PlC w p A3 A4) (hG : Gd (Kit.nums s) p) (hK : KeysR w K ks) (hks : ∀ k ∈ ks, k.size ≤ 2147483647) :
    Calls Tryd.prog 28 #[.string s, .agg #[.int .i64 p.f0, .int .i64 p.f1, .int .i64 p.f2, .slice A3 p.f3.length c3, .slice A4 p.f4.length c4], .slice K ks.length ck] w fun e w' => e = .returned (.bool (onB (Kit.nums s) p (ks.map Kit.nums))) ∧ Below w.heap.size w w' := by
  obtain ⟨R, hR⟩ : ∃ R, onB (Kit.nums s) p (ks.map Kit.nums) = R := ⟨_, rfl⟩
  rw [hR]
  have HR := Lib.hid hR
  have HC := Lib.hid hC
  have HG := Lib.hid hG
  have HK := Lib.hid hK
  have HKs := Lib.hid hks
  have hkl : ks.length ≤ 9223372036854775807 := hK.2.1
  have hu35 := Tryd.underlying35
  have hu72 := Tryd.underlying72
  have hsL : (Kit.nums s).length < 288230376151711744 := by rw [nums_len]; omega
  have HSL := Lib.hid hsL
  clear hR hC hG hK hks hsL
  go_enter Tryd.func28, Tryd.ntmps28
  go_wp2_with fail
  have HO0 : Hid (OI (Kit.nums s) w (w.alloc (.cells #[.int .i64 p.f0, .int .i64 p.f1, .int .i64 p.f2, .slice A3 p.f3.length c3, .slice A4 p.f4.length c4] 35)) p A3 A4 c3 c4) := Lib.hid ⟨blk_new w _, HC.out, HG.out, below_alloc (Below.refl _ _) _⟩
  go_loopw [15] (fun v wc => ∃ (i : Nat) (q : S35) (A3 A4 : Option Addr) (c3 c4 : Nat), i ≤ ks.length ∧ v = .int .i64 i ∧ Hid (OI (Kit.nums s) w wc q A3 A4 c3 c4) ∧ Hid (onB (Kit.nums s) q ((ks.map Kit.nums).drop i) = R)) (fun v _ => ks.length - (intOf v).toNat)
  case atStart => exact ⟨0, p, A3, A4, c3, c4, Nat.zero_le _, rfl, HO0, HR⟩
  case round =>
    clear HR HO0 HC HG
    obtain ⟨i, q, A3, A4, c3, c4, hi, rfl, HO, HI2⟩ := hrel
    have d0 := HO.out.bx.c0
    by_cases hlt : i < ks.length
    · obtain ⟨kad, rfl, hcell⟩ := (HK.out.below HO.out.bl).at_ (i : Int) (by omega) (by omega)
      have hki : rdOf ByteArray.empty ks (i : Int) = ks[i] := by simp [rdOf, hlt]
      rw [hki, Int.toNat_natCast] at hcell
      by_cases h6 : q.f0 = 6
      · have a6 : (q.f0 == 6) = true := by simpa using h6
        have HN := Lib.hid (Gd.nmg HO.out.gd h6)
        have hnl : q.f3.length ≤ 9223372036854775807 := HO.out.pl.ns.2.1
        have H6 := Lib.hid h6
        clear h6
        go_wp2_with fail
        go_loopw [9, 10] (fun v9 v10 wd => ∃ (k f : Nat), k ≤ q.f3.length ∧ f ≤ k ∧ v9 = .int .i64 f ∧ v10 = .int .i64 k ∧ Hid (Below wr.heap.size wr wd ∧ f + cnt (Kit.nums s) (Kit.nums ks[i]) (q.f3.drop k) = cnt (Kit.nums s) (Kit.nums ks[i]) q.f3)) (fun _ v _ => q.f3.length - (intOf v).toNat)
        case atStart => exact ⟨0, 0, Nat.zero_le _, Nat.le_refl _, rfl, rfl, Lib.hid ⟨Below.refl _ _, by simp⟩⟩
        case round =>
          obtain ⟨k, f, hk, hfk, rfl, rfl, HJ⟩ := hrel
          have HOw := Lib.hid (HO.out.below HJ.out.1)
          have d3 := HOw.out.bx.c3
          clear d0
          by_cases hkl : k < q.f3.length
          · obtain ⟨ad, ea, x0, x1⟩ := at_T72 (Kd.C_below HO.out.pl.ns HOw.out.bl) (k : Int) (by omega) (by omega)
            have hx : rd_T72 q.f3 (k : Int) = q.f3[k] := by simp [rd_T72, hkl]
            rw [hx, Int.toNat_natCast] at x0 x1
            obtain ⟨a, c, r, exx, hac, hcs, h2s, hun, hcmp⟩ := nm_cmp (key := ks[i]) (HN.out q.f3[k] (List.getElem_mem hkl))
            have HQ : Hid (∀ w1, Calls Tryd.prog 35 #[.string (s.extract a c)] w1 fun e w' => e = .returned (.string (strOfNums r)) ∧ Below w1.heap.size w1 w') := Lib.hid (fun w1 => uq_c _ r w1 h2s (by simp; omega) hun)
            rw [exx] at x0 x1
            subst ea
            have hcd := cnt_drop (L := Kit.nums s) (key := Kit.nums ks[i]) hkl
            have HS := Lib.hid HJ.out.2
            have HBI := Lib.hid HJ.out.1
            have hka := eq_true (show (0 : Int) ≤ (k : Int) by omega)
            have hkb := eq_true (show (k : Int) < (q.f3.length : Int) by omega)
            have haa := eq_true (show (0 : Int) ≤ (a : Int) by omega)
            have hbb := eq_true (show (a : Int) ≤ (c : Int) by omega)
            have hcc := eq_true (show (c : Int) ≤ (s.size : Int) by omega)
            have wf : IntKind.i64.wrap ((f : Int) + 1) = (f : Int) + 1 := by rw [IntKind.wrap_i64]; omega
            by_cases heq : un (nmI (Kit.nums s) q.f3[k]) = some (Kit.nums ks[i])
            · have a0 : ((strOfNums r).toList == (ks[i]).toList) = true := beq_iff_eq.2 (hcmp.2 heq)
              have HE : Hid (f + 1 + cnt (Kit.nums s) (Kit.nums ks[i]) (q.f3.drop (k + 1)) = cnt (Kit.nums s) (Kit.nums ks[i]) q.f3) := Lib.hid (by have := HS.out; rw [hcd, if_pos heq] at this; omega)
              clear hcmp heq hcd exx hun HS HJ hx h2s
              go_upto_region 9 with (fail)
              have kp0 : Below wr.heap.size wr wr.drew := (Below.refl _ _).drew
              go_region_held3 (fun w' => w'.cell? ⟨w.heap.size, 3, none⟩ = some (.slice (some ad) q.f3.length c3) ∧ w'.cell? (ad.add (k * 2)) = some (.int .i64 a) ∧ w'.cell? ⟨(ad.add (k * 2)).block, (ad.add (k * 2)).off + 1, none⟩ = some (.int .i64 c) ∧ Below wr.heap.size wr w')
                (first | exact ⟨d3, x0, x1, kp0⟩ | exact ⟨y3, y0, y1, kp2⟩)
                (first | (go_at_call 35; (with_reducible refine (HQ.out _).mono ?_); rintro e2 w2 ⟨rfl, hb2⟩; have y3 := pw_cell_below (w := wr.drew) hb2 d3; have y0 := pw_cell_below (w := wr.drew) hb2 x0; have y1 := pw_cell_below (w := wr.drew) hb2 x1; have kp2 := below_step (w := wr) (W := wr.drew) kp0 hb2))
              go_wp2
              go_round
              case rel => exact ⟨k + 1, f + 1, by omega, by omega, by go_num, by go_num, Lib.hid ⟨below_step HBI.out kp2, HE.out⟩⟩
              case measure => simp [intOf]; omega
            · have a0 : ((strOfNums r).toList == (ks[i]).toList) = false := beq_eq_false_iff_ne.2 (fun h => heq (hcmp.1 h))
              have HE : Hid (f + cnt (Kit.nums s) (Kit.nums ks[i]) (q.f3.drop (k + 1)) = cnt (Kit.nums s) (Kit.nums ks[i]) q.f3) := Lib.hid (by have := HS.out; rw [hcd, if_neg heq] at this; omega)
              clear hcmp heq hcd exx hun HS HJ hx h2s
              go_upto_region 9 with (fail)
              have kp0 : Below wr.heap.size wr wr.drew := (Below.refl _ _).drew
              go_region_held3 (fun w' => w'.cell? ⟨w.heap.size, 3, none⟩ = some (.slice (some ad) q.f3.length c3) ∧ w'.cell? (ad.add (k * 2)) = some (.int .i64 a) ∧ w'.cell? ⟨(ad.add (k * 2)).block, (ad.add (k * 2)).off + 1, none⟩ = some (.int .i64 c) ∧ Below wr.heap.size wr w')
                (first | exact ⟨d3, x0, x1, kp0⟩ | exact ⟨y3, y0, y1, kp2⟩)
                (first | (go_at_call 35; (with_reducible refine (HQ.out _).mono ?_); rintro e2 w2 ⟨rfl, hb2⟩; have y3 := pw_cell_below (w := wr.drew) hb2 d3; have y0 := pw_cell_below (w := wr.drew) hb2 x0; have y1 := pw_cell_below (w := wr.drew) hb2 x1; have kp2 := below_step (w := wr) (W := wr.drew) kp0 hb2))
              go_wp2
              go_round
              case rel => exact ⟨k + 1, f, by omega, by omega, rfl, by go_num, Lib.hid ⟨below_step HBI.out kp2, HE.out⟩⟩
              case measure => simp [intOf]; omega
          · have hcn : f = cnt (Kit.nums s) (Kit.nums ks[i]) q.f3 := by
              have := HJ.out.2
              rw [List.drop_eq_nil_of_le (by omega)] at this
              exact this
            by_cases h1 : 1 < f
            · have HE : Hid (false = R) := Lib.hid (by have h := HI2.out; rw [key_at hlt] at h; unfold onB at h; rw [if_pos ⟨H6.out, by omega⟩] at h; exact h)
              clear hcn HJ
              go_wp2
              go_ret
              exact ⟨congrArg (fun z => Ending.returned (.bool z)) HE.out, HOw.out.bl⟩
            · have HF : Hid (¬ (q.f0 = 6 ∧ 1 < cnt (Kit.nums s) (Kit.nums ks[i]) q.f3)) := Lib.hid (fun h => h1 (by omega))
              have e0 := HOw.out.bx.c0
              have e1 := HOw.out.bx.c1
              have e2 := HOw.out.bx.c2
              have e4 := HOw.out.bx.c4
              clear hcn HJ
              go_wp2_with fail
              refine (stp_c s ks[i] w _ (.of_below HOw.out.bl) q A3 A4 c3 c4 (by omega) (by have := HKs.out ks[i] (List.getElem_mem hlt); omega) HOw.out.pl HOw.out.gd).mono ?_
              rintro e2 w2 (⟨q2, B3, B4, b3, b4, hq2, rfl, hc2, hb2⟩ | ⟨hq2, rfl, hb2⟩)
              · have HO2 : Hid (OI (Kit.nums s) w w2 q A3 A4 c3 c4) := Lib.hid (HOw.out.below hb2)
                have HC2 := Lib.hid hc2
                have HG2 : Hid (Gd (Kit.nums s) q2) := Lib.hid (Gd.step HOw.out.gd HSL.out hq2)
                have HE : Hid (onB (Kit.nums s) q2 ((ks.map Kit.nums).drop (i + 1)) = R) := Lib.hid (by have h := HI2.out; rw [key_at hlt] at h; unfold onB at h; rw [if_neg HF.out, hq2] at h; exact h)
                have hsz : w.heap.size < w2.heap.size := blk_lt HO2.out.bx
                have hne : w.heap.size ≠ w2.heap.size := by omega
                have hne' : w2.heap.size ≠ w.heap.size := by omega
                have s0 := HO2.out.bx.c0
                have s1 := HO2.out.bx.c1
                have s2 := HO2.out.bx.c2
                have s3 := HO2.out.bx.c3
                have s4 := HO2.out.bx.c4
                have t0 := HO2.out.bx.fr 0
                have t1 := HO2.out.bx.fr 1
                have t2 := HO2.out.bx.fr 2
                have t3 := HO2.out.bx.fr 3
                have t4 := HO2.out.bx.fr 4
                clear hb2 hc2 hq2 HOw HI2
                go_wp2
                go_round
                case rel => exact ⟨i + 1, q2, B3, B4, b3, b4, by omega, by go_num, Lib.hid ⟨Bx.alloc_ (Bx.five HO2.out.bx _ _ _ _ _) _, HC2.out, HG2.out, below_alloc_ (five_below HO2.out.bl (Nat.le_refl _) _ _ _ _ _) _⟩, HE⟩
                case measure => simp [intOf]; omega
              · have HO2 : Hid (OI (Kit.nums s) w w2 q A3 A4 c3 c4) := Lib.hid (HOw.out.below hb2)
                have HE : Hid (true = R) := Lib.hid (by have h := HI2.out; rw [key_at hlt] at h; unfold onB at h; rw [if_neg HF.out, hq2] at h; exact h)
                clear hb2 hq2 HOw HI2
                go_wp2
                go_ret
                exact ⟨congrArg (fun z => Ending.returned (.bool z)) HE.out, below_alloc_ HO2.out.bl _⟩
      · have a6 : (q.f0 == 6) = false := by simpa using h6
        have HF : Hid (¬ (q.f0 = 6 ∧ 1 < cnt (Kit.nums s) (Kit.nums ks[i]) q.f3)) := Lib.hid (fun h => h6 h.1)
        clear h6
        have e1 := HO.out.bx.c1
        have e2 := HO.out.bx.c2
        have e3 := HO.out.bx.c3
        have e4 := HO.out.bx.c4
        go_wp2_with fail
        refine (stp_c s ks[i] w _ (.of_below HO.out.bl) q A3 A4 c3 c4 (by omega) (by have := HKs.out ks[i] (List.getElem_mem hlt); omega) HO.out.pl HO.out.gd).mono ?_
        rintro e2 w2 (⟨q2, B3, B4, b3, b4, hq2, rfl, hc2, hb2⟩ | ⟨hq2, rfl, hb2⟩)
        · have HO2 : Hid (OI (Kit.nums s) w w2 q A3 A4 c3 c4) := Lib.hid (HO.out.below hb2)
          have HC2 := Lib.hid hc2
          have HG2 : Hid (Gd (Kit.nums s) q2) := Lib.hid (Gd.step HO.out.gd HSL.out hq2)
          have HE : Hid (onB (Kit.nums s) q2 ((ks.map Kit.nums).drop (i + 1)) = R) := Lib.hid (by have h := HI2.out; rw [key_at hlt] at h; unfold onB at h; rw [if_neg HF.out, hq2] at h; exact h)
          have hsz : w.heap.size < w2.heap.size := blk_lt HO2.out.bx
          have hne : w.heap.size ≠ w2.heap.size := by omega
          have hne' : w2.heap.size ≠ w.heap.size := by omega
          have s0 := HO2.out.bx.c0
          have s1 := HO2.out.bx.c1
          have s2 := HO2.out.bx.c2
          have s3 := HO2.out.bx.c3
          have s4 := HO2.out.bx.c4
          have t0 := HO2.out.bx.fr 0
          have t1 := HO2.out.bx.fr 1
          have t2 := HO2.out.bx.fr 2
          have t3 := HO2.out.bx.fr 3
          have t4 := HO2.out.bx.fr 4
          clear hb2 hc2 hq2 HO HI2
          go_wp2
          go_round
          case rel => exact ⟨i + 1, q2, B3, B4, b3, b4, by omega, by go_num, Lib.hid ⟨Bx.alloc_ (Bx.five HO2.out.bx _ _ _ _ _) _, HC2.out, HG2.out, below_alloc_ (five_below HO2.out.bl (Nat.le_refl _) _ _ _ _ _) _⟩, HE⟩
          case measure => simp [intOf]; omega
        · have HO2 : Hid (OI (Kit.nums s) w w2 q A3 A4 c3 c4) := Lib.hid (HO.out.below hb2)
          have HE : Hid (true = R) := Lib.hid (by have h := HI2.out; rw [key_at hlt] at h; unfold onB at h; rw [if_neg HF.out, hq2] at h; exact h)
          clear hb2 hq2 HO HI2
          go_wp2
          go_ret
          exact ⟨congrArg (fun z => Ending.returned (.bool z)) HE.out, below_alloc_ HO2.out.bl _⟩
    · have HE : Hid (true = R) := Lib.hid (by have h := HI2.out; rw [List.drop_eq_nil_of_le (by rw [List.length_map]; omega)] at h; exact h)
      have HBl := Lib.hid HO.out.bl
      clear HI2 HO
      go_wp2
      go_ret
      exact ⟨congrArg (fun z => Ending.returned (.bool z)) HE.out, HBl.out⟩
set_option maxHeartbeats 16000000 in
set_option maxRecDepth 100000 in
theorem reach_c (s : ByteArray) (w : World) (p : S35) (A3 A4 K : Option Addr) (c3 c4 ck : Nat) (ks : List ByteArray) (hs : s.size ≤ 1000000000000) (hC : PlC w p A3 A4) (hG : Gd (Kit.nums s) p) (hK : KeysR w K ks) (hks : ∀ k ∈ ks, k.size ≤ 2147483647) :
    Calls Tryd.prog 29 #[.string s, .agg #[.int .i64 p.f0, .int .i64 p.f1, .int .i64 p.f2, .slice A3 p.f3.length c3, .slice A4 p.f4.length c4], .slice K ks.length ck] w fun e w' => ∃ (q : S35) (A3 A4 : Option Addr) (c3 c4 n : Nat), rch (Kit.nums s) p (ks.map Kit.nums) 0 = (q, n) ∧ e = .returned (.tuple #[.agg #[.int .i64 q.f0, .int .i64 q.f1, .int .i64 q.f2, .slice A3 q.f3.length c3, .slice A4 q.f4.length c4], .int .i64 n]) ∧ PlC w q A3 A4 ∧ Below w.heap.size w w' := by
  obtain ⟨R, hR⟩ : ∃ R, rch (Kit.nums s) p (ks.map Kit.nums) 0 = R := ⟨_, rfl⟩
  rw [hR]
  have HR := Lib.hid hR
  have HC := Lib.hid hC
  have HG := Lib.hid hG
  have HK := Lib.hid hK
  have HKs := Lib.hid hks
  have hkl : ks.length ≤ 9223372036854775807 := hK.2.1
  have hu35 := Tryd.underlying35
  have hu72 := Tryd.underlying72
  have hsL : (Kit.nums s).length < 288230376151711744 := by rw [nums_len]; omega
  have HSL := Lib.hid hsL
  clear hR hC hG hK hks hsL
  have hab : w.heap.size ≠ w.heap.size + 1 := by omega
  have hba : w.heap.size + 1 ≠ w.heap.size := by omega
  go_enter Tryd.func29, Tryd.ntmps29
  go_wp2_with fail
  have HO0 : Hid (OI (Kit.nums s) w ((w.alloc (.cells #[.int .i64 p.f0, .int .i64 p.f1, .int .i64 p.f2, .slice A3 p.f3.length c3, .slice A4 p.f4.length c4] 35)).alloc (.cells #[.int .i64 0, .int .i64 0, .int .i64 0, .slice none 0 0, .slice none 0 0] 35)) p A3 A4 c3 c4) := Lib.hid ⟨bx_new _ _ _ _ _ _ _, HC.out, HG.out, below_alloc (below_alloc (Below.refl _ _) _) _⟩
  have HQ0 : Hid (Bx ((w.alloc (.cells #[.int .i64 p.f0, .int .i64 p.f1, .int .i64 p.f2, .slice A3 p.f3.length c3, .slice A4 p.f4.length c4] 35)).alloc (.cells #[.int .i64 0, .int .i64 0, .int .i64 0, .slice none 0 0, .slice none 0 0] 35)) (w.heap.size + 1) 0 0 0 (.slice none 0 0) (.slice none 0 0)) := Lib.hid (by
    have := blk_new (w.alloc (.cells #[.int .i64 p.f0, .int .i64 p.f1, .int .i64 p.f2, .slice A3 p.f3.length c3, .slice A4 p.f4.length c4] 35)) (.cells #[.int .i64 0, .int .i64 0, .int .i64 0, .slice none 0 0, .slice none 0 0] 35)
    rw [alloc_size] at this
    exact this)
  go_loopw [14] (fun v wc => ∃ (i : Nat) (q : S35) (A3 A4 : Option Addr) (c3 c4 : Nat), i ≤ ks.length ∧ v = .int .i64 i ∧ Hid (OI (Kit.nums s) w wc q A3 A4 c3 c4) ∧ Hid (Bx wc (w.heap.size + 1) 0 0 0 (.slice none 0 0) (.slice none 0 0)) ∧ Hid (rch (Kit.nums s) q ((ks.map Kit.nums).drop i) i = R)) (fun v _ => ks.length - (intOf v).toNat)
  case atStart => exact ⟨0, p, A3, A4, c3, c4, Nat.zero_le _, rfl, HO0, HQ0, HR⟩
  case round =>
    clear HR HO0 HQ0 HC HG
    obtain ⟨i, q, A3, A4, c3, c4, hi, rfl, HO, HQ, HI2⟩ := hrel
    by_cases hlt : i < ks.length
    · obtain ⟨kad, rfl, hcell⟩ := (HK.out.below HO.out.bl).at_ (i : Int) (by omega) (by omega)
      have hki : rdOf ByteArray.empty ks (i : Int) = ks[i] := by simp [rdOf, hlt]
      rw [hki, Int.toNat_natCast] at hcell
      have d0 := HO.out.bx.c0
      have d1 := HO.out.bx.c1
      have d2 := HO.out.bx.c2
      have d3 := HO.out.bx.c3
      have d4 := HO.out.bx.c4
      go_wp2_with fail
      refine (stp_c s ks[i] w _ (.of_below HO.out.bl) q A3 A4 c3 c4 (by omega) (by have := HKs.out ks[i] (List.getElem_mem hlt); omega) HO.out.pl HO.out.gd).mono ?_
      rintro e2 w2 (⟨q2, B3, B4, b3, b4, hq2, rfl, hc2, hb2⟩ | ⟨hq2, rfl, hb2⟩)
      · have HO2 : Hid (OI (Kit.nums s) w w2 q A3 A4 c3 c4) := Lib.hid (HO.out.below hb2)
        have HQ2 : Hid (Bx w2 (w.heap.size + 1) 0 0 0 (.slice none 0 0) (.slice none 0 0)) := Lib.hid (blk_below HQ.out hb2)
        have HC2 := Lib.hid hc2
        have HG2 : Hid (Gd (Kit.nums s) q2) := Lib.hid (Gd.step HO.out.gd HSL.out hq2)
        have HE : Hid (rch (Kit.nums s) q2 ((ks.map Kit.nums).drop (i + 1)) (i + 1) = R) := Lib.hid (by have h := HI2.out; rw [key_at hlt] at h; unfold rch at h; rw [hq2] at h; exact h)
        have hsz : w.heap.size + 1 < w2.heap.size := blk_lt HQ2.out
        have hsz0 : w.heap.size < w2.heap.size := by omega
        have hne : w.heap.size ≠ w2.heap.size := by omega
        have hne' : w2.heap.size ≠ w.heap.size := by omega
        have s0 := HO2.out.bx.c0
        have s1 := HO2.out.bx.c1
        have s2 := HO2.out.bx.c2
        have s3 := HO2.out.bx.c3
        have s4 := HO2.out.bx.c4
        have t0 := HO2.out.bx.fr 0
        have t1 := HO2.out.bx.fr 1
        have t2 := HO2.out.bx.fr 2
        have t3 := HO2.out.bx.fr 3
        have t4 := HO2.out.bx.fr 4
        clear hb2 hc2 hq2 HO HQ HI2
        go_wp2
        go_round
        case rel => exact ⟨i + 1, q2, B3, B4, b3, b4, by omega, by go_num, Lib.hid ⟨Bx.alloc_ (Bx.five HO2.out.bx _ _ _ _ _) _, HC2.out, HG2.out, below_alloc_ (five_below HO2.out.bl (Nat.le_refl _) _ _ _ _ _) _⟩, Lib.hid (Bx.alloc_ (Bx.off (k := 0) (x := 0) (y := 0) (v3 := .slice none 0 0) (v4 := .slice none 0 0) (Bx.off (k := 0) (x := 0) (y := 0) (v3 := .slice none 0 0) (v4 := .slice none 0 0) (Bx.off (k := 0) (x := 0) (y := 0) (v3 := .slice none 0 0) (v4 := .slice none 0 0) (Bx.off (k := 0) (x := 0) (y := 0) (v3 := .slice none 0 0) (v4 := .slice none 0 0) (Bx.off (k := 0) (x := 0) (y := 0) (v3 := .slice none 0 0) (v4 := .slice none 0 0) HQ2.out hba _) hba _) hba _) hba _) hba _) _), HE⟩
        case measure => simp [intOf]; omega
      · have HO2 : Hid (OI (Kit.nums s) w w2 q A3 A4 c3 c4) := Lib.hid (HO.out.below hb2)
        have HQ2 : Hid (Bx w2 (w.heap.size + 1) 0 0 0 (.slice none 0 0) (.slice none 0 0)) := Lib.hid (blk_below HQ.out hb2)
        have HE : Hid (R = (q, i)) := Lib.hid (by have h := HI2.out; rw [key_at hlt] at h; unfold rch at h; rw [hq2] at h; exact h.symm)
        have hsz : w.heap.size + 1 < w2.heap.size := blk_lt HQ2.out
        have hsz0 : w.heap.size < w2.heap.size := by omega
        have hn1 : w.heap.size ≠ w2.heap.size := by omega
        have hn2 : w2.heap.size ≠ w.heap.size := by omega
        have hn3 : w.heap.size + 1 ≠ w2.heap.size := by omega
        have hn4 : w2.heap.size ≠ w.heap.size + 1 := by omega
        clear hb2 hq2 HO HQ HI2
        have e0 := HO2.out.bx.c0
        have e1 := HO2.out.bx.c1
        have e2 := HO2.out.bx.c2
        have e3 := HO2.out.bx.c3
        have e4 := HO2.out.bx.c4
        have s0 := HQ2.out.c0
        have s1 := HQ2.out.c1
        have s2 := HQ2.out.c2
        have s3 := HQ2.out.c3
        have s4 := HQ2.out.c4
        have t0 := HQ2.out.fr 0
        have t1 := HQ2.out.fr 1
        have t2 := HQ2.out.fr 2
        have t3 := HQ2.out.fr 3
        have t4 := HQ2.out.fr 4
        go_wp2
        refine bodyPost_ret (results_ct rfl _ _ (w.heap.size + 1) 35 #[.int .i64 q.f0, .int .i64 q.f1, .int .i64 q.f2, .slice A3 q.f3.length c3, .slice A4 q.f4.length c4] (0, 0) _ rfl (blk_alloc (HQ2.out.five _ _ _ _ _) _) Tryd.underlying35 rfl rfl) rfl ⟨q, A3, A4, c3, c4, i, HE.out, rfl, HO2.out.pl, ?_⟩
        exact below_alloc_ (five_below HO2.out.bl (by omega) _ _ _ _ _) _
    · have hie : i = ks.length := by omega
      have HE : Hid (R = (q, ks.length)) := Lib.hid (by have h := HI2.out; rw [List.drop_eq_nil_of_le (by rw [List.length_map]; omega), hie] at h; exact h.symm)
      clear HI2 hie
      have e0 := HO.out.bx.c0
      have e1 := HO.out.bx.c1
      have e2 := HO.out.bx.c2
      have e3 := HO.out.bx.c3
      have e4 := HO.out.bx.c4
      have s0 := HQ.out.c0
      have s1 := HQ.out.c1
      have s2 := HQ.out.c2
      have s3 := HQ.out.c3
      have s4 := HQ.out.c4
      have t0 := HQ.out.fr 0
      have t1 := HQ.out.fr 1
      have t2 := HQ.out.fr 2
      have t3 := HQ.out.fr 3
      have t4 := HQ.out.fr 4
      go_wp2
      refine bodyPost_ret (results_ct rfl _ _ (w.heap.size + 1) 35 #[.int .i64 q.f0, .int .i64 q.f1, .int .i64 q.f2, .slice A3 q.f3.length c3, .slice A4 q.f4.length c4] (0, 0) _ rfl (HQ.out.five _ _ _ _ _) Tryd.underlying35 rfl rfl) rfl ⟨q, A3, A4, c3, c4, ks.length, HE.out, rfl, HO.out.pl, ?_⟩
      exact five_below HO.out.bl (by omega) _ _ _ _ _
end Go.Proofs.YtgbliniamkpocaaDoor.Jp
/- The way of keys from a place to a place, step by step. -/
namespace Go.Proofs.YtgbliniamkpocaaDoor.Pure
open Go.RowKit Go.Proofs.YtgbliniamkpocaaDoor.PPl Go.Proofs.YtgbliniamkpocaaDoor.Jp Go.Proofs.YtgbliniamkpocaaDoorW.PrintWords

/-- The steps of keys lead from a place to a place. -/
def Wy (L : List Int) : S35 → List (List Int) → S35 → Prop
  | p, [], q => p = q
  | p, key :: r, q => ∃ p', stp L p key = some p' ∧ Wy L p' r q
theorem Wy.ld {L : List Int} (hL : L.length < 288230376151711744) : ∀ (keys : List (List Int)) (p q : S35), Gd L p → Wy L p keys q → Ld L p keys q := by
  intro keys
  induction keys with
  | nil =>
    intro p q _ h
    obtain rfl : p = q := h
    exact .nil p
  | cons key r ih =>
    intro p q hg h
    obtain ⟨p', h1, h2⟩ := h
    exact Ld.cons hg hL h1 (ih p' q (hg.step hL h1) h2)
end Go.Proofs.YtgbliniamkpocaaDoor.Pure
