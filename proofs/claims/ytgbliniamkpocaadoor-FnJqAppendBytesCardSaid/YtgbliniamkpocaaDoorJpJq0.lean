/- jqPlace and spec.Seek, walked by hand. -/
import Derived.Test.YtgbliniamkpocaaDoorJpFo
namespace Go.Proofs.YtgbliniamkpocaaDoor.Jp
open Go.RowKit Go.Proofs.YtgbliniamkpocaaDoorW.PrintWords Go.Proofs.YtgbliniamkpocaaDoor.Kit Go.Proofs.YtgbliniamkpocaaDoor.Pure Go.Proofs.YtgbliniamkpocaaDoor.PPl

/-- What jqPlace comes to. -/
def JqlP (s : ByteArray) (w : World) (e : Ending) (w' : World) : Prop :=
  (∃ (p : S35) (A3 A4 : Option Addr) (c3 c4 : Nat), e = .returned (.tuple #[.agg #[.int .i64 p.f0, .int .i64 p.f1, .int .i64 p.f2, .slice A3 p.f3.length c3, .slice A4 p.f4.length c4], .bool true]) ∧ Doc (Kit.nums s) p ∧ s.size ≤ 16384 ∧ MkB w.heap.size w' (.slice A3 p.f3.length c3) (.slice A4 p.f4.length c4) p.f3 p.f4 ∧ Below w.heap.size w w') ∨
  (e = .returned (.tuple #[.agg #[.int .i64 0, .int .i64 0, .int .i64 0, .slice none 0 0, .slice none 0 0], .bool false]) ∧ Below w.heap.size w w')
set_option maxHeartbeats 8000000 in
set_option maxRecDepth 100000 in
theorem jql_c (s : ByteArray) (w : World) : Calls Tryd.prog 39 #[.string s] w (JqlP s w) := by
  have hu1 := Tryd.underlying35
  by_cases hs : s.size ≤ 16384
  · have HP := Lib.hid (fun w1 => places_c s w1 (by omega))
    have h65 : decide ((16384 : Int) < (s.size : Int)) = false := decide_eq_false (by omega)
    obtain ⟨W, hW⟩ : ∃ W, W = w.alloc (.cells #[.int .i64 0, .int .i64 0, .int .i64 0, .slice none 0 0, .slice none 0 0] 35) := ⟨_, rfl⟩
    have HQ : Hid (Bx W w.heap.size 0 0 0 (.slice none 0 0) (.slice none 0 0)) := Lib.hid (by rw [hW]; exact blk_new w _)
    have HB : Hid (Below w.heap.size w W) := Lib.hid (by rw [hW]; exact below_alloc (Below.refl _ _) _)
    have HS := Lib.hid hs
    go_enter Tryd.func39, Tryd.ntmps39
    go_wp2_with fail
    rw [← hW]
    clear hW hs
    refine (HP.out _).mono ?_
    rintro e2 w2 (⟨p, A3, A4, c3, c4, rfl, hd, hmk, hb2⟩ | ⟨rfl, hb2⟩)
    · have HQ2 : Hid (Bx w2 w.heap.size 0 0 0 (.slice none 0 0) (.slice none 0 0)) := Lib.hid (blk_below HQ.out hb2)
      have HK : Hid (MkB W.heap.size w2 (.slice A3 p.f3.length c3) (.slice A4 p.f4.length c4) p.f3 p.f4) := Lib.hid hmk
      have HD := Lib.hid hd
      have HB2 : Hid (Below w.heap.size w w2) := Lib.hid (below_step HB.out hb2)
      have hsz : w.heap.size < W.heap.size := blk_lt HQ.out
      clear hmk hd hb2 HP
      have s0 := HQ2.out.c0
      have s1 := HQ2.out.c1
      have s2 := HQ2.out.c2
      have s3 := HQ2.out.c3
      have s4 := HQ2.out.c4
      have t0 := HQ2.out.fr 0
      have t1 := HQ2.out.fr 1
      have t2 := HQ2.out.fr 2
      have t3 := HQ2.out.fr 3
      have t4 := HQ2.out.fr 4
      go_wp2
      exact bodyPost_ret (results_ct rfl _ _ w.heap.size 35 #[.int .i64 p.f0, .int .i64 p.f1, .int .i64 p.f2, .slice A3 p.f3.length c3, .slice A4 p.f4.length c4] (0, 0) _ rfl (HQ2.out.five _ _ _ _ _) Tryd.underlying35 rfl rfl) rfl
        (.inl ⟨p, A3, A4, c3, c4, rfl, HD.out, HS.out, MkB.low (B := W.heap.size) (by (repeat (first | with_reducible exact HK.out | with_reducible refine MkB.off ?_ hsz _)); all_goals exact HK.out) (by omega), five_below HB2.out (Nat.le_refl _) _ _ _ _ _⟩)
    · have HQ2 : Hid (Bx w2 w.heap.size 0 0 0 (.slice none 0 0) (.slice none 0 0)) := Lib.hid (blk_below HQ.out hb2)
      have HB2 : Hid (Below w.heap.size w w2) := Lib.hid (below_step HB.out hb2)
      clear hb2 HP
      have s0 := HQ2.out.c0
      have s1 := HQ2.out.c1
      have s2 := HQ2.out.c2
      have s3 := HQ2.out.c3
      have s4 := HQ2.out.c4
      have t0 := HQ2.out.fr 0
      have t1 := HQ2.out.fr 1
      have t2 := HQ2.out.fr 2
      have t3 := HQ2.out.fr 3
      have t4 := HQ2.out.fr 4
      go_wp2
      exact bodyPost_ret (results_ct rfl _ _ w.heap.size 35 #[.int .i64 0, .int .i64 0, .int .i64 0, .slice none 0 0, .slice none 0 0] (0, 0) _ rfl (HQ2.out.five _ _ _ _ _) Tryd.underlying35 rfl rfl) rfl
        (.inr ⟨rfl, five_below HB2.out (Nat.le_refl _) _ _ _ _ _⟩)
  · have h65 : decide ((16384 : Int) < (s.size : Int)) = true := decide_eq_true (by omega)
    clear hs
    obtain ⟨W, hW⟩ : ∃ W, W = w.alloc (.cells #[.int .i64 0, .int .i64 0, .int .i64 0, .slice none 0 0, .slice none 0 0] 35) := ⟨_, rfl⟩
    have HQ : Hid (Bx W w.heap.size 0 0 0 (.slice none 0 0) (.slice none 0 0)) := Lib.hid (by rw [hW]; exact blk_new w _)
    have HB : Hid (Below w.heap.size w W) := Lib.hid (by rw [hW]; exact below_alloc (Below.refl _ _) _)
    go_enter Tryd.func39, Tryd.ntmps39
    go_upto_region 1 with (fail)
    rw [← hW]
    clear hW
    have s0 := HQ.out.c0
    have s1 := HQ.out.c1
    have s2 := HQ.out.c2
    have s3 := HQ.out.c3
    have s4 := HQ.out.c4
    have t0 := HQ.out.fr 0
    have t1 := HQ.out.fr 1
    have t2 := HQ.out.fr 2
    have t3 := HQ.out.fr 3
    have t4 := HQ.out.fr 4
    go_wp2
    exact bodyPost_ret (results_ct rfl _ _ w.heap.size 35 #[.int .i64 0, .int .i64 0, .int .i64 0, .slice none 0 0, .slice none 0 0] (0, 0) _ rfl (HQ.out.five _ _ _ _ _) Tryd.underlying35 rfl rfl) rfl
      (.inr ⟨rfl, five_below HB.out (Nat.le_refl _) _ _ _ _ _⟩)
theorem nob_of {m w : World} (h : Sub m w) {b : Nat} (hb : w.heap.size ≤ b) : NoB m b := fun a v hc e => by
  have := World.block_lt_of_cell? w a (h a v hc)
  omega
/-- Where spec.Seek's loop stands: what is to be read stands in m. -/
structure SI (L : List Int) (m w wc : World) (q : S35) (A3 A4 : Option Addr) (c3 c4 : Nat) : Prop where
  bx : Bx wc w.heap.size q.f0 q.f1 q.f2 (.slice A3 q.f3.length c3) (.slice A4 q.f4.length c4)
  pl : PlC m q A3 A4
  gd : Gd L q
  sb : Sub m wc
  bl : Below w.heap.size w wc
theorem SI.below {L : List Int} {m w wc w1 : World} {q : S35} {A3 A4 : Option Addr} {c3 c4 : Nat} (h : SI L m w wc q A3 A4 c3 c4) (hb : Below wc.heap.size wc w1) : SI L m w w1 q A3 A4 c3 c4 := ⟨blk_below h.bx hb, h.pl, h.gd, h.sb.step hb, below_step h.bl hb⟩
/-- What spec.Seek comes to. -/
def SkP (s : ByteArray) (p : S35) (ks : List ByteArray) (m w : World) (e : Ending) (w' : World) : Prop :=
  (∃ (q : S35) (A3 A4 : Option Addr) (c3 c4 : Nat), Wy (Kit.nums s) p (ks.map Kit.nums) q ∧ e = .returned (.tuple #[.agg #[.int .i64 q.f0, .int .i64 q.f1, .int .i64 q.f2, .slice A3 q.f3.length c3, .slice A4 q.f4.length c4], .bool true]) ∧ PlC m q A3 A4 ∧ Gd (Kit.nums s) q ∧ Below w.heap.size w w') ∨
  (e = .returned (.tuple #[.agg #[.int .i64 0, .int .i64 0, .int .i64 0, .slice none 0 0, .slice none 0 0], .bool false]) ∧ Below w.heap.size w w')
set_option maxHeartbeats 16000000 in
set_option maxRecDepth 100000 in
theorem seek_c (s : ByteArray) (w : World) (p : S35) (A3 A4 K : Option Addr) (c3 c4 ck : Nat) (ks : List ByteArray) (hs : s.size ≤ 1000000000000) (m : World) (hm : Sub m w) (hC : PlC m p A3 A4) (hG : Gd (Kit.nums s) p) (hK : KeysR w K ks) (hks : ∀ k ∈ ks, k.size ≤ 2147483647) :
    Calls Tryd.prog 41 #[.string s, .agg #[.int .i64 p.f0, .int .i64 p.f1, .int .i64 p.f2, .slice A3 p.f3.length c3, .slice A4 p.f4.length c4], .slice K ks.length ck] w (SkP s p ks m w) := by
  have HR : Hid (∀ r, Wy (Kit.nums s) p ((ks.map Kit.nums).drop 0) r → Wy (Kit.nums s) p (ks.map Kit.nums) r) := Lib.hid (fun r h => h)
  have HNb : Hid (NoB m w.heap.size) := Lib.hid (nob_of hm (Nat.le_refl _))
  have HMs := Lib.hid hm
  have HC := Lib.hid hC
  have HG := Lib.hid hG
  have HK := Lib.hid hK
  have HKs := Lib.hid hks
  have hkl : ks.length ≤ 9223372036854775807 := hK.2.1
  have hu35 := Tryd.underlying35
  have hu72 := Tryd.underlying72
  have hsL : (Kit.nums s).length < 288230376151711744 := by rw [nums_len]; omega
  have HSL := Lib.hid hsL
  clear hm hC hG hK hks hsL
  have hab : w.heap.size ≠ w.heap.size + 1 := by omega
  have hba : w.heap.size + 1 ≠ w.heap.size := by omega
  go_enter Tryd.func41, Tryd.ntmps41
  go_wp2_with fail
  have HO0 : Hid (SI (Kit.nums s) m w ((w.alloc (.cells #[.int .i64 p.f0, .int .i64 p.f1, .int .i64 p.f2, .slice A3 p.f3.length c3, .slice A4 p.f4.length c4] 35)).alloc (.cells #[.int .i64 0, .int .i64 0, .int .i64 0, .slice none 0 0, .slice none 0 0] 35)) p A3 A4 c3 c4) := Lib.hid ⟨bx_new _ _ _ _ _ _ _, HC.out, HG.out, (HMs.out.step (below_alloc (Below.refl _ _) _)).step (below_alloc (Below.refl _ _) _), below_alloc (below_alloc (Below.refl _ _) _) _⟩
  have HQ0 : Hid (Bx ((w.alloc (.cells #[.int .i64 p.f0, .int .i64 p.f1, .int .i64 p.f2, .slice A3 p.f3.length c3, .slice A4 p.f4.length c4] 35)).alloc (.cells #[.int .i64 0, .int .i64 0, .int .i64 0, .slice none 0 0, .slice none 0 0] 35)) (w.heap.size + 1) 0 0 0 (.slice none 0 0) (.slice none 0 0)) := Lib.hid (by
    have := blk_new (w.alloc (.cells #[.int .i64 p.f0, .int .i64 p.f1, .int .i64 p.f2, .slice A3 p.f3.length c3, .slice A4 p.f4.length c4] 35)) (.cells #[.int .i64 0, .int .i64 0, .int .i64 0, .slice none 0 0, .slice none 0 0] 35)
    rw [alloc_size] at this
    exact this)
  go_loopw [14] (fun v wc => ∃ (i : Nat) (q : S35) (A3 A4 : Option Addr) (c3 c4 : Nat), i ≤ ks.length ∧ v = .int .i64 i ∧ Hid (SI (Kit.nums s) m w wc q A3 A4 c3 c4) ∧ Hid (Bx wc (w.heap.size + 1) 0 0 0 (.slice none 0 0) (.slice none 0 0)) ∧ Hid (∀ r, Wy (Kit.nums s) q ((ks.map Kit.nums).drop i) r → Wy (Kit.nums s) p (ks.map Kit.nums) r)) (fun v _ => ks.length - (intOf v).toNat)
  case atStart => exact ⟨0, p, A3, A4, c3, c4, Nat.zero_le _, rfl, HO0, HQ0, HR⟩
  case round =>
    clear HR HO0 HQ0 HC HG
    obtain ⟨i, q, A3, A4, c3, c4, hi, rfl, HO, HQ, HI2⟩ := hrel
    by_cases hlt : i < ks.length
    · obtain ⟨kad, rfl, hcell⟩ := (HK.out.below HO.out.bl).at_ (i : Int) (by omega) (by omega)
      have hki : rdOf ByteArray.empty ks (i : Int) = ks[i] := by simp [rdOf, hlt]
      rw [hki, Int.toNat_natCast] at hcell
      have d0 := HO.out.bx.c0
      have d1 := HO.out.bx.c1
      have d2 := HO.out.bx.c2
      have d3 := HO.out.bx.c3
      have d4 := HO.out.bx.c4
      go_wp2_with fail
      refine (stp_c s ks[i] m _ HO.out.sb q A3 A4 c3 c4 (by omega) (by have := HKs.out ks[i] (List.getElem_mem hlt); omega) HO.out.pl HO.out.gd).mono ?_
      rintro e2 w2 (⟨q2, B3, B4, b3, b4, hq2, rfl, hc2, hb2⟩ | ⟨hq2, rfl, hb2⟩)
      · have HO2 : Hid (SI (Kit.nums s) m w w2 q A3 A4 c3 c4) := Lib.hid (HO.out.below hb2)
        have HQ2 : Hid (Bx w2 (w.heap.size + 1) 0 0 0 (.slice none 0 0) (.slice none 0 0)) := Lib.hid (blk_below HQ.out hb2)
        have HC2 := Lib.hid hc2
        have HG2 : Hid (Gd (Kit.nums s) q2) := Lib.hid (Gd.step HO.out.gd HSL.out hq2)
        have HE : Hid (∀ r, Wy (Kit.nums s) q2 ((ks.map Kit.nums).drop (i + 1)) r → Wy (Kit.nums s) p (ks.map Kit.nums) r) := Lib.hid (fun r h => HI2.out r (by rw [key_at hlt]; exact ⟨_, hq2, h⟩))
        have hsz : w.heap.size + 1 < w2.heap.size := blk_lt HQ2.out
        have hsz0 : w.heap.size < w2.heap.size := by omega
        have hne : w.heap.size ≠ w2.heap.size := by omega
        have hne' : w2.heap.size ≠ w.heap.size := by omega
        have s0 := HO2.out.bx.c0
        have s1 := HO2.out.bx.c1
        have s2 := HO2.out.bx.c2
        have s3 := HO2.out.bx.c3
        have s4 := HO2.out.bx.c4
        have t0 := HO2.out.bx.fr 0
        have t1 := HO2.out.bx.fr 1
        have t2 := HO2.out.bx.fr 2
        have t3 := HO2.out.bx.fr 3
        have t4 := HO2.out.bx.fr 4
        clear hb2 hc2 hq2 HO HQ HI2
        go_wp2
        go_round
        case rel => exact ⟨i + 1, q2, B3, B4, b3, b4, by omega, by go_num, Lib.hid ⟨Bx.alloc_ (Bx.five HO2.out.bx _ _ _ _ _) _, HC2.out, HG2.out, (HO2.out.sb.five HNb.out _ _ _ _ _).step (below_alloc (Below.refl _ _) _), below_alloc_ (five_below HO2.out.bl (Nat.le_refl _) _ _ _ _ _) _⟩, Lib.hid (Bx.alloc_ (Bx.off (k := 0) (x := 0) (y := 0) (v3 := .slice none 0 0) (v4 := .slice none 0 0) (Bx.off (k := 0) (x := 0) (y := 0) (v3 := .slice none 0 0) (v4 := .slice none 0 0) (Bx.off (k := 0) (x := 0) (y := 0) (v3 := .slice none 0 0) (v4 := .slice none 0 0) (Bx.off (k := 0) (x := 0) (y := 0) (v3 := .slice none 0 0) (v4 := .slice none 0 0) (Bx.off (k := 0) (x := 0) (y := 0) (v3 := .slice none 0 0) (v4 := .slice none 0 0) HQ2.out hba _) hba _) hba _) hba _) hba _) _), HE⟩
        case measure => simp [intOf]; omega
      · have HO2 : Hid (SI (Kit.nums s) m w w2 q A3 A4 c3 c4) := Lib.hid (HO.out.below hb2)
        have HQ2 : Hid (Bx w2 (w.heap.size + 1) 0 0 0 (.slice none 0 0) (.slice none 0 0)) := Lib.hid (blk_below HQ.out hb2)
        have HE := HI2
        have hsz : w.heap.size + 1 < w2.heap.size := blk_lt HQ2.out
        have hsz0 : w.heap.size < w2.heap.size := by omega
        have hn1 : w.heap.size ≠ w2.heap.size := by omega
        have hn2 : w2.heap.size ≠ w.heap.size := by omega
        have hn3 : w.heap.size + 1 ≠ w2.heap.size := by omega
        have hn4 : w2.heap.size ≠ w.heap.size + 1 := by omega
        clear hb2 hq2 HO HQ HI2
        have e0 := HO2.out.bx.c0
        have e1 := HO2.out.bx.c1
        have e2 := HO2.out.bx.c2
        have e3 := HO2.out.bx.c3
        have e4 := HO2.out.bx.c4
        have s0 := HQ2.out.c0
        have s1 := HQ2.out.c1
        have s2 := HQ2.out.c2
        have s3 := HQ2.out.c3
        have s4 := HQ2.out.c4
        have t0 := HQ2.out.fr 0
        have t1 := HQ2.out.fr 1
        have t2 := HQ2.out.fr 2
        have t3 := HQ2.out.fr 3
        have t4 := HQ2.out.fr 4
        go_wp2
        refine bodyPost_ret (results_ct rfl _ _ (w.heap.size + 1) 35 #[.int .i64 0, .int .i64 0, .int .i64 0, .slice none 0 0, .slice none 0 0] (0, 0) _ rfl (blk_alloc (HQ2.out.five _ _ _ _ _) _) Tryd.underlying35 rfl rfl) rfl (.inr ⟨rfl, ?_⟩)
        exact below_alloc_ (five_below HO2.out.bl (by omega) _ _ _ _ _) _
    · have hie : i = ks.length := by omega
      have HE : Hid (Wy (Kit.nums s) p (ks.map Kit.nums) q) := Lib.hid (HI2.out q (by rw [List.drop_eq_nil_of_le (by rw [List.length_map]; omega)]; exact rfl))
      clear HI2 hie
      have e0 := HO.out.bx.c0
      have e1 := HO.out.bx.c1
      have e2 := HO.out.bx.c2
      have e3 := HO.out.bx.c3
      have e4 := HO.out.bx.c4
      have s0 := HQ.out.c0
      have s1 := HQ.out.c1
      have s2 := HQ.out.c2
      have s3 := HQ.out.c3
      have s4 := HQ.out.c4
      have t0 := HQ.out.fr 0
      have t1 := HQ.out.fr 1
      have t2 := HQ.out.fr 2
      have t3 := HQ.out.fr 3
      have t4 := HQ.out.fr 4
      go_wp2
      refine bodyPost_ret (results_ct rfl _ _ (w.heap.size + 1) 35 #[.int .i64 q.f0, .int .i64 q.f1, .int .i64 q.f2, .slice A3 q.f3.length c3, .slice A4 q.f4.length c4] (0, 0) _ rfl (HQ.out.five _ _ _ _ _) Tryd.underlying35 rfl rfl) rfl (.inl ⟨q, A3, A4, c3, c4, HE.out, rfl, HO.out.pl, HO.out.gd, ?_⟩)
      exact five_below HO.out.bl (by omega) _ _ _ _ _
end Go.Proofs.YtgbliniamkpocaaDoor.Jp
