/- jpPlaces and jpFound, walked by hand (written by mk_fo.py). -/
import Derived.Test.YtgbliniamkpocaaDoorG13
namespace Go.Proofs.YtgbliniamkpocaaDoor.Jp
open Go.RowKit Go.Proofs.YtgbliniamkpocaaDoorW.PrintWords Go.Proofs.YtgbliniamkpocaaDoor.Kit Go.Proofs.YtgbliniamkpocaaDoor.Pure Go.Proofs.YtgbliniamkpocaaDoor.PPl

theorem MkB.plc {B : Nat} {w : World} {p : S35} {A3 A4 : Option Addr} {c3 c4 : Nat} (h : MkB B w (.slice A3 p.f3.length c3) (.slice A4 p.f4.length c4) p.f3 p.f4) : PlC w p A3 A4 := ⟨(Kd.Q_reads' (Kd.Q_of_R h.1)).2.2, (Kd.Q_reads' (Kd.Q_of_R h.2)).2.2⟩
/-- What jpPlaces comes to. -/
def JplP (s : ByteArray) (w : World) (e : Ending) (w' : World) : Prop :=
  (∃ (p : S35) (A3 A4 : Option Addr) (c3 c4 : Nat), e = .returned (.tuple #[.agg #[.int .i64 p.f0, .int .i64 p.f1, .int .i64 p.f2, .slice A3 p.f3.length c3, .slice A4 p.f4.length c4], .bool true]) ∧ Doc (Kit.nums s) p ∧ s.size ≤ 65536 ∧ MkB w.heap.size w' (.slice A3 p.f3.length c3) (.slice A4 p.f4.length c4) p.f3 p.f4 ∧ Below w.heap.size w w') ∨
  (e = .returned (.tuple #[.agg #[.int .i64 0, .int .i64 0, .int .i64 0, .slice none 0 0, .slice none 0 0], .bool false]) ∧ Below w.heap.size w w')
set_option maxHeartbeats 8000000 in
set_option maxRecDepth 100000 in
theorem jpl_c (s : ByteArray) (w : World) : Calls Tryd.prog 15 #[.string s] w (JplP s w) := by
  have hu1 := Tryd.underlying35
  by_cases hs : s.size ≤ 65536
  · have HP := Lib.hid (fun w1 => places_c s w1 (by omega))
    have h65 : decide ((65536 : Int) < (s.size : Int)) = false := decide_eq_false (by omega)
    obtain ⟨W, hW⟩ : ∃ W, W = w.alloc (.cells #[.int .i64 0, .int .i64 0, .int .i64 0, .slice none 0 0, .slice none 0 0] 35) := ⟨_, rfl⟩
    have HQ : Hid (Bx W w.heap.size 0 0 0 (.slice none 0 0) (.slice none 0 0)) := Lib.hid (by rw [hW]; exact blk_new w _)
    have HB : Hid (Below w.heap.size w W) := Lib.hid (by rw [hW]; exact below_alloc (Below.refl _ _) _)
    have HS := Lib.hid hs
    go_enter Tryd.func15, Tryd.ntmps15
    go_wp2_with fail
    rw [← hW]
    clear hW hs
    refine (HP.out _).mono ?_
    rintro e2 w2 (⟨p, A3, A4, c3, c4, rfl, hd, hmk, hb2⟩ | ⟨rfl, hb2⟩)
    · have HQ2 : Hid (Bx w2 w.heap.size 0 0 0 (.slice none 0 0) (.slice none 0 0)) := Lib.hid (blk_below HQ.out hb2)
      have HK : Hid (MkB W.heap.size w2 (.slice A3 p.f3.length c3) (.slice A4 p.f4.length c4) p.f3 p.f4) := Lib.hid hmk
      have HD := Lib.hid hd
      have HB2 : Hid (Below w.heap.size w w2) := Lib.hid (below_step HB.out hb2)
      have hsz : w.heap.size < W.heap.size := blk_lt HQ.out
      clear hmk hd hb2 HP
      have s0 := HQ2.out.c0
      have s1 := HQ2.out.c1
      have s2 := HQ2.out.c2
      have s3 := HQ2.out.c3
      have s4 := HQ2.out.c4
      have t0 := HQ2.out.fr 0
      have t1 := HQ2.out.fr 1
      have t2 := HQ2.out.fr 2
      have t3 := HQ2.out.fr 3
      have t4 := HQ2.out.fr 4
      go_wp2
      exact bodyPost_ret (results_ct rfl _ _ w.heap.size 35 #[.int .i64 p.f0, .int .i64 p.f1, .int .i64 p.f2, .slice A3 p.f3.length c3, .slice A4 p.f4.length c4] (0, 0) _ rfl (HQ2.out.five _ _ _ _ _) Tryd.underlying35 rfl rfl) rfl
        (.inl ⟨p, A3, A4, c3, c4, rfl, HD.out, HS.out, MkB.low (B := W.heap.size) (by (repeat (first | with_reducible exact HK.out | with_reducible refine MkB.off ?_ hsz _)); all_goals exact HK.out) (by omega), five_below HB2.out (Nat.le_refl _) _ _ _ _ _⟩)
    · have HQ2 : Hid (Bx w2 w.heap.size 0 0 0 (.slice none 0 0) (.slice none 0 0)) := Lib.hid (blk_below HQ.out hb2)
      have HB2 : Hid (Below w.heap.size w w2) := Lib.hid (below_step HB.out hb2)
      clear hb2 HP
      have s0 := HQ2.out.c0
      have s1 := HQ2.out.c1
      have s2 := HQ2.out.c2
      have s3 := HQ2.out.c3
      have s4 := HQ2.out.c4
      have t0 := HQ2.out.fr 0
      have t1 := HQ2.out.fr 1
      have t2 := HQ2.out.fr 2
      have t3 := HQ2.out.fr 3
      have t4 := HQ2.out.fr 4
      go_wp2
      exact bodyPost_ret (results_ct rfl _ _ w.heap.size 35 #[.int .i64 0, .int .i64 0, .int .i64 0, .slice none 0 0, .slice none 0 0] (0, 0) _ rfl (HQ2.out.five _ _ _ _ _) Tryd.underlying35 rfl rfl) rfl
        (.inr ⟨rfl, five_below HB2.out (Nat.le_refl _) _ _ _ _ _⟩)
  · have h65 : decide ((65536 : Int) < (s.size : Int)) = true := decide_eq_true (by omega)
    clear hs
    obtain ⟨W, hW⟩ : ∃ W, W = w.alloc (.cells #[.int .i64 0, .int .i64 0, .int .i64 0, .slice none 0 0, .slice none 0 0] 35) := ⟨_, rfl⟩
    have HQ : Hid (Bx W w.heap.size 0 0 0 (.slice none 0 0) (.slice none 0 0)) := Lib.hid (by rw [hW]; exact blk_new w _)
    have HB : Hid (Below w.heap.size w W) := Lib.hid (by rw [hW]; exact below_alloc (Below.refl _ _) _)
    go_enter Tryd.func15, Tryd.ntmps15
    go_upto_region 1 with (fail)
    rw [← hW]
    clear hW
    have s0 := HQ.out.c0
    have s1 := HQ.out.c1
    have s2 := HQ.out.c2
    have s3 := HQ.out.c3
    have s4 := HQ.out.c4
    have t0 := HQ.out.fr 0
    have t1 := HQ.out.fr 1
    have t2 := HQ.out.fr 2
    have t3 := HQ.out.fr 3
    have t4 := HQ.out.fr 4
    go_wp2
    exact bodyPost_ret (results_ct rfl _ _ w.heap.size 35 #[.int .i64 0, .int .i64 0, .int .i64 0, .slice none 0 0, .slice none 0 0] (0, 0) _ rfl (HQ.out.five _ _ _ _ _) Tryd.underlying35 rfl rfl) rfl
      (.inr ⟨rfl, five_below HB.out (Nat.le_refl _) _ _ _ _ _⟩)
theorem Doc.gd {L : List Int} {p : S35} (h : Doc L p) : Gd L p := by
  obtain ⟨n, e, hv, _⟩ := h
  exact ⟨n, _, e, hv, (bl_le L 0 (Nat.zero_le _)).2⟩
/-- Nothing of a block is to be read. -/
def NoB (m : World) (b : Nat) : Prop := ∀ a v, m.cell? a = some v → a.block ≠ b
theorem Sub.off {m w : World} {b o : Nat} (h : Sub m w) (hb : NoB m b) (z : Value) : Sub m (w.setCell ⟨b, o, none⟩ z) := fun a v hc => by
  have hw := h a v hc
  rw [World.cell?_of_block (w := w) (Below.heap_setCell w ⟨b, o, none⟩ z a.block (hb a v hc))]
  exact hw
theorem Sub.five {m w : World} {b : Nat} (h : Sub m w) (hb : NoB m b) (b0 b1 b2 b3 b4 : Value) :
    Sub m (((((w.setCell ⟨b, 0, none⟩ b0).setCell ⟨b, 1, none⟩ b1).setCell ⟨b, 2, none⟩ b2).setCell ⟨b, 3, none⟩ b3).setCell ⟨b, 4, none⟩ b4) := ((((h.off hb _).off hb _).off hb _).off hb _).off hb _
theorem NoB.ge {m : World} {b : Nat} (h : m.heap.size ≤ b) : NoB m b := fun a v hc e => by
  have := World.block_lt_of_cell? m a hc
  omega
/-- A world without block b. -/
def wo (w : World) (b : Nat) : World := w.setRow b #[]
theorem wo_at {w : World} {b : Nat} {cs : Array Value} {t : TypeId} {fr : Nat × Nat} (h : w.heap[b]? = some (.cells cs t fr)) : (wo w b).heap[b]? = some (.cells #[] t fr) := setRow_heap w b _ _ _ _ h
theorem wo_no {w : World} {b : Nat} {cs : Array Value} {t : TypeId} {fr : Nat × Nat} (h : w.heap[b]? = some (.cells cs t fr)) : NoB (wo w b) b := fun a v hc e => by
  have h1 := wo_at h
  subst e
  unfold World.cell? at hc
  rw [h1] at hc
  simp at hc
theorem wo_size (w : World) (b : Nat) : (wo w b).heap.size = w.heap.size := by simp [wo, World.setRow]
theorem wo_sub {w : World} {b : Nat} {cs : Array Value} {t : TypeId} {fr : Nat × Nat} (h : w.heap[b]? = some (.cells cs t fr)) : Sub (wo w b) w := fun a v hc => by
  have hne := wo_no h a v hc
  have e : (wo w b).cell? a = w.cell? a := World.cell?_of_block (w := w) (setRow_other w b a.block #[] hne)
  rw [← e]
  exact hc
theorem R_wo {α : Type} {d : Kd α} {e : Nat} {w : World} {B b : Nat} {ok : Nat → Prop} {v : Value} {xs : List α} (h : d.R e w B ok v xs) (hb : b < B) : d.R e (wo w b) B ok v xs :=
  Kd.R_mono (Kd.R_step (Kd.R_bound h) (fun k hk _ => setRow_other w b k #[] (by have := hk.2.1; omega))) (fun _ hk => hk.1)
theorem five_bx {w : World} {g b : Nat} (h : Bx w g 0 0 0 (.slice none 0 0) (.slice none 0 0)) (hne : g ≠ b) (b0 b1 b2 b3 b4 : Value) :
    Bx (((((w.setCell ⟨b, 0, none⟩ b0).setCell ⟨b, 1, none⟩ b1).setCell ⟨b, 2, none⟩ b2).setCell ⟨b, 3, none⟩ b3).setCell ⟨b, 4, none⟩ b4) g 0 0 0 (.slice none 0 0) (.slice none 0 0) := ((((h.off hne _).off hne _).off hne _).off hne _).off hne _
/-- Where jpFound's loop stands. -/
structure FI (L : List Int) (m w wc : World) (b : Nat) (q : S35) (A3 A4 : Option Addr) (c3 c4 : Nat) : Prop where
  bx : Bx wc b q.f0 q.f1 q.f2 (.slice A3 q.f3.length c3) (.slice A4 q.f4.length c4)
  rs : Bx wc w.heap.size 0 0 0 (.slice none 0 0) (.slice none 0 0)
  pl : PlC m q A3 A4
  gd : Gd L q
  sb : Sub m wc
  bl : Below w.heap.size w wc
theorem FI.below {L : List Int} {m w wc w1 : World} {b : Nat} {q : S35} {A3 A4 : Option Addr} {c3 c4 : Nat} (h : FI L m w wc b q A3 A4 c3 c4) (hb : Below wc.heap.size wc w1) : FI L m w w1 b q A3 A4 c3 c4 := ⟨blk_below h.bx hb, blk_below h.rs hb, h.pl, h.gd, h.sb.step hb, below_step h.bl hb⟩
/-- What jpFound comes to. -/
def FoP (s : ByteArray) (ks : List ByteArray) (w : World) (e : Ending) (w' : World) : Prop :=
  (∃ (p q : S35) (A3 A4 : Option Addr) (c3 c4 : Nat), e = .returned (.tuple #[.agg #[.int .i64 q.f0, .int .i64 q.f1, .int .i64 q.f2, .slice A3 q.f3.length c3, .slice A4 q.f4.length c4], .bool true]) ∧ (Doc (Kit.nums s) p ∧ s.size ≤ 65536 ∧ (onB (Kit.nums s) p (ks.map Kit.nums) = true ∧ Wy (Kit.nums s) p (ks.map Kit.nums) q) ∧ Ld (Kit.nums s) p (ks.map Kit.nums) q) ∧ PlC w' q A3 A4 ∧ Below w.heap.size w w') ∨
  (e = .returned (.tuple #[.agg #[.int .i64 0, .int .i64 0, .int .i64 0, .slice none 0 0, .slice none 0 0], .bool false]) ∧ Below w.heap.size w w')
set_option maxHeartbeats 16000000 in
set_option maxRecDepth 100000 in
theorem found_c (s : ByteArray) (w : World) (K : Option Addr) (ck : Nat) (ks : List ByteArray) (hK : KeysR w K ks) (hks : ∀ k ∈ ks, k.size ≤ 2147483647) : Calls Tryd.prog 17 #[.string s, .slice K ks.length ck] w (FoP s ks w) := by
  have hu1 := Tryd.underlying35
  have hkl : ks.length ≤ 9223372036854775807 := hK.2.1
  have HK := Lib.hid hK
  have HKs := Lib.hid hks
  clear hK hks
  obtain ⟨W, hW⟩ : ∃ W, W = w.alloc (.cells #[.int .i64 0, .int .i64 0, .int .i64 0, .slice none 0 0, .slice none 0 0] 35) := ⟨_, rfl⟩
  have HQ : Hid (Bx W w.heap.size 0 0 0 (.slice none 0 0) (.slice none 0 0)) := Lib.hid (by rw [hW]; exact blk_new w _)
  have HB : Hid (Below w.heap.size w W) := Lib.hid (by rw [hW]; exact below_alloc (Below.refl _ _) _)
  have hsz : w.heap.size < W.heap.size := blk_lt HQ.out
  go_enter Tryd.func17, Tryd.ntmps17
  go_wp2_with fail
  rw [← hW]
  clear hW
  refine (jpl_c s W).mono ?_
  rintro e2 w2 (⟨p, A3, A4, c3, c4, rfl, hd, hs65, hmk, hb2⟩ | ⟨rfl, hb2⟩)
  rotate_left
  · have HQ2 : Hid (Bx w2 w.heap.size 0 0 0 (.slice none 0 0) (.slice none 0 0)) := Lib.hid (blk_below HQ.out hb2)
    have HB2 : Hid (Below w.heap.size w w2) := Lib.hid (below_step HB.out hb2)
    have h1 : w.heap.size < w2.heap.size := blk_lt HQ2.out
    have h2 : w.heap.size ≠ w2.heap.size := by omega
    have h3 : w2.heap.size ≠ w.heap.size := by omega
    clear hb2 HK HKs
    have s0 := HQ2.out.c0
    have s1 := HQ2.out.c1
    have s2 := HQ2.out.c2
    have s3 := HQ2.out.c3
    have s4 := HQ2.out.c4
    have t0 := HQ2.out.fr 0
    have t1 := HQ2.out.fr 1
    have t2 := HQ2.out.fr 2
    have t3 := HQ2.out.fr 3
    have t4 := HQ2.out.fr 4
    go_wp2
    exact bodyPost_ret (results_ct rfl _ _ w.heap.size 35 #[.int .i64 0, .int .i64 0, .int .i64 0, .slice none 0 0, .slice none 0 0] (0, 0) _ rfl (blk_alloc (HQ2.out.five _ _ _ _ _) _) Tryd.underlying35 rfl rfl) rfl (.inr ⟨rfl, below_alloc_ (five_below HB2.out (Nat.le_refl _) _ _ _ _ _) _⟩)
  have HD := Lib.hid hd
  have HQ2 : Hid (Bx w2 w.heap.size 0 0 0 (.slice none 0 0) (.slice none 0 0)) := Lib.hid (blk_below HQ.out hb2)
  have HB2 : Hid (Below w.heap.size w w2) := Lib.hid (below_step HB.out hb2)
  have h1 : w.heap.size < w2.heap.size := blk_lt HQ2.out
  obtain ⟨m, hm⟩ : ∃ m, m = wo w2 w.heap.size := ⟨_, rfl⟩
  obtain ⟨b, hb⟩ : ∃ b, b = w2.heap.size := ⟨_, rfl⟩
  have HM : Hid (NoB m w.heap.size ∧ NoB m b ∧ Sub m w2 ∧ PlC m p A3 A4) := Lib.hid ⟨by rw [hm]; exact wo_no HQ2.out, by rw [hm]; exact NoB.ge (by rw [wo_size]; omega), by rw [hm]; exact wo_sub HQ2.out, by rw [hm]; exact MkB.plc (B := W.heap.size) ⟨R_wo hmk.1 hsz, R_wo hmk.2 hsz⟩⟩
  have h2 : w.heap.size ≠ b := by omega
  have h3 : b ≠ w.heap.size := by omega
  have hbw : w.heap.size ≤ b := by omega
  obtain ⟨W3, hW3⟩ : ∃ W3, W3 = w2.alloc (.cells #[.int .i64 p.f0, .int .i64 p.f1, .int .i64 p.f2, .slice A3 p.f3.length c3, .slice A4 p.f4.length c4] 35) := ⟨_, rfl⟩
  have HF : Hid (FI (Kit.nums s) m w W3 b p A3 A4 c3 c4) := Lib.hid (by
    rw [hW3]
    exact ⟨by rw [hb]; exact blk_new w2 _, blk_alloc HQ2.out _, HM.out.2.2.2, Doc.gd HD.out, HM.out.2.2.1.step (below_alloc (Below.refl _ _) _), below_alloc_ HB2.out _⟩)
  have HS65 := Lib.hid hs65
  have hs2 : s.size ≤ 1000000000000 := by omega
  have e0 := HF.out.bx.c0
  have e1 := HF.out.bx.c1
  have e2 := HF.out.bx.c2
  have e3 := HF.out.bx.c3
  have e4 := HF.out.bx.c4
  rw [hb, hW3] at e0 e1 e2 e3 e4
  clear hmk hd hb2 HQ HB HQ2 HB2 hm hs65
  go_wp2_with fail
  rw [← hW3, ← hb]
  refine (once_c s W3 p A3 A4 K c3 c4 ck ks hs2 (HF.out.pl.sub HF.out.sb) HF.out.gd (HK.out.below HF.out.bl) HKs.out).mono ?_
  rintro e3 w3 ⟨rfl, hb3⟩
  clear e0 e1 e2 e3 e4 hb hW3 hsz h1
  have HF3 := Lib.hid (HF.out.below hb3)
  clear hb3 HF
  cases hon : onB (Kit.nums s) p (ks.map Kit.nums) with
  | false =>
    clear hon
    have s0 := HF3.out.rs.c0
    have s1 := HF3.out.rs.c1
    have s2 := HF3.out.rs.c2
    have s3 := HF3.out.rs.c3
    have s4 := HF3.out.rs.c4
    have t0 := HF3.out.rs.fr 0
    have t1 := HF3.out.rs.fr 1
    have t2 := HF3.out.rs.fr 2
    have t3 := HF3.out.rs.fr 3
    have t4 := HF3.out.rs.fr 4
    go_wp2
    exact bodyPost_ret (results_ct rfl _ _ w.heap.size 35 #[.int .i64 0, .int .i64 0, .int .i64 0, .slice none 0 0, .slice none 0 0] (0, 0) _ rfl (HF3.out.rs.five _ _ _ _ _) Tryd.underlying35 rfl rfl) rfl (.inr ⟨rfl, five_below HF3.out.bl (Nat.le_refl _) _ _ _ _ _⟩)
  | true =>
    have HON := Lib.hid hon
    clear hon
    go_wp2_with fail
    go_loopw [27] (fun v wc => ∃ (i : Nat) (q : S35) (A3 A4 : Option Addr) (c3 c4 : Nat), i ≤ ks.length ∧ v = .int .i64 i ∧ Hid (FI (Kit.nums s) m w wc b q A3 A4 c3 c4) ∧ Hid (∀ r, Wy (Kit.nums s) q ((ks.map Kit.nums).drop i) r → Wy (Kit.nums s) p (ks.map Kit.nums) r)) (fun v _ => ks.length - (intOf v).toNat)
    case atStart => exact ⟨0, p, A3, A4, c3, c4, Nat.zero_le _, rfl, HF3, Lib.hid (fun r h => h)⟩
    case round =>
      clear HF3
      obtain ⟨i, q, A3, A4, c3, c4, hi, rfl, HF, HI2⟩ := hrel
      have d0 := HF.out.bx.c0
      by_cases hlt : i < ks.length
      · obtain ⟨kad, rfl, hcell⟩ := (HK.out.below HF.out.bl).at_ (i : Int) (by omega) (by omega)
        have hki : rdOf ByteArray.empty ks (i : Int) = ks[i] := by simp [rdOf, hlt]
        rw [hki, Int.toNat_natCast] at hcell
        have HSt := Lib.hid (fun (w1 : World) (h : FI (Kit.nums s) m w w1 b q A3 A4 c3 c4) => stp_c s ks[i] m w1 h.sb q A3 A4 c3 c4 (by omega) (by have := HKs.out ks[i] (List.getElem_mem hlt); omega) h.pl h.gd)
        have HJ := Lib.hid (fun w1 => jpi_c ks[i] w1)
        have hway : (q.f0 = 6 ∧ gb (Kit.nums ks[i]) 0 = 91) ∨ (q.f0 = 6 ∧ ¬ gb (Kit.nums ks[i]) 0 = 91) ∨ ¬ q.f0 = 6 := by
          by_cases h6 : q.f0 = 6
          · by_cases h9 : gb (Kit.nums ks[i]) 0 = 91
            · exact .inl ⟨h6, h9⟩
            · exact .inr (.inl ⟨h6, h9⟩)
          · exact .inr (.inr h6)
        rcases hway with ⟨h6, h9⟩ | ⟨h6, h9⟩ | h6
        · have a6 : (q.f0 == 6) = true := by simpa using h6
          have HJ2 : Hid (∀ w1, Calls Tryd.prog 18 #[.string ks[i]] w1 fun e w' => e = .returned (.bool true) ∧ w' = w1) := Lib.hid (fun w1 => by have := HJ.out w1; rw [decide_eq_true h9] at this; exact this)
          clear h6 h9 HJ
          go_upto_if 37 with (go_at_call 18; (with_reducible refine (HJ2.out _).mono ?_); rintro e4 w4 ⟨rfl, rfl⟩)
          have s0 := HF.out.rs.c0
          have s1 := HF.out.rs.c1
          have s2 := HF.out.rs.c2
          have s3 := HF.out.rs.c3
          have s4 := HF.out.rs.c4
          have t0 := HF.out.rs.fr 0
          have t1 := HF.out.rs.fr 1
          have t2 := HF.out.rs.fr 2
          have t3 := HF.out.rs.fr 3
          have t4 := HF.out.rs.fr 4
          go_wp2
          exact bodyPost_ret (results_ct rfl _ _ w.heap.size 35 #[.int .i64 0, .int .i64 0, .int .i64 0, .slice none 0 0, .slice none 0 0] (0, 0) _ rfl (HF.out.rs.five _ _ _ _ _) Tryd.underlying35 rfl rfl) rfl (.inr ⟨rfl, five_below HF.out.bl (Nat.le_refl _) _ _ _ _ _⟩)
        · have a6 : (q.f0 == 6) = true := by simpa using h6
          have HJ2 : Hid (∀ w1, Calls Tryd.prog 18 #[.string ks[i]] w1 fun e w' => e = .returned (.bool false) ∧ w' = w1) := Lib.hid (fun w1 => by have := HJ.out w1; rw [decide_eq_false h9] at this; exact this)
          clear h6 h9 HJ
          have e1 := HF.out.bx.c1
          have e2 := HF.out.bx.c2
          have e3 := HF.out.bx.c3
          have e4 := HF.out.bx.c4
          go_upto_region 9 with (go_at_call 18; (with_reducible refine (HJ2.out _).mono ?_); rintro e4 w4 ⟨rfl, rfl⟩)
          go_wp2_with fail
          refine (HSt.out _ HF.out).mono ?_
          rintro e5 w5 (⟨q2, B3, B4, b3, b4, hq2, rfl, hc2, hb5⟩ | ⟨hq2, rfl, hb5⟩)
          · have HF5 := Lib.hid (HF.out.below hb5)
            have HC2 := Lib.hid hc2
            have HG2 : Hid (Gd (Kit.nums s) q2) := Lib.hid (Gd.step HF.out.gd (by rw [nums_len]; omega) hq2)
            have HL2 : Hid (∀ r, Wy (Kit.nums s) q2 ((ks.map Kit.nums).drop (i + 1)) r → Wy (Kit.nums s) p (ks.map Kit.nums) r) := Lib.hid (fun r h => HI2.out r (by rw [key_at hlt]; exact ⟨_, hq2, h⟩))
            have s0 := HF5.out.bx.c0
            have s1 := HF5.out.bx.c1
            have s2 := HF5.out.bx.c2
            have s3 := HF5.out.bx.c3
            have s4 := HF5.out.bx.c4
            have t0 := HF5.out.bx.fr 0
            have t1 := HF5.out.bx.fr 1
            have t2 := HF5.out.bx.fr 2
            have t3 := HF5.out.bx.fr 3
            have t4 := HF5.out.bx.fr 4
            clear hb5 hc2 hq2 HF HI2 HSt d0
            go_wp2
            go_round
            case rel => exact ⟨i + 1, q2, B3, B4, b3, b4, by omega, by go_num, Lib.hid ⟨HF5.out.bx.five _ _ _ _ _, five_bx HF5.out.rs h2 _ _ _ _ _, HC2.out, HG2.out, HF5.out.sb.five HM.out.2.1 _ _ _ _ _, five_below HF5.out.bl hbw _ _ _ _ _⟩, HL2⟩
            case measure => simp [intOf]; omega
          · have HF5 := Lib.hid (HF.out.below hb5)
            clear hb5 hq2 HF HI2 HSt d0
            have s0 := HF5.out.rs.c0
            have s1 := HF5.out.rs.c1
            have s2 := HF5.out.rs.c2
            have s3 := HF5.out.rs.c3
            have s4 := HF5.out.rs.c4
            have t0 := HF5.out.rs.fr 0
            have t1 := HF5.out.rs.fr 1
            have t2 := HF5.out.rs.fr 2
            have t3 := HF5.out.rs.fr 3
            have t4 := HF5.out.rs.fr 4
            have x0 := HF5.out.bx.c0
            have x1 := HF5.out.bx.c1
            have x2 := HF5.out.bx.c2
            have x3 := HF5.out.bx.c3
            have x4 := HF5.out.bx.c4
            have y0 := HF5.out.bx.fr 0
            have y1 := HF5.out.bx.fr 1
            have y2 := HF5.out.bx.fr 2
            have y3 := HF5.out.bx.fr 3
            have y4 := HF5.out.bx.fr 4
            go_wp2
            exact bodyPost_ret (results_ct rfl _ _ w.heap.size 35 #[.int .i64 0, .int .i64 0, .int .i64 0, .slice none 0 0, .slice none 0 0] (0, 0) _ rfl ((five_bx HF5.out.rs h2 _ _ _ _ _).five _ _ _ _ _) Tryd.underlying35 rfl rfl) rfl (.inr ⟨rfl, five_below (five_below HF5.out.bl hbw _ _ _ _ _) (Nat.le_refl _) _ _ _ _ _⟩)
        · have a6 : (q.f0 == 6) = false := by simpa using h6
          clear h6 HJ
          have e1 := HF.out.bx.c1
          have e2 := HF.out.bx.c2
          have e3 := HF.out.bx.c3
          have e4 := HF.out.bx.c4
          go_wp2_with fail
          refine (HSt.out _ HF.out).mono ?_
          rintro e5 w5 (⟨q2, B3, B4, b3, b4, hq2, rfl, hc2, hb5⟩ | ⟨hq2, rfl, hb5⟩)
          · have HF5 := Lib.hid (HF.out.below hb5)
            have HC2 := Lib.hid hc2
            have HG2 : Hid (Gd (Kit.nums s) q2) := Lib.hid (Gd.step HF.out.gd (by rw [nums_len]; omega) hq2)
            have HL2 : Hid (∀ r, Wy (Kit.nums s) q2 ((ks.map Kit.nums).drop (i + 1)) r → Wy (Kit.nums s) p (ks.map Kit.nums) r) := Lib.hid (fun r h => HI2.out r (by rw [key_at hlt]; exact ⟨_, hq2, h⟩))
            have s0 := HF5.out.bx.c0
            have s1 := HF5.out.bx.c1
            have s2 := HF5.out.bx.c2
            have s3 := HF5.out.bx.c3
            have s4 := HF5.out.bx.c4
            have t0 := HF5.out.bx.fr 0
            have t1 := HF5.out.bx.fr 1
            have t2 := HF5.out.bx.fr 2
            have t3 := HF5.out.bx.fr 3
            have t4 := HF5.out.bx.fr 4
            clear hb5 hc2 hq2 HF HI2 HSt d0
            go_wp2
            go_round
            case rel => exact ⟨i + 1, q2, B3, B4, b3, b4, by omega, by go_num, Lib.hid ⟨HF5.out.bx.five _ _ _ _ _, five_bx HF5.out.rs h2 _ _ _ _ _, HC2.out, HG2.out, HF5.out.sb.five HM.out.2.1 _ _ _ _ _, five_below HF5.out.bl hbw _ _ _ _ _⟩, HL2⟩
            case measure => simp [intOf]; omega
          · have HF5 := Lib.hid (HF.out.below hb5)
            clear hb5 hq2 HF HI2 HSt d0
            have s0 := HF5.out.rs.c0
            have s1 := HF5.out.rs.c1
            have s2 := HF5.out.rs.c2
            have s3 := HF5.out.rs.c3
            have s4 := HF5.out.rs.c4
            have t0 := HF5.out.rs.fr 0
            have t1 := HF5.out.rs.fr 1
            have t2 := HF5.out.rs.fr 2
            have t3 := HF5.out.rs.fr 3
            have t4 := HF5.out.rs.fr 4
            have x0 := HF5.out.bx.c0
            have x1 := HF5.out.bx.c1
            have x2 := HF5.out.bx.c2
            have x3 := HF5.out.bx.c3
            have x4 := HF5.out.bx.c4
            have y0 := HF5.out.bx.fr 0
            have y1 := HF5.out.bx.fr 1
            have y2 := HF5.out.bx.fr 2
            have y3 := HF5.out.bx.fr 3
            have y4 := HF5.out.bx.fr 4
            go_wp2
            exact bodyPost_ret (results_ct rfl _ _ w.heap.size 35 #[.int .i64 0, .int .i64 0, .int .i64 0, .slice none 0 0, .slice none 0 0] (0, 0) _ rfl ((five_bx HF5.out.rs h2 _ _ _ _ _).five _ _ _ _ _) Tryd.underlying35 rfl rfl) rfl (.inr ⟨rfl, five_below (five_below HF5.out.bl hbw _ _ _ _ _) (Nat.le_refl _) _ _ _ _ _⟩)
      · have HE : Hid (Wy (Kit.nums s) p (ks.map Kit.nums) q) := Lib.hid (HI2.out q (by rw [List.drop_eq_nil_of_le (by rw [List.length_map]; omega)]; exact rfl))
        have HE2 : Hid (Ld (Kit.nums s) p (ks.map Kit.nums) q) := Lib.hid (Wy.ld (by have := HS65.out; rw [nums_len]; omega) _ _ _ (by obtain ⟨n, e, h, _⟩ := HD.out; exact ⟨n, _, e, h, (bl_le _ 0 (Nat.zero_le _)).2⟩) HE.out)
        clear HI2
        have e1 := HF.out.bx.c1
        have e2 := HF.out.bx.c2
        have e3 := HF.out.bx.c3
        have e4 := HF.out.bx.c4
        have s0 := HF.out.rs.c0
        have s1 := HF.out.rs.c1
        have s2 := HF.out.rs.c2
        have s3 := HF.out.rs.c3
        have s4 := HF.out.rs.c4
        have t0 := HF.out.rs.fr 0
        have t1 := HF.out.rs.fr 1
        have t2 := HF.out.rs.fr 2
        have t3 := HF.out.rs.fr 3
        have t4 := HF.out.rs.fr 4
        go_wp2
        refine bodyPost_ret (results_ct rfl _ _ w.heap.size 35 #[.int .i64 q.f0, .int .i64 q.f1, .int .i64 q.f2, .slice A3 q.f3.length c3, .slice A4 q.f4.length c4] (0, 0) _ rfl (HF.out.rs.five _ _ _ _ _) Tryd.underlying35 rfl rfl) rfl (.inl ⟨p, q, A3, A4, c3, c4, rfl, ⟨HD.out, HS65.out, ⟨HON.out, HE.out⟩, HE2.out⟩, HF.out.pl.sub (HF.out.sb.five HM.out.1 _ _ _ _ _), ?_⟩)
        exact five_below HF.out.bl (Nat.le_refl _) _ _ _ _ _
end Go.Proofs.YtgbliniamkpocaaDoor.Jp
