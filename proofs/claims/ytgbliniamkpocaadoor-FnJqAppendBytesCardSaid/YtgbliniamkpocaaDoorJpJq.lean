/- jqClean and jqFound, walked by hand. -/
import Derived.Test.YtgbliniamkpocaaDoorJpJq0
import Derived.Test.YtgbliniamkpocaaDoorJpGn
namespace Go.Proofs.YtgbliniamkpocaaDoor.Jp
open Go.RowKit Go.Proofs.YtgbliniamkpocaaDoorW.PrintWords Go.Proofs.YtgbliniamkpocaaDoor.Kit Go.Proofs.YtgbliniamkpocaaDoor.Pure Go.Proofs.YtgbliniamkpocaaDoor.PPl

/-- What spec.Step tells, whichever way. -/
def St2 (L : List Int) (m w : World) (e : Ending) (w' : World) : Prop :=
  ∃ (a b c : Int) (A3 A4 : Option Addr) (n3 c3 n4 c4 : Nat) (ok : Bool), e = .returned (.tuple #[.agg #[.int .i64 a, .int .i64 b, .int .i64 c, .slice A3 n3 c3, .slice A4 n4 c4], .bool ok]) ∧ Below w.heap.size w w' ∧
    (ok = true → ∃ q : S35, a = q.f0 ∧ b = q.f1 ∧ c = q.f2 ∧ n3 = q.f3.length ∧ n4 = q.f4.length ∧ Gd L q ∧ PlC m q A3 A4)
theorem stp2 (s key : ByteArray) (w0 w : World) (h0 : Sub w0 w) (p : S35) (A3 A4 : Option Addr) (c3 c4 : Nat) (hs : s.size ≤ 1000000000000) (hks : key.size ≤ 9223372036854775807) (hC : PlC w0 p A3 A4) (hG : Gd (Kit.nums s) p) :
    Calls Tryd.prog 34 #[.string s, .agg #[.int .i64 p.f0, .int .i64 p.f1, .int .i64 p.f2, .slice A3 p.f3.length c3, .slice A4 p.f4.length c4], .string key] w (St2 (Kit.nums s) w0 w) := by
  refine (stp_c s key w0 w h0 p A3 A4 c3 c4 (by omega) hks hC hG).mono ?_
  rintro e2 w2 (⟨q2, B3, B4, b3, b4, hq2, rfl, hc2, hb2⟩ | ⟨hq2, rfl, hb2⟩)
  · exact ⟨_, _, _, _, _, _, _, _, _, _, rfl, hb2, fun _ => ⟨q2, rfl, rfl, rfl, rfl, rfl, Gd.step hG (by rw [nums_len]; omega) hq2, hc2⟩⟩
  · exact ⟨_, _, _, _, _, _, _, _, _, _, rfl, hb2, fun h => by cases h⟩
theorem off5 {w : World} {a : Addr} {v : Value} {g : Nat} (h : w.cell? a = some v) (hne : a.block ≠ g) (b0 b1 b2 b3 b4 : Value) :
    (((((w.setCell ⟨g, 0, none⟩ b0).setCell ⟨g, 1, none⟩ b1).setCell ⟨g, 2, none⟩ b2).setCell ⟨g, 3, none⟩ b3).setCell ⟨g, 4, none⟩ b4).cell? a = some v := by
  have step : ∀ (w : World) (o : Nat) (x : Value), w.cell? a = some v → (w.setCell ⟨g, o, none⟩ x).cell? a = some v := fun w o x h => by
    rw [World.cell?_of_block (w := w) (Below.heap_setCell w ⟨g, o, none⟩ x a.block hne)]
    exact h
  exact step _ _ _ (step _ _ _ (step _ _ _ (step _ _ _ (step _ _ _ h))))
/-- What a region's loads read. -/
theorem q6_al {wr w1 : World} {b : Nat} {k : Addr} {v0 v1 v2 v3 v4 vk : Value} (h : w1.cell? ⟨b, 0, none⟩ = some v0 ∧ w1.cell? ⟨b, 1, none⟩ = some v1 ∧ w1.cell? ⟨b, 2, none⟩ = some v2 ∧ w1.cell? ⟨b, 3, none⟩ = some v3 ∧ w1.cell? ⟨b, 4, none⟩ = some v4 ∧ w1.cell? k = some vk ∧ Below wr.heap.size wr w1) (o : Obj) :
    (w1.alloc o).cell? ⟨b, 0, none⟩ = some v0 ∧ (w1.alloc o).cell? ⟨b, 1, none⟩ = some v1 ∧ (w1.alloc o).cell? ⟨b, 2, none⟩ = some v2 ∧ (w1.alloc o).cell? ⟨b, 3, none⟩ = some v3 ∧ (w1.alloc o).cell? ⟨b, 4, none⟩ = some v4 ∧ (w1.alloc o).cell? k = some vk ∧ Below wr.heap.size wr (w1.alloc o) :=
  ⟨al_cell h.1 o, al_cell h.2.1 o, al_cell h.2.2.1 o, al_cell h.2.2.2.1 o, al_cell h.2.2.2.2.1 o, al_cell h.2.2.2.2.2.1 o, below_alloc_ h.2.2.2.2.2.2 o⟩
theorem q6_dr {wr w1 : World} {b : Nat} {k : Addr} {v0 v1 v2 v3 v4 vk : Value} (h : w1.cell? ⟨b, 0, none⟩ = some v0 ∧ w1.cell? ⟨b, 1, none⟩ = some v1 ∧ w1.cell? ⟨b, 2, none⟩ = some v2 ∧ w1.cell? ⟨b, 3, none⟩ = some v3 ∧ w1.cell? ⟨b, 4, none⟩ = some v4 ∧ w1.cell? k = some vk ∧ Below wr.heap.size wr w1) :
    w1.drew.cell? ⟨b, 0, none⟩ = some v0 ∧ w1.drew.cell? ⟨b, 1, none⟩ = some v1 ∧ w1.drew.cell? ⟨b, 2, none⟩ = some v2 ∧ w1.drew.cell? ⟨b, 3, none⟩ = some v3 ∧ w1.drew.cell? ⟨b, 4, none⟩ = some v4 ∧ w1.drew.cell? k = some vk ∧ Below wr.heap.size wr w1.drew :=
  ⟨h.1, h.2.1, h.2.2.1, h.2.2.2.1, h.2.2.2.2.1, h.2.2.2.2.2.1, dr_below h.2.2.2.2.2.2⟩
theorem q6_bl {wr w1 w2 : World} {b : Nat} {k : Addr} {v0 v1 v2 v3 v4 vk : Value} (h : w1.cell? ⟨b, 0, none⟩ = some v0 ∧ w1.cell? ⟨b, 1, none⟩ = some v1 ∧ w1.cell? ⟨b, 2, none⟩ = some v2 ∧ w1.cell? ⟨b, 3, none⟩ = some v3 ∧ w1.cell? ⟨b, 4, none⟩ = some v4 ∧ w1.cell? k = some vk ∧ Below wr.heap.size wr w1) (hb : Below w1.heap.size w1 w2) :
    w2.cell? ⟨b, 0, none⟩ = some v0 ∧ w2.cell? ⟨b, 1, none⟩ = some v1 ∧ w2.cell? ⟨b, 2, none⟩ = some v2 ∧ w2.cell? ⟨b, 3, none⟩ = some v3 ∧ w2.cell? ⟨b, 4, none⟩ = some v4 ∧ w2.cell? k = some vk ∧ Below wr.heap.size wr w2 :=
  ⟨pw_cell_below hb h.1, pw_cell_below hb h.2.1, pw_cell_below hb h.2.2.1, pw_cell_below hb h.2.2.2.1, pw_cell_below hb h.2.2.2.2.1, pw_cell_below hb h.2.2.2.2.2.1, below_step h.2.2.2.2.2.2 hb⟩
theorem q6_5 {wr w : World} {b : Nat} {k : Addr} {v0 v1 v2 v3 v4 vk : Value} {g : Nat} (h : w.cell? ⟨b, 0, none⟩ = some v0 ∧ w.cell? ⟨b, 1, none⟩ = some v1 ∧ w.cell? ⟨b, 2, none⟩ = some v2 ∧ w.cell? ⟨b, 3, none⟩ = some v3 ∧ w.cell? ⟨b, 4, none⟩ = some v4 ∧ w.cell? k = some vk ∧ Below wr.heap.size wr w) (hg : wr.heap.size ≤ g) (hb : b < wr.heap.size) (hk : k.block < wr.heap.size) (b0 b1 b2 b3 b4 : Value) :
    (((((w.setCell ⟨g, 0, none⟩ b0).setCell ⟨g, 1, none⟩ b1).setCell ⟨g, 2, none⟩ b2).setCell ⟨g, 3, none⟩ b3).setCell ⟨g, 4, none⟩ b4).cell? ⟨b, 0, none⟩ = some v0 ∧ (((((w.setCell ⟨g, 0, none⟩ b0).setCell ⟨g, 1, none⟩ b1).setCell ⟨g, 2, none⟩ b2).setCell ⟨g, 3, none⟩ b3).setCell ⟨g, 4, none⟩ b4).cell? ⟨b, 1, none⟩ = some v1 ∧ (((((w.setCell ⟨g, 0, none⟩ b0).setCell ⟨g, 1, none⟩ b1).setCell ⟨g, 2, none⟩ b2).setCell ⟨g, 3, none⟩ b3).setCell ⟨g, 4, none⟩ b4).cell? ⟨b, 2, none⟩ = some v2 ∧
      (((((w.setCell ⟨g, 0, none⟩ b0).setCell ⟨g, 1, none⟩ b1).setCell ⟨g, 2, none⟩ b2).setCell ⟨g, 3, none⟩ b3).setCell ⟨g, 4, none⟩ b4).cell? ⟨b, 3, none⟩ = some v3 ∧ (((((w.setCell ⟨g, 0, none⟩ b0).setCell ⟨g, 1, none⟩ b1).setCell ⟨g, 2, none⟩ b2).setCell ⟨g, 3, none⟩ b3).setCell ⟨g, 4, none⟩ b4).cell? ⟨b, 4, none⟩ = some v4 ∧ (((((w.setCell ⟨g, 0, none⟩ b0).setCell ⟨g, 1, none⟩ b1).setCell ⟨g, 2, none⟩ b2).setCell ⟨g, 3, none⟩ b3).setCell ⟨g, 4, none⟩ b4).cell? k = some vk ∧
      Below wr.heap.size wr (((((w.setCell ⟨g, 0, none⟩ b0).setCell ⟨g, 1, none⟩ b1).setCell ⟨g, 2, none⟩ b2).setCell ⟨g, 3, none⟩ b3).setCell ⟨g, 4, none⟩ b4) :=
  ⟨off5 h.1 (by simp only; omega) _ _ _ _ _, off5 h.2.1 (by simp only; omega) _ _ _ _ _, off5 h.2.2.1 (by simp only; omega) _ _ _ _ _, off5 h.2.2.2.1 (by simp only; omega) _ _ _ _ _, off5 h.2.2.2.2.1 (by simp only; omega) _ _ _ _ _, off5 h.2.2.2.2.2.1 (by omega) _ _ _ _ _, five_below h.2.2.2.2.2.2 hg _ _ _ _ _⟩
theorem five_off {w : World} {b g : Nat} {k x y : Int} {v3 v4 : Value} (h : Bx w b k x y v3 v4) (hne : b ≠ g) (b0 b1 b2 b3 b4 : Value) :
    Bx (((((w.setCell ⟨g, 0, none⟩ b0).setCell ⟨g, 1, none⟩ b1).setCell ⟨g, 2, none⟩ b2).setCell ⟨g, 3, none⟩ b3).setCell ⟨g, 4, none⟩ b4) b k x y v3 v4 := by
  have step : ∀ (w : World) (o : Nat) (z : Value), Bx w b k x y v3 v4 → Bx (w.setCell ⟨g, o, none⟩ z) b k x y v3 v4 := fun w o z h => by
    unfold Bx at h ⊢
    rw [Below.heap_setCell w ⟨g, o, none⟩ z b hne]
    exact h
  exact step _ _ _ (step _ _ _ (step _ _ _ (step _ _ _ (step _ _ _ h))))
/-- What jqClean comes to. -/
def ClP (w : World) (e : Ending) (w' : World) : Prop := ∃ b, e = .returned (.bool b) ∧ Below w.heap.size w w'
set_option maxHeartbeats 16000000 in
set_option maxRecDepth 100000 in
theorem clean_c (s : ByteArray) (w : World) (p : S35) (A3 A4 K : Option Addr) (c3 c4 ck : Nat) (ks : List ByteArray) (hs : s.size ≤ 1000000000000) (hC : PlC w p A3 A4) (hG : Gd (Kit.nums s) p) (hK : KeysR w K ks) (hks : ∀ k ∈ ks, k.size ≤ 2147483647) :
    Calls Tryd.prog 40 #[.string s, .agg #[.int .i64 p.f0, .int .i64 p.f1, .int .i64 p.f2, .slice A3 p.f3.length c3, .slice A4 p.f4.length c4], .slice K ks.length ck] w (ClP w) := by
  have HC := Lib.hid hC
  have HG := Lib.hid hG
  have HK := Lib.hid hK
  have HKs := Lib.hid hks
  have hkl : ks.length ≤ 9223372036854775807 := hK.2.1
  have hu35 := Tryd.underlying35
  have hu72 := Tryd.underlying72
  clear hC hG hK hks
  go_enter Tryd.func40, Tryd.ntmps40
  go_wp2_with fail
  have HO0 : Hid (OI (Kit.nums s) w (w.alloc (.cells #[.int .i64 p.f0, .int .i64 p.f1, .int .i64 p.f2, .slice A3 p.f3.length c3, .slice A4 p.f4.length c4] 35)) p A3 A4 c3 c4) := Lib.hid ⟨blk_new w _, HC.out, HG.out, below_alloc (Below.refl _ _) _⟩
  go_loopw [7] (fun v wc => ∃ (i : Nat) (q : S35) (A3 A4 : Option Addr) (c3 c4 : Nat), i ≤ ks.length ∧ v = .int .i64 i ∧ Hid (OI (Kit.nums s) w wc q A3 A4 c3 c4)) (fun v _ => ks.length - (intOf v).toNat)
  case atStart => exact ⟨0, p, A3, A4, c3, c4, Nat.zero_le _, rfl, HO0⟩
  case round =>
    clear HO0 HC HG
    obtain ⟨i, q, A3, A4, c3, c4, hi, rfl, HO⟩ := hrel
    by_cases hlt : i < ks.length
    · obtain ⟨kad, rfl, hcell⟩ := (HK.out.below HO.out.bl).at_ (i : Int) (by omega) (by omega)
      have hki : rdOf ByteArray.empty ks (i : Int) = ks[i] := by simp [rdOf, hlt]
      rw [hki, Int.toNat_natCast] at hcell
      have hsk : ks[i].size ≤ 2147483647 := HKs.out ks[i] (List.getElem_mem hlt)
      have HSt := Lib.hid (fun (w1 : World) (h : Below w.heap.size w w1) => stp2 s ks[i] w w1 (.of_below h) q A3 A4 c3 c4 (by omega) (by omega) HO.out.pl HO.out.gd)
      obtain ⟨key, hkey⟩ : ∃ key, ks[i] = key := ⟨_, rfl⟩
      rw [hkey] at hcell HSt hsk
      clear hkey hki
      have d0 := HO.out.bx.c0
      have hway : q.f0 = 5 ∨ (q.f0 ≠ 5 ∧ key.size = 0) ∨ (q.f0 ≠ 5 ∧ ∃ h : 0 < key.size, (key[0].toNat : Int) = 91) ∨ (q.f0 ≠ 5 ∧ ∃ h : 0 < key.size, (key[0].toNat : Int) ≠ 91) := by
        by_cases h5 : q.f0 = 5
        · exact .inl h5
        · by_cases h0 : 0 < key.size
          · by_cases h9 : (key[0].toNat : Int) = 91
            · exact .inr (.inr (.inl ⟨h5, h0, h9⟩))
            · exact .inr (.inr (.inr ⟨h5, h0, h9⟩))
          · exact .inr (.inl ⟨h5, by omega⟩)
      have hbne : w.heap.size < wr.heap.size := blk_lt HO.out.bx
      have hkb := World.block_lt_of_cell? wr _ hcell
      rcases hway with h5 | ⟨h5, h0⟩ | ⟨h5, h0, h9⟩ | ⟨h5, h0, h9⟩
      · have a5 : (q.f0 != 5) = false := by simpa using h5
        clear h5
        go_upto_region 6 with (fail)
        have d1 := HO.out.bx.c1
        have d2 := HO.out.bx.c2
        have d3 := HO.out.bx.c3
        have d4 := HO.out.bx.c4
        have Q0 : wr.cell? ⟨w.heap.size, 0, none⟩ = some (.int .i64 q.f0) ∧ wr.cell? ⟨w.heap.size, 1, none⟩ = some (.int .i64 q.f1) ∧ wr.cell? ⟨w.heap.size, 2, none⟩ = some (.int .i64 q.f2) ∧ wr.cell? ⟨w.heap.size, 3, none⟩ = some (.slice A3 q.f3.length c3) ∧ wr.cell? ⟨w.heap.size, 4, none⟩ = some (.slice A4 q.f4.length c4) ∧ wr.cell? (kad.add i) = some (.string key) ∧ Below wr.heap.size wr wr := ⟨d0, d1, d2, d3, d4, hcell, Below.refl _ _⟩
        have Q1 := q6_dr Q0
        have HBw := Lib.hid HO.out.bl
        go_region_held3 (fun w' => w'.cell? ⟨w.heap.size, 0, none⟩ = some (.int .i64 q.f0) ∧ w'.cell? ⟨w.heap.size, 1, none⟩ = some (.int .i64 q.f1) ∧ w'.cell? ⟨w.heap.size, 2, none⟩ = some (.int .i64 q.f2) ∧ w'.cell? ⟨w.heap.size, 3, none⟩ = some (.slice A3 q.f3.length c3) ∧ w'.cell? ⟨w.heap.size, 4, none⟩ = some (.slice A4 q.f4.length c4) ∧ w'.cell? (kad.add i) = some (.string key) ∧ Below wr.heap.size wr w')
          (first | with_reducible exact Q1 | with_reducible exact Q2 | with_reducible exact q6_al Q1 _ | with_reducible exact q6_dr (q6_al Q0 _) | with_reducible exact q6_al Q2 _ | with_reducible exact q6_5 Q2 (Nat.le_refl _) hbne hkb _ _ _ _ _)
          (first | (go_at_call 34; (with_reducible refine (HSt.out _ (by first | with_reducible exact below_step HBw.out Q1.2.2.2.2.2.2 | with_reducible exact below_step HBw.out (q6_dr (q6_al Q0 _)).2.2.2.2.2.2)).mono ?_); rintro e6 w6 ⟨a, b, c, B3, B4, n3, b3, n4, b4, ok, rfl, hb6, hok⟩; have HOK := Lib.hid hok; clear hok; (first | have Q2 := q6_bl Q1 hb6 | have Q2 := q6_bl (q6_dr (q6_al Q0 _)) hb6); have HB6 := Lib.hid hb6; (try (have hz : Bx w6 wr.heap.size 0 0 0 (.slice none 0 0) (.slice none 0 0) := blk_below (show (World.drew (wr.alloc (.cells #[.int .i64 0, .int .i64 0, .int .i64 0, .slice none 0 0, .slice none 0 0] 35))).heap[wr.heap.size]? = _ from blk_new wr _) hb6; have HZ := Lib.hid hz; have z0 := hz.c0; have z1 := hz.c1; have z2 := hz.c2; have z3 := hz.c3; have z4 := hz.c4; have t0 := hz.fr 0; have t1 := hz.fr 1; have t2 := hz.fr 2; have t3 := hz.fr 3; have t4 := hz.fr 4; clear hz))))
        focus
          obtain ⟨W7, hW7⟩ : ∃ W7, W7 = w6.alloc (.cells #[.int .i64 a, .int .i64 b, .int .i64 c, .slice B3 n3 b3, .slice B4 n4 b4] 35) := ⟨_, rfl⟩
          obtain ⟨h, hh⟩ : ∃ h, h = w6.heap.size := ⟨_, rfl⟩
          have HX7 : Hid (Bx W7 h a b c (.slice B3 n3 b3) (.slice B4 n4 b4)) := Lib.hid (by rw [hW7, hh]; exact blk_new w6 _)
          have HO7 : Hid (OI (Kit.nums s) w W7 q A3 A4 c3 c4) := Lib.hid (by rw [hW7]; have x := (HO.out.below ((Below.refl _ _).drew)).below HB6.out; exact ⟨Bx.alloc_ x.bx _, x.pl, x.gd, below_alloc_ x.bl _⟩)
          rw [← hW7, ← hh]
          clear hW7 hh
        rotate_left
        focus
          obtain ⟨W7, hW7⟩ : ∃ W7, W7 = (((((w6.setCell ⟨wr.heap.size, 0, none⟩ (.int .i64 a)).setCell ⟨wr.heap.size, 1, none⟩ (.int .i64 b)).setCell ⟨wr.heap.size, 2, none⟩ (.int .i64 c)).setCell ⟨wr.heap.size, 3, none⟩ (.slice B3 n3 b3)).setCell ⟨wr.heap.size, 4, none⟩ (.slice B4 n4 b4)) := ⟨_, rfl⟩
          obtain ⟨h, hh⟩ : ∃ h, h = wr.heap.size := ⟨_, rfl⟩
          have HX7 : Hid (Bx W7 h a b c (.slice B3 n3 b3) (.slice B4 n4 b4)) := Lib.hid (by rw [hW7, hh]; exact HZ.out.five _ _ _ _ _)
          have HO7 : Hid (OI (Kit.nums s) w W7 q A3 A4 c3 c4) := Lib.hid (by rw [hW7]; have x := (HO.out.below (dr_below (below_alloc_ (Below.refl _ _) _))).below HB6.out; exact ⟨five_off x.bx (by omega) _ _ _ _ _, x.pl, x.gd, five_below x.bl (by omega) _ _ _ _ _⟩)
          rw [← hW7, ← hh]
          clear hW7 hh z0 z1 z2 z3 z4 t0 t1 t2 t3 t4
        all_goals
          have hne : w.heap.size ≠ W7.heap.size := by have := blk_lt HO7.out.bx; omega
          have g0 := HX7.out.c0
          have g1 := HX7.out.c1
          have g2 := HX7.out.c2
          have g3 := HX7.out.c3
          have g4 := HX7.out.c4
          have s0 := HO7.out.bx.c0
          have s1 := HO7.out.bx.c1
          have s2 := HO7.out.bx.c2
          have s3 := HO7.out.bx.c3
          have s4 := HO7.out.bx.c4
          have t0 := HO7.out.bx.fr 0
          have t1 := HO7.out.bx.fr 1
          have t2 := HO7.out.bx.fr 2
          have t3 := HO7.out.bx.fr 3
          have t4 := HO7.out.bx.fr 4
          try clear hHeld
          clear Q0 Q1 Q2 hb6 d0 d1 d2 d3 d4 hcell
          cases ok with
          | false =>
            go_wp2
            go_ret
            exact ⟨_, rfl, HO7.out.bl⟩
          | true =>
            obtain ⟨q2, rfl, rfl, rfl, rfl, rfl, hg2, hc2⟩ := HOK.out rfl
            have HG2 := Lib.hid (And.intro hg2 hc2)
            clear hg2 hc2
            go_wp2
            go_round
            case rel => exact ⟨i + 1, q2, B3, B4, b3, b4, by omega, by go_num, Lib.hid ⟨HO7.out.bx.five _ _ _ _ _, HG2.out.2, HG2.out.1, five_below HO7.out.bl (Nat.le_refl _) _ _ _ _ _⟩⟩
            case measure => simp [intOf]; omega
      · have a5 : (q.f0 != 5) = true := by simpa using h5
        have he : key.toList = [] := by
          rw [ByteArray.toList_eq]
          apply List.eq_nil_of_length_eq_zero
          have h3 : key.data.toList.length = key.size := by rw [Array.length_toList]; rfl
          omega
        clear h5
        go_upto_region 6 with (fail)
        have d1 := HO.out.bx.c1
        have d2 := HO.out.bx.c2
        have d3 := HO.out.bx.c3
        have d4 := HO.out.bx.c4
        have Q0 : wr.cell? ⟨w.heap.size, 0, none⟩ = some (.int .i64 q.f0) ∧ wr.cell? ⟨w.heap.size, 1, none⟩ = some (.int .i64 q.f1) ∧ wr.cell? ⟨w.heap.size, 2, none⟩ = some (.int .i64 q.f2) ∧ wr.cell? ⟨w.heap.size, 3, none⟩ = some (.slice A3 q.f3.length c3) ∧ wr.cell? ⟨w.heap.size, 4, none⟩ = some (.slice A4 q.f4.length c4) ∧ wr.cell? (kad.add i) = some (.string key) ∧ Below wr.heap.size wr wr := ⟨d0, d1, d2, d3, d4, hcell, Below.refl _ _⟩
        have Q1 := q6_dr Q0
        have HBw := Lib.hid HO.out.bl
        go_region_held3 (fun w' => w'.cell? ⟨w.heap.size, 0, none⟩ = some (.int .i64 q.f0) ∧ w'.cell? ⟨w.heap.size, 1, none⟩ = some (.int .i64 q.f1) ∧ w'.cell? ⟨w.heap.size, 2, none⟩ = some (.int .i64 q.f2) ∧ w'.cell? ⟨w.heap.size, 3, none⟩ = some (.slice A3 q.f3.length c3) ∧ w'.cell? ⟨w.heap.size, 4, none⟩ = some (.slice A4 q.f4.length c4) ∧ w'.cell? (kad.add i) = some (.string key) ∧ Below wr.heap.size wr w')
          (first | with_reducible exact Q1 | with_reducible exact Q2 | with_reducible exact q6_al Q1 _ | with_reducible exact q6_dr (q6_al Q0 _) | with_reducible exact q6_al Q2 _ | with_reducible exact q6_5 Q2 (Nat.le_refl _) hbne hkb _ _ _ _ _)
          (first | (go_at_call 34; (with_reducible refine (HSt.out _ (by first | with_reducible exact below_step HBw.out Q1.2.2.2.2.2.2 | with_reducible exact below_step HBw.out (q6_dr (q6_al Q0 _)).2.2.2.2.2.2)).mono ?_); rintro e6 w6 ⟨a, b, c, B3, B4, n3, b3, n4, b4, ok, rfl, hb6, hok⟩; have HOK := Lib.hid hok; clear hok; (first | have Q2 := q6_bl Q1 hb6 | have Q2 := q6_bl (q6_dr (q6_al Q0 _)) hb6); have HB6 := Lib.hid hb6; (try (have hz : Bx w6 wr.heap.size 0 0 0 (.slice none 0 0) (.slice none 0 0) := blk_below (show (World.drew (wr.alloc (.cells #[.int .i64 0, .int .i64 0, .int .i64 0, .slice none 0 0, .slice none 0 0] 35))).heap[wr.heap.size]? = _ from blk_new wr _) hb6; have HZ := Lib.hid hz; have z0 := hz.c0; have z1 := hz.c1; have z2 := hz.c2; have z3 := hz.c3; have z4 := hz.c4; have t0 := hz.fr 0; have t1 := hz.fr 1; have t2 := hz.fr 2; have t3 := hz.fr 3; have t4 := hz.fr 4; clear hz))))
        focus
          obtain ⟨W7, hW7⟩ : ∃ W7, W7 = w6.alloc (.cells #[.int .i64 a, .int .i64 b, .int .i64 c, .slice B3 n3 b3, .slice B4 n4 b4] 35) := ⟨_, rfl⟩
          obtain ⟨h, hh⟩ : ∃ h, h = w6.heap.size := ⟨_, rfl⟩
          have HX7 : Hid (Bx W7 h a b c (.slice B3 n3 b3) (.slice B4 n4 b4)) := Lib.hid (by rw [hW7, hh]; exact blk_new w6 _)
          have HO7 : Hid (OI (Kit.nums s) w W7 q A3 A4 c3 c4) := Lib.hid (by rw [hW7]; have x := (HO.out.below ((Below.refl _ _).drew)).below HB6.out; exact ⟨Bx.alloc_ x.bx _, x.pl, x.gd, below_alloc_ x.bl _⟩)
          rw [← hW7, ← hh]
          clear hW7 hh
        rotate_left
        focus
          obtain ⟨W7, hW7⟩ : ∃ W7, W7 = (((((w6.setCell ⟨wr.heap.size, 0, none⟩ (.int .i64 a)).setCell ⟨wr.heap.size, 1, none⟩ (.int .i64 b)).setCell ⟨wr.heap.size, 2, none⟩ (.int .i64 c)).setCell ⟨wr.heap.size, 3, none⟩ (.slice B3 n3 b3)).setCell ⟨wr.heap.size, 4, none⟩ (.slice B4 n4 b4)) := ⟨_, rfl⟩
          obtain ⟨h, hh⟩ : ∃ h, h = wr.heap.size := ⟨_, rfl⟩
          have HX7 : Hid (Bx W7 h a b c (.slice B3 n3 b3) (.slice B4 n4 b4)) := Lib.hid (by rw [hW7, hh]; exact HZ.out.five _ _ _ _ _)
          have HO7 : Hid (OI (Kit.nums s) w W7 q A3 A4 c3 c4) := Lib.hid (by rw [hW7]; have x := (HO.out.below (dr_below (below_alloc_ (Below.refl _ _) _))).below HB6.out; exact ⟨five_off x.bx (by omega) _ _ _ _ _, x.pl, x.gd, five_below x.bl (by omega) _ _ _ _ _⟩)
          rw [← hW7, ← hh]
          clear hW7 hh z0 z1 z2 z3 z4 t0 t1 t2 t3 t4
        all_goals
          have hne : w.heap.size ≠ W7.heap.size := by have := blk_lt HO7.out.bx; omega
          have g0 := HX7.out.c0
          have g1 := HX7.out.c1
          have g2 := HX7.out.c2
          have g3 := HX7.out.c3
          have g4 := HX7.out.c4
          have s0 := HO7.out.bx.c0
          have s1 := HO7.out.bx.c1
          have s2 := HO7.out.bx.c2
          have s3 := HO7.out.bx.c3
          have s4 := HO7.out.bx.c4
          have t0 := HO7.out.bx.fr 0
          have t1 := HO7.out.bx.fr 1
          have t2 := HO7.out.bx.fr 2
          have t3 := HO7.out.bx.fr 3
          have t4 := HO7.out.bx.fr 4
          try clear hHeld
          clear Q0 Q1 Q2 hb6 d0 d1 d2 d3 d4 hcell
          cases ok with
          | false =>
            go_wp2
            go_ret
            exact ⟨_, rfl, HO7.out.bl⟩
          | true =>
            obtain ⟨q2, rfl, rfl, rfl, rfl, rfl, hg2, hc2⟩ := HOK.out rfl
            have HG2 := Lib.hid (And.intro hg2 hc2)
            clear hg2 hc2
            go_wp2
            go_round
            case rel => exact ⟨i + 1, q2, B3, B4, b3, b4, by omega, by go_num, Lib.hid ⟨HO7.out.bx.five _ _ _ _ _, HG2.out.2, HG2.out.1, five_below HO7.out.bl (Nat.le_refl _) _ _ _ _ _⟩⟩
            case measure => simp [intOf]; omega
      · have a5 : (q.f0 != 5) = true := by simpa using h5
        have he : key.toList.isEmpty = false := by
          rw [List.isEmpty_eq_false_iff, ByteArray.toList_eq]
          intro h
          have h2 : key.data.toList.length = 0 := by rw [h]; rfl
          have h3 : key.data.toList.length = key.size := by rw [Array.length_toList]; rfl
          omega
        have e1 : ((key[0].toNat : Int) == 91) = true := by simpa using h9
        clear h5 h9
        go_wp2
        go_ret
        exact ⟨_, rfl, HO.out.bl⟩
      · have a5 : (q.f0 != 5) = true := by simpa using h5
        have he : key.toList.isEmpty = false := by
          rw [List.isEmpty_eq_false_iff, ByteArray.toList_eq]
          intro h
          have h2 : key.data.toList.length = 0 := by rw [h]; rfl
          have h3 : key.data.toList.length = key.size := by rw [Array.length_toList]; rfl
          omega
        have e1 : ((key[0].toNat : Int) == 91) = false := by simpa using h9
        clear h5 h9
        go_upto_region 6 with (fail)
        have d1 := HO.out.bx.c1
        have d2 := HO.out.bx.c2
        have d3 := HO.out.bx.c3
        have d4 := HO.out.bx.c4
        have Q0 : wr.cell? ⟨w.heap.size, 0, none⟩ = some (.int .i64 q.f0) ∧ wr.cell? ⟨w.heap.size, 1, none⟩ = some (.int .i64 q.f1) ∧ wr.cell? ⟨w.heap.size, 2, none⟩ = some (.int .i64 q.f2) ∧ wr.cell? ⟨w.heap.size, 3, none⟩ = some (.slice A3 q.f3.length c3) ∧ wr.cell? ⟨w.heap.size, 4, none⟩ = some (.slice A4 q.f4.length c4) ∧ wr.cell? (kad.add i) = some (.string key) ∧ Below wr.heap.size wr wr := ⟨d0, d1, d2, d3, d4, hcell, Below.refl _ _⟩
        have Q1 := q6_dr Q0
        have HBw := Lib.hid HO.out.bl
        go_region_held3 (fun w' => w'.cell? ⟨w.heap.size, 0, none⟩ = some (.int .i64 q.f0) ∧ w'.cell? ⟨w.heap.size, 1, none⟩ = some (.int .i64 q.f1) ∧ w'.cell? ⟨w.heap.size, 2, none⟩ = some (.int .i64 q.f2) ∧ w'.cell? ⟨w.heap.size, 3, none⟩ = some (.slice A3 q.f3.length c3) ∧ w'.cell? ⟨w.heap.size, 4, none⟩ = some (.slice A4 q.f4.length c4) ∧ w'.cell? (kad.add i) = some (.string key) ∧ Below wr.heap.size wr w')
          (first | with_reducible exact Q1 | with_reducible exact Q2 | with_reducible exact q6_al Q1 _ | with_reducible exact q6_dr (q6_al Q0 _) | with_reducible exact q6_al Q2 _ | with_reducible exact q6_5 Q2 (Nat.le_refl _) hbne hkb _ _ _ _ _)
          (first | (go_at_call 34; (with_reducible refine (HSt.out _ (by first | with_reducible exact below_step HBw.out Q1.2.2.2.2.2.2 | with_reducible exact below_step HBw.out (q6_dr (q6_al Q0 _)).2.2.2.2.2.2)).mono ?_); rintro e6 w6 ⟨a, b, c, B3, B4, n3, b3, n4, b4, ok, rfl, hb6, hok⟩; have HOK := Lib.hid hok; clear hok; (first | have Q2 := q6_bl Q1 hb6 | have Q2 := q6_bl (q6_dr (q6_al Q0 _)) hb6); have HB6 := Lib.hid hb6; (try (have hz : Bx w6 wr.heap.size 0 0 0 (.slice none 0 0) (.slice none 0 0) := blk_below (show (World.drew (wr.alloc (.cells #[.int .i64 0, .int .i64 0, .int .i64 0, .slice none 0 0, .slice none 0 0] 35))).heap[wr.heap.size]? = _ from blk_new wr _) hb6; have HZ := Lib.hid hz; have z0 := hz.c0; have z1 := hz.c1; have z2 := hz.c2; have z3 := hz.c3; have z4 := hz.c4; have t0 := hz.fr 0; have t1 := hz.fr 1; have t2 := hz.fr 2; have t3 := hz.fr 3; have t4 := hz.fr 4; clear hz))))
        focus
          obtain ⟨W7, hW7⟩ : ∃ W7, W7 = w6.alloc (.cells #[.int .i64 a, .int .i64 b, .int .i64 c, .slice B3 n3 b3, .slice B4 n4 b4] 35) := ⟨_, rfl⟩
          obtain ⟨h, hh⟩ : ∃ h, h = w6.heap.size := ⟨_, rfl⟩
          have HX7 : Hid (Bx W7 h a b c (.slice B3 n3 b3) (.slice B4 n4 b4)) := Lib.hid (by rw [hW7, hh]; exact blk_new w6 _)
          have HO7 : Hid (OI (Kit.nums s) w W7 q A3 A4 c3 c4) := Lib.hid (by rw [hW7]; have x := (HO.out.below ((Below.refl _ _).drew)).below HB6.out; exact ⟨Bx.alloc_ x.bx _, x.pl, x.gd, below_alloc_ x.bl _⟩)
          rw [← hW7, ← hh]
          clear hW7 hh
        rotate_left
        focus
          obtain ⟨W7, hW7⟩ : ∃ W7, W7 = (((((w6.setCell ⟨wr.heap.size, 0, none⟩ (.int .i64 a)).setCell ⟨wr.heap.size, 1, none⟩ (.int .i64 b)).setCell ⟨wr.heap.size, 2, none⟩ (.int .i64 c)).setCell ⟨wr.heap.size, 3, none⟩ (.slice B3 n3 b3)).setCell ⟨wr.heap.size, 4, none⟩ (.slice B4 n4 b4)) := ⟨_, rfl⟩
          obtain ⟨h, hh⟩ : ∃ h, h = wr.heap.size := ⟨_, rfl⟩
          have HX7 : Hid (Bx W7 h a b c (.slice B3 n3 b3) (.slice B4 n4 b4)) := Lib.hid (by rw [hW7, hh]; exact HZ.out.five _ _ _ _ _)
          have HO7 : Hid (OI (Kit.nums s) w W7 q A3 A4 c3 c4) := Lib.hid (by rw [hW7]; have x := (HO.out.below (dr_below (below_alloc_ (Below.refl _ _) _))).below HB6.out; exact ⟨five_off x.bx (by omega) _ _ _ _ _, x.pl, x.gd, five_below x.bl (by omega) _ _ _ _ _⟩)
          rw [← hW7, ← hh]
          clear hW7 hh z0 z1 z2 z3 z4 t0 t1 t2 t3 t4
        all_goals
          have hne : w.heap.size ≠ W7.heap.size := by have := blk_lt HO7.out.bx; omega
          have g0 := HX7.out.c0
          have g1 := HX7.out.c1
          have g2 := HX7.out.c2
          have g3 := HX7.out.c3
          have g4 := HX7.out.c4
          have s0 := HO7.out.bx.c0
          have s1 := HO7.out.bx.c1
          have s2 := HO7.out.bx.c2
          have s3 := HO7.out.bx.c3
          have s4 := HO7.out.bx.c4
          have t0 := HO7.out.bx.fr 0
          have t1 := HO7.out.bx.fr 1
          have t2 := HO7.out.bx.fr 2
          have t3 := HO7.out.bx.fr 3
          have t4 := HO7.out.bx.fr 4
          try clear hHeld
          clear Q0 Q1 Q2 hb6 d0 d1 d2 d3 d4 hcell
          cases ok with
          | false =>
            go_wp2
            go_ret
            exact ⟨_, rfl, HO7.out.bl⟩
          | true =>
            obtain ⟨q2, rfl, rfl, rfl, rfl, rfl, hg2, hc2⟩ := HOK.out rfl
            have HG2 := Lib.hid (And.intro hg2 hc2)
            clear hg2 hc2
            go_wp2
            go_round
            case rel => exact ⟨i + 1, q2, B3, B4, b3, b4, by omega, by go_num, Lib.hid ⟨HO7.out.bx.five _ _ _ _ _, HG2.out.2, HG2.out.1, five_below HO7.out.bl (Nat.le_refl _) _ _ _ _ _⟩⟩
            case measure => simp [intOf]; omega
    · go_wp2
      go_ret
      exact ⟨_, rfl, HO.out.bl⟩
/-- What jqFound comes to. -/
def JqP (s : ByteArray) (ks : List ByteArray) (w : World) (e : Ending) (w' : World) : Prop :=
  (∃ (p q : S35) (A3 A4 : Option Addr) (c3 c4 : Nat), e = .returned (.tuple #[.agg #[.int .i64 q.f0, .int .i64 q.f1, .int .i64 q.f2, .slice A3 q.f3.length c3, .slice A4 q.f4.length c4], .bool true]) ∧ Doc (Kit.nums s) p ∧ s.size ≤ 16384 ∧ Wy (Kit.nums s) p (ks.map Kit.nums) q ∧ Gd (Kit.nums s) q ∧ PlC w' q A3 A4 ∧ Below w.heap.size w w') ∨
  (e = .returned (.tuple #[.agg #[.int .i64 0, .int .i64 0, .int .i64 0, .slice none 0 0, .slice none 0 0], .bool false]) ∧ Below w.heap.size w w')
set_option maxHeartbeats 16000000 in
set_option maxRecDepth 100000 in
theorem jqfound_c (s : ByteArray) (w : World) (K : Option Addr) (ck : Nat) (ks : List ByteArray) (hK : KeysR w K ks) (hks : ∀ k ∈ ks, k.size ≤ 2147483647) : Calls Tryd.prog 24 #[.string s, .slice K ks.length ck] w (JqP s ks w) := by
  have hu1 := Tryd.underlying35
  have HK := Lib.hid hK
  have HKs := Lib.hid hks
  clear hK hks
  obtain ⟨W, hW⟩ : ∃ W, W = w.alloc (.cells #[.int .i64 0, .int .i64 0, .int .i64 0, .slice none 0 0, .slice none 0 0] 35) := ⟨_, rfl⟩
  have HQ : Hid (Bx W w.heap.size 0 0 0 (.slice none 0 0) (.slice none 0 0)) := Lib.hid (by rw [hW]; exact blk_new w _)
  have HB : Hid (Below w.heap.size w W) := Lib.hid (by rw [hW]; exact below_alloc (Below.refl _ _) _)
  have hsz : w.heap.size < W.heap.size := blk_lt HQ.out
  go_enter Tryd.func24, Tryd.ntmps24
  go_wp2_with fail
  rw [← hW]
  clear hW
  refine (jql_c s W).mono ?_
  rintro e2 w2 (⟨p, A3, A4, c3, c4, rfl, hd, hs14, hmk, hb2⟩ | ⟨rfl, hb2⟩)
  rotate_left
  · have HQ2 : Hid (Bx w2 w.heap.size 0 0 0 (.slice none 0 0) (.slice none 0 0)) := Lib.hid (blk_below HQ.out hb2)
    have HB2 : Hid (Below w.heap.size w w2) := Lib.hid (below_step HB.out hb2)
    have h1 : w.heap.size < w2.heap.size := blk_lt HQ2.out
    have h2 : w.heap.size ≠ w2.heap.size := by omega
    have h3 : w2.heap.size ≠ w.heap.size := by omega
    clear hb2 HK HKs
    have s0 := HQ2.out.c0
    have s1 := HQ2.out.c1
    have s2 := HQ2.out.c2
    have s3 := HQ2.out.c3
    have s4 := HQ2.out.c4
    have t0 := HQ2.out.fr 0
    have t1 := HQ2.out.fr 1
    have t2 := HQ2.out.fr 2
    have t3 := HQ2.out.fr 3
    have t4 := HQ2.out.fr 4
    go_wp2
    exact bodyPost_ret (results_ct rfl _ _ w.heap.size 35 #[.int .i64 0, .int .i64 0, .int .i64 0, .slice none 0 0, .slice none 0 0] (0, 0) _ rfl (blk_alloc (HQ2.out.five _ _ _ _ _) _) Tryd.underlying35 rfl rfl) rfl (.inr ⟨rfl, below_alloc_ (five_below HB2.out (Nat.le_refl _) _ _ _ _ _) _⟩)
  have HD := Lib.hid hd
  have HQ2 : Hid (Bx w2 w.heap.size 0 0 0 (.slice none 0 0) (.slice none 0 0)) := Lib.hid (blk_below HQ.out hb2)
  have HB2 : Hid (Below w.heap.size w w2) := Lib.hid (below_step HB.out hb2)
  have h1 : w.heap.size < w2.heap.size := blk_lt HQ2.out
  obtain ⟨m, hm⟩ : ∃ m, m = wo w2 w.heap.size := ⟨_, rfl⟩
  obtain ⟨b, hb⟩ : ∃ b, b = w2.heap.size := ⟨_, rfl⟩
  have HM : Hid (NoB m w.heap.size ∧ NoB m b ∧ Sub m w2 ∧ PlC m p A3 A4) := Lib.hid ⟨by rw [hm]; exact wo_no HQ2.out, by rw [hm]; exact NoB.ge (by rw [wo_size]; omega), by rw [hm]; exact wo_sub HQ2.out, by rw [hm]; exact MkB.plc (B := W.heap.size) ⟨R_wo hmk.1 hsz, R_wo hmk.2 hsz⟩⟩
  have h2 : w.heap.size ≠ b := by omega
  have h3 : b ≠ w.heap.size := by omega
  have hbw : w.heap.size ≤ b := by omega
  obtain ⟨W3, hW3⟩ : ∃ W3, W3 = w2.alloc (.cells #[.int .i64 p.f0, .int .i64 p.f1, .int .i64 p.f2, .slice A3 p.f3.length c3, .slice A4 p.f4.length c4] 35) := ⟨_, rfl⟩
  have HF : Hid (FI (Kit.nums s) m w W3 b p A3 A4 c3 c4) := Lib.hid (by
    rw [hW3]
    exact ⟨by rw [hb]; exact blk_new w2 _, blk_alloc HQ2.out _, HM.out.2.2.2, Doc.gd HD.out, HM.out.2.2.1.step (below_alloc (Below.refl _ _) _), below_alloc_ HB2.out _⟩)
  have HS14 := Lib.hid hs14
  have hs2 : s.size ≤ 1000000000000 := by omega
  have e0 := HF.out.bx.c0
  have e1 := HF.out.bx.c1
  have e2 := HF.out.bx.c2
  have e3 := HF.out.bx.c3
  have e4 := HF.out.bx.c4
  rw [hb, hW3] at e0 e1 e2 e3 e4
  clear hmk hd hb2 HQ HB HQ2 HB2 hm hs14
  go_wp2_with fail
  rw [← hW3, ← hb]
  refine (once_c s W3 p A3 A4 K c3 c4 ck ks hs2 (HF.out.pl.sub HF.out.sb) HF.out.gd (HK.out.below HF.out.bl) HKs.out).mono ?_
  rintro e3 w3 ⟨rfl, hb3⟩
  clear e0 e1 e2 e3 e4 hb hW3 hsz h1
  have HF3 := Lib.hid (HF.out.below hb3)
  clear hb3 HF
  have e0 := HF3.out.bx.c0
  have e1 := HF3.out.bx.c1
  have e2 := HF3.out.bx.c2
  have e3 := HF3.out.bx.c3
  have e4 := HF3.out.bx.c4
  have HCl := Lib.hid (clean_c s w3 p A3 A4 K c3 c4 ck ks hs2 (HF3.out.pl.sub HF3.out.sb) HF3.out.gd (HK.out.below HF3.out.bl) HKs.out)
  cases hon : onB (Kit.nums s) p (ks.map Kit.nums) with
  | false =>
    clear hon HCl
    have s0 := HF3.out.rs.c0
    have s1 := HF3.out.rs.c1
    have s2 := HF3.out.rs.c2
    have s3 := HF3.out.rs.c3
    have s4 := HF3.out.rs.c4
    have t0 := HF3.out.rs.fr 0
    have t1 := HF3.out.rs.fr 1
    have t2 := HF3.out.rs.fr 2
    have t3 := HF3.out.rs.fr 3
    have t4 := HF3.out.rs.fr 4
    go_wp2
    exact bodyPost_ret (results_ct rfl _ _ w.heap.size 35 #[.int .i64 0, .int .i64 0, .int .i64 0, .slice none 0 0, .slice none 0 0] (0, 0) _ rfl (HF3.out.rs.five _ _ _ _ _) Tryd.underlying35 rfl rfl) rfl (.inr ⟨rfl, five_below HF3.out.bl (Nat.le_refl _) _ _ _ _ _⟩)
  | true =>
    clear hon
    go_wp2_with fail
    refine HCl.out.mono ?_
    rintro e4' w4 ⟨cl, rfl, hb4⟩
    have HF4 := Lib.hid (HF3.out.below hb4)
    clear hb4 HF3 e0 e1 e2 e3 e4 HCl
    have s0 := HF4.out.rs.c0
    have s1 := HF4.out.rs.c1
    have s2 := HF4.out.rs.c2
    have s3 := HF4.out.rs.c3
    have s4 := HF4.out.rs.c4
    have t0 := HF4.out.rs.fr 0
    have t1 := HF4.out.rs.fr 1
    have t2 := HF4.out.rs.fr 2
    have t3 := HF4.out.rs.fr 3
    have t4 := HF4.out.rs.fr 4
    cases cl with
    | false =>
      go_wp2
      exact bodyPost_ret (results_ct rfl _ _ w.heap.size 35 #[.int .i64 0, .int .i64 0, .int .i64 0, .slice none 0 0, .slice none 0 0] (0, 0) _ rfl (HF4.out.rs.five _ _ _ _ _) Tryd.underlying35 rfl rfl) rfl (.inr ⟨rfl, five_below HF4.out.bl (Nat.le_refl _) _ _ _ _ _⟩)
    | true =>
      clear s0 s1 s2 s3 s4 t0 t1 t2 t3 t4
      have e0 := HF4.out.bx.c0
      have e1 := HF4.out.bx.c1
      have e2 := HF4.out.bx.c2
      have e3 := HF4.out.bx.c3
      have e4 := HF4.out.bx.c4
      have HSk := Lib.hid (seek_c s w4 p A3 A4 K c3 c4 ck ks hs2 m HF4.out.sb HF4.out.pl HF4.out.gd (HK.out.below HF4.out.bl) HKs.out)
      go_wp2_with fail
      refine HSk.out.mono ?_
      clear HSk e0 e1 e2 e3 e4
      rintro e5 w5 (⟨q, B3, B4, d3, d4, hwy, rfl, hpl, hgd, hb5⟩ | ⟨rfl, hb5⟩)
      · have HF5 := Lib.hid (HF4.out.below hb5)
        have HY := Lib.hid (And.intro hwy (And.intro hpl hgd))
        clear hwy hpl hgd hb5 HF4
        have s0 := HF5.out.rs.c0
        have s1 := HF5.out.rs.c1
        have s2 := HF5.out.rs.c2
        have s3 := HF5.out.rs.c3
        have s4 := HF5.out.rs.c4
        have t0 := HF5.out.rs.fr 0
        have t1 := HF5.out.rs.fr 1
        have t2 := HF5.out.rs.fr 2
        have t3 := HF5.out.rs.fr 3
        have t4 := HF5.out.rs.fr 4
        go_wp2
        refine bodyPost_ret (results_ct rfl _ _ w.heap.size 35 #[.int .i64 q.f0, .int .i64 q.f1, .int .i64 q.f2, .slice B3 q.f3.length d3, .slice B4 q.f4.length d4] (0, 0) _ rfl (HF5.out.rs.five _ _ _ _ _) Tryd.underlying35 rfl rfl) rfl (.inl ⟨p, q, B3, B4, d3, d4, rfl, HD.out, HS14.out, HY.out.1, HY.out.2.2, HY.out.2.1.sub (HF5.out.sb.five HM.out.1 _ _ _ _ _), ?_⟩)
        exact five_below HF5.out.bl (Nat.le_refl _) _ _ _ _ _
      · have HF5 := Lib.hid (HF4.out.below hb5)
        clear hb5 HF4
        have s0 := HF5.out.rs.c0
        have s1 := HF5.out.rs.c1
        have s2 := HF5.out.rs.c2
        have s3 := HF5.out.rs.c3
        have s4 := HF5.out.rs.c4
        have t0 := HF5.out.rs.fr 0
        have t1 := HF5.out.rs.fr 1
        have t2 := HF5.out.rs.fr 2
        have t3 := HF5.out.rs.fr 3
        have t4 := HF5.out.rs.fr 4
        go_wp2
        exact bodyPost_ret (results_ct rfl _ _ w.heap.size 35 #[.int .i64 0, .int .i64 0, .int .i64 0, .slice none 0 0, .slice none 0 0] (0, 0) _ rfl (HF5.out.rs.five _ _ _ _ _) Tryd.underlying35 rfl rfl) rfl (.inr ⟨rfl, five_below HF5.out.bl (Nat.le_refl _) _ _ _ _ _⟩)
end Go.Proofs.YtgbliniamkpocaaDoor.Jp
