/- spec.Places and jpPlaces, walked by hand. -/
import Derived.Test.YtgbliniamkpocaaDoorJpRdd
namespace Go.Proofs.YtgbliniamkpocaaDoor.Jp
open Go.RowKit Go.Proofs.YtgbliniamkpocaaDoorW.PrintWords Go.Proofs.YtgbliniamkpocaaDoor.Kit Go.Proofs.YtgbliniamkpocaaDoor.Pure Go.Proofs.YtgbliniamkpocaaDoor.PPl

theorem value_c {g : Nat} {s : ByteArray} (hs : s.size ≤ 1000000000000) : ∀ (d i : Nat) (w : World), s.size - i ≤ d → i ≤ s.size → Rdr w g s i → Calls Tryd.prog 48 #[.pointer (some ⟨g, 0, none⟩)] w (ValP g s i w) := by
  intro d
  induction d with
  | zero => exact fun i w hd hi hR => value_s (fun h => by omega) (fun h => by omega) hR hi hs
  | succ d ih => exact fun i w hd hi hR => value_s (fun h w1 h1 => members_c (fun j w2 hj hjs h2 => ih j w2 (by omega) hjs h2) h1 h hs) (fun h w1 h1 => elements_c (fun j w2 hj hjs h2 => ih j w2 (by omega) hjs h2) h1 h hs) hR hi hs
/-- What Places comes to. -/
def PlsP (L : List Int) (w : World) (e : Ending) (w' : World) : Prop :=
  (∃ (p : S35) (A3 A4 : Option Addr) (c3 c4 : Nat), e = .returned (.tuple #[.agg #[.int .i64 p.f0, .int .i64 p.f1, .int .i64 p.f2, .slice A3 p.f3.length c3, .slice A4 p.f4.length c4], .bool true]) ∧ Doc L p ∧ Mk w w' (.slice A3 p.f3.length c3) (.slice A4 p.f4.length c4) p.f3 p.f4 ∧ Below w.heap.size w w') ∨
  (e = .returned (.tuple #[.agg #[.int .i64 0, .int .i64 0, .int .i64 0, .slice none 0 0, .slice none 0 0], .bool false]) ∧ Below w.heap.size w w')
theorem bx_new (w : World) (o : Obj) (k x y : Int) (v3 v4 : Value) : Bx ((w.alloc (.cells #[.int .i64 k, .int .i64 x, .int .i64 y, v3, v4] 35)).alloc o) w.heap.size k x y v3 v4 := blk_alloc (blk_new w _) o
theorem went_below {g i : Nat} {s : ByteArray} {w W w1 : World} (h : Went g s W w1 i) (hb : Below w.heap.size w W) (hg : w.heap.size ≤ g) : Below w.heap.size w w1 :=
  have k := h.2.below hb.size hg
  ⟨k.os.trans hb.os, k.tape.trans hb.tape, k.output.trans hb.output, Nat.le_trans hb.size k.size, fun i hi => (k.block i hi).trans (hb.block i hi)⟩
theorem five_below {w w1 : World} {b : Nat} (h : Below w.heap.size w w1) (hb : w.heap.size ≤ b) (b0 b1 b2 b3 b4 : Value) :
    Below w.heap.size w (((((w1.setCell ⟨b, 0, none⟩ b0).setCell ⟨b, 1, none⟩ b1).setCell ⟨b, 2, none⟩ b2).setCell ⟨b, 3, none⟩ b3).setCell ⟨b, 4, none⟩ b4) :=
  ((((h.setCell hb _).setCell hb _).setCell hb _).setCell hb _).setCell hb _
set_option maxHeartbeats 16000000 in
set_option maxRecDepth 100000 in
theorem places_c (s : ByteArray) (w : World) (hs : s.size ≤ 1000000000000) : Calls Tryd.prog 32 #[.string s] w (PlsP (Kit.nums s) w) := by
  have hs2 : s.size ≤ 140737488355000 := by omega
  have hu1 := Tryd.underlying35
  have hu2 := Tryd.underlying83
  go_enter Tryd.func32, Tryd.ntmps32
  go_wp2_with fail
  obtain ⟨W, hW⟩ : ∃ W, W = (w.alloc (.cells #[.int .i64 0, .int .i64 0, .int .i64 0, .slice none 0 0, .slice none 0 0] 35)).alloc (.cells #[.string s, .int .i64 0] 83) := ⟨_, rfl⟩
  have hR0 : Rdr W (w.heap.size + 1) s 0 := by
    rw [hW]
    have := blk_new (w.alloc (.cells #[.int .i64 0, .int .i64 0, .int .i64 0, .slice none 0 0, .slice none 0 0] 35)) (.cells #[.string s, .int .i64 0] 83)
    rw [alloc_size] at this
    exact this
  have hQ0 : Bx W w.heap.size 0 0 0 (.slice none 0 0) (.slice none 0 0) := by rw [hW]; exact bx_new _ _ _ _ _ _ _
  have hB0 : Below w.heap.size w W := by rw [hW]; exact below_alloc (below_alloc (Below.refl _ _) _) _
  rw [← hW]
  have HB0 := Lib.hid hB0
  clear hW hB0
  refine (blanks_c hR0 (Nat.zero_le _) hs2).mono ?_
  rintro e1 w1 ⟨rfl, hw1⟩
  have hb0 := bl_le (Kit.nums s) 0 (Nat.zero_le _)
  rw [nums_len] at hb0
  have HQ1 := Lib.hid (hQ0.gr hw1.gr (by omega))
  have HW1 := Lib.hid hw1
  clear hw1 hQ0 hR0
  go_wp2_with fail
  refine (value_c hs _ _ _ (Nat.le_refl _) hb0.2 HW1.out.rd).mono ?_
  rintro e2 w2 (⟨p, A3, A4, c3, c4, j, rfl, hw2, hv, hmk⟩ | ⟨k, b, e2, j, rfl, hw2⟩)
  rotate_left
  · have HQ2 := Lib.hid (HQ1.out.gr hw2.gr (by omega))
    have HW2 := Lib.hid (HW1.out.trans hw2)
    have hsz : w.heap.size + 2 ≤ w2.heap.size := by have := HW2.out.rd.lt; omega
    clear hw2 HQ1 HW1
    have s0 := HQ2.out.c0
    have s1 := HQ2.out.c1
    have s2 := HQ2.out.c2
    have s3 := HQ2.out.c3
    have s4 := HQ2.out.c4
    have t0 := HQ2.out.fr 0
    have t1 := HQ2.out.fr 1
    have t2 := HQ2.out.fr 2
    have t3 := HQ2.out.fr 3
    have t4 := HQ2.out.fr 4
    have hlt : w.heap.size < w2.heap.size := by omega
    have hne : w.heap.size ≠ w2.heap.size := by omega
    have hne' : w2.heap.size ≠ w.heap.size := by omega
    go_wp2
    exact bodyPost_ret (results_ct rfl _ _ w.heap.size 35 #[.int .i64 0, .int .i64 0, .int .i64 0, .slice none 0 0, .slice none 0 0] (0, 0) _ rfl (blk_alloc (HQ2.out.five _ _ _ _ _) _) Tryd.underlying35 rfl rfl) rfl
      (.inr ⟨rfl, below_alloc (five_below (went_below HW2.out HB0.out (by omega)) (Nat.le_refl _) _ _ _ _ _) _⟩)
  obtain ⟨n, hv⟩ := hv
  have hj := (v_lt n).1 _ _ _ (by rw [nums_len]; exact hb0.2) hv
  rw [nums_len] at hj
  have HV := Lib.hid hv
  have hsz1 : w.heap.size + 2 ≤ w1.heap.size := by have := HW1.out.rd.lt; omega
  have HQ2 := Lib.hid (HQ1.out.gr hw2.gr (by omega))
  have HW2 := Lib.hid (HW1.out.trans hw2)
  have HK : Hid (MkB w1.heap.size w2 (.slice A3 p.f3.length c3) (.slice A4 p.f4.length c4) p.f3 p.f4) := Lib.hid hmk
  have hsz2 : w1.heap.size ≤ w2.heap.size := hw2.gr.1.size
  clear hw2 hv hmk HQ1 HW1
  go_wp2_with fail
  refine (blanks_c (HW2.out.alloc _).rd hj.2 hs2).mono ?_
  rintro e3 w3 ⟨rfl, hw3⟩
  have hbj := bl_le (Kit.nums s) j (by rw [nums_len]; exact hj.2)
  have HW3 := Lib.hid ((HW2.out.alloc _).trans hw3)
  have HQ3 : Hid (Bx w3 w.heap.size 0 0 0 (.slice none 0 0) (.slice none 0 0)) := Lib.hid (Bx.gr (blk_alloc HQ2.out _) hw3.gr (by omega))
  have HP3 : Hid (Bx w3 w2.heap.size p.f0 p.f1 p.f2 (.slice A3 p.f3.length c3) (.slice A4 p.f4.length c4)) := Lib.hid (Bx.gr (blk_new w2 _) hw3.gr (by have := HW2.out.rd.lt; omega))
  have HK3 : Hid (MkB w1.heap.size w3 (.slice A3 p.f3.length c3) (.slice A4 p.f4.length c4) p.f3 p.f4) := Lib.hid ⟨R_gr (Kd.R_alloc HK.out.1 _) hw3.gr (by omega), R_gr (Kd.R_alloc HK.out.2 _) hw3.gr (by omega)⟩
  clear hw3 HW2 HQ2 HK
  have r1 := HW3.out.rd.c1
  have s0 := HQ3.out.c0
  have s1 := HQ3.out.c1
  have s2 := HQ3.out.c2
  have s3 := HQ3.out.c3
  have s4 := HQ3.out.c4
  have t0 := HQ3.out.fr 0
  have t1 := HQ3.out.fr 1
  have t2 := HQ3.out.fr 2
  have t3 := HQ3.out.fr 3
  have t4 := HQ3.out.fr 4
  have d0 := HP3.out.c0
  have d1 := HP3.out.c1
  have d2 := HP3.out.c2
  have d3 := HP3.out.c3
  have d4 := HP3.out.c4
  have hne : w.heap.size ≠ w2.heap.size := by omega
  have hne' : w2.heap.size ≠ w.heap.size := by omega
  by_cases he : bl (Kit.nums s) j = s.size
  · have a0 : (((bl (Kit.nums s) j : Nat) : Int) != (s.size : Int)) = false := by rw [bne_eq_false_iff_eq]; omega
    have HD : Hid (Doc (Kit.nums s) p) := Lib.hid ⟨n, j, HV.out, by rw [he, nums_len]⟩
    clear he HV
    go_wp2
    exact bodyPost_ret (results_ct rfl _ _ w.heap.size 35 #[.int .i64 p.f0, .int .i64 p.f1, .int .i64 p.f2, .slice A3 p.f3.length c3, .slice A4 p.f4.length c4] (0, 0) _ rfl (HQ3.out.five _ _ _ _ _) Tryd.underlying35 rfl rfl) rfl
      (.inl ⟨p, A3, A4, c3, c4, rfl, HD.out, MkB.low (B := w1.heap.size) (by (repeat (first | with_reducible exact HK3.out | with_reducible refine MkB.off ?_ (by omega) _)); all_goals exact HK3.out) (by omega), five_below (went_below HW3.out HB0.out (by omega)) (Nat.le_refl _) _ _ _ _ _⟩)
  · have a0 : (((bl (Kit.nums s) j : Nat) : Int) != (s.size : Int)) = true := by rw [bne_iff_ne]; omega
    clear he HV
    go_wp2
    exact bodyPost_ret (results_ct rfl _ _ w.heap.size 35 #[.int .i64 0, .int .i64 0, .int .i64 0, .slice none 0 0, .slice none 0 0] (0, 0) _ rfl (HQ3.out.five _ _ _ _ _) Tryd.underlying35 rfl rfl) rfl
      (.inr ⟨rfl, five_below (went_below HW3.out HB0.out (by omega)) (Nat.le_refl _) _ _ _ _ _⟩)
end Go.Proofs.YtgbliniamkpocaaDoor.Jp
