/- The reference's reader of JSON texts, walked by hand: a value, a whole text. -/
import Derived.Test.YtgbliniamkpocaaDoorJpRdc
namespace Go.Proofs.YtgbliniamkpocaaDoor.Jp
open Go.RowKit Go.Proofs.YtgbliniamkpocaaDoorW.PrintWords Go.Proofs.YtgbliniamkpocaaDoor.Kit Go.Proofs.YtgbliniamkpocaaDoor.Pure Go.Proofs.YtgbliniamkpocaaDoor.PPl

/-- A block that is a place. -/
def Bx (w : World) (b : Nat) (k x y : Int) (v3 v4 : Value) : Prop := w.heap[b]? = some (.cells #[.int .i64 k, .int .i64 x, .int .i64 y, v3, v4] 35 (0, 0))
section
variable {w w1 : World} {b : Nat} {k x y : Int} {v3 v4 : Value}
theorem Bx.c0 (h : Bx w b k x y v3 v4) : w.cell? ⟨b, 0, none⟩ = some (.int .i64 k) := (blk_cell h 0).trans rfl
theorem Bx.c1 (h : Bx w b k x y v3 v4) : w.cell? ⟨b, 1, none⟩ = some (.int .i64 x) := (blk_cell h 1).trans rfl
theorem Bx.c2 (h : Bx w b k x y v3 v4) : w.cell? ⟨b, 2, none⟩ = some (.int .i64 y) := (blk_cell h 2).trans rfl
theorem Bx.c3 (h : Bx w b k x y v3 v4) : w.cell? ⟨b, 3, none⟩ = some v3 := (blk_cell h 3).trans rfl
theorem Bx.c4 (h : Bx w b k x y v3 v4) : w.cell? ⟨b, 4, none⟩ = some v4 := (blk_cell h 4).trans rfl
theorem Bx.fr (h : Bx w b k x y v3 v4) (i : Nat) : w.frozen? ⟨b, i, none⟩ = false := blk_frozen h i
theorem Bx.gr {g : Nat} (h : Bx w b k x y v3 v4) (hg : Gr g w w1) (hne : b ≠ g) : Bx w1 b k x y v3 v4 := (hg.1.block b (blk_lt h) (fun e => hne (Option.some.inj e))).trans h
theorem Bx.set0 (h : Bx w b k x y v3 v4) (z : Int) : Bx (w.setCell ⟨b, 0, none⟩ (.int .i64 z)) b z x y v3 v4 := blk_put h 0 _ rfl
theorem Bx.set2 (h : Bx w b k x y v3 v4) (z : Int) : Bx (w.setCell ⟨b, 2, none⟩ (.int .i64 z)) b k x z v3 v4 := blk_put h 2 _ rfl
theorem Bx.set3 (h : Bx w b k x y v3 v4) (z : Value) : Bx (w.setCell ⟨b, 3, none⟩ z) b k x y z v4 := blk_put h 3 _ rfl
theorem Bx.set4 (h : Bx w b k x y v3 v4) (z : Value) : Bx (w.setCell ⟨b, 4, none⟩ z) b k x y v3 z := blk_put h 4 _ rfl
theorem Bx.off (h : Bx w b k x y v3 v4) {c o : Nat} (hne : b ≠ c) (z : Value) : Bx (w.setCell ⟨c, o, none⟩ z) b k x y v3 v4 := (Below.heap_setCell w ⟨c, o, none⟩ z b hne).trans h
end
theorem Rdr.off {w : World} {g i c o : Nat} {s : ByteArray} (h : Rdr w g s i) (hne : g ≠ c) (z : Value) : Rdr (w.setCell ⟨c, o, none⟩ z) g s i := (Below.heap_setCell w ⟨c, o, none⟩ z g hne).trans h
theorem set_size (w : World) (a : Addr) (v : Value) : (w.setCell a v).heap.size = w.heap.size := by simp
/-- Names and kids that stand from block B on. -/
def MkB (B : Nat) (w1 : World) (v3 v4 : Value) (ns : List S72) (ks : List S35) : Prop := k72.R 72 w1 B (fun _ => True) v3 ns ∧ k35.R 35 w1 B (fun k => some k ≠ v3.ownBlock) v4 ks
theorem R_off {α : Type} {d : Kd α} {e : Nat} {w : World} {B b o : Nat} {ok : Nat → Prop} {v : Value} {xs : List α} (h : d.R e w B ok v xs) (hb : b < B) (z : Value) : d.R e (w.setCell ⟨b, o, none⟩ z) B ok v xs :=
  Kd.R_mono (Kd.R_step (Kd.R_bound h) (fun k hk _ => Below.heap_setCell w ⟨b, o, none⟩ z k (by have := hk.2.1; show k ≠ b; omega))) (fun _ hk => hk.1)
theorem MkB.off {B b o : Nat} {w1 : World} {v3 v4 : Value} {ns : List S72} {ks : List S35} (h : MkB B w1 v3 v4 ns ks) (hb : b < B) (z : Value) : MkB B (w1.setCell ⟨b, o, none⟩ z) v3 v4 ns ks := ⟨R_off h.1 hb z, R_off h.2 hb z⟩
theorem MkB.low {B : Nat} {w w1 : World} {v3 v4 : Value} {ns : List S72} {ks : List S35} (h : MkB B w1 v3 v4 ns ks) (hb : w.heap.size ≤ B) : Mk w w1 v3 v4 ns ks := ⟨Kd.R_lower h.1 hb, Kd.R_lower h.2 hb⟩
theorem MkB.nil (B : Nat) (w1 : World) : MkB B w1 (.slice none 0 0) (.slice none 0 0) [] [] := ⟨Kd.R_nil _ _ _ _ _, Kd.R_nil _ _ _ _ _⟩
theorem Went.off {g i b o : Nat} {s : ByteArray} {w w1 : World} (h : Went g s w w1 i) (hg : g < w.heap.size) (hb : w.heap.size ≤ b) (z : Value) : Went g s w (w1.setCell ⟨b, o, none⟩ z) i := h.far hg ((Below.refl _ _).setCell hb z)
theorem Bx.five {w : World} {g : Nat} {k x y : Int} {v3 v4 : Value} (h : Bx w g k x y v3 v4) (b0 b1 b2 b3 b4 : Value) :
    (((((w.setCell ⟨g, 0, none⟩ b0).setCell ⟨g, 1, none⟩ b1).setCell ⟨g, 2, none⟩ b2).setCell ⟨g, 3, none⟩ b3).setCell ⟨g, 4, none⟩ b4).heap[g]? = some (.cells #[b0, b1, b2, b3, b4] 35 (0, 0)) := by
  unfold Bx at h
  simp [World.setCell, Array.getElem?_modify, h]
set_option maxHeartbeats 16000000 in
set_option maxRecDepth 100000 in
theorem value_s {g i : Nat} {s : ByteArray} {w : World} (hM : i < s.size → ∀ w1, Rdr w1 g s i → Calls Tryd.prog 63 #[.pointer (some ⟨g, 0, none⟩)] w1 (MemP g s i w1)) (hE : i < s.size → ∀ w1, Rdr w1 g s i → Calls Tryd.prog 64 #[.pointer (some ⟨g, 0, none⟩)] w1 (EltP g s i w1)) (hR : Rdr w g s i) (hi : i ≤ s.size) (hs : s.size ≤ 1000000000000) :
    Calls Tryd.prog 48 #[.pointer (some ⟨g, 0, none⟩)] w (ValP g s i w) := by
  have HM := Lib.hid hM
  have HE := Lib.hid hE
  have HR := Lib.hid hR
  have HL := Lib.hid hR.lt
  have c1 := Rdr.c1 (w := w.alloc (.cells #[.int .i64 0, .int .i64 0, .int .i64 0, .slice none 0 0, .slice none 0 0] 35)) (blk_alloc hR _)
  have hs2 : s.size ≤ 140737488355000 := by omega
  have hu35 := Tryd.underlying35
  clear hM hE hR
  obtain ⟨c, hc⟩ : ∃ c, gb (Kit.nums s) i = c := ⟨_, rfl⟩
  have HC := Lib.hid hc
  have HH : Hid (∀ w1, Rdr w1 g s i → Calls Tryd.prog 62 #[.pointer (some ⟨g, 0, none⟩)] w1 fun e w' => e = .returned (.int .u8 c) ∧ Went g s w1 w' i) := Lib.hid (fun w1 h => by have := here_c h; rw [hc] at this; exact this)
  clear hc
  go_enter Tryd.func48, Tryd.ntmps48
  go_wp2_with fail
  refine (HH.out _ (blk_alloc (blk_alloc HR.out _) _)).mono ?_
  rintro e1 w1 ⟨rfl, hw1⟩
  have hP1 : Bx w1 w.heap.size 0 0 0 (.slice none 0 0) (.slice none 0 0) := Bx.gr (w := (w.alloc (.cells #[.int .i64 0, .int .i64 0, .int .i64 0, .slice none 0 0, .slice none 0 0] 35)).alloc (.cells #[.int .i64 0, .int .i64 i, .int .i64 0, .slice none 0 0, .slice none 0 0] 35)) (blk_alloc (blk_new w _) _) hw1.gr (by have := HL.out; omega)
  have hP2 : Bx w1 (w.heap.size + 1) 0 i 0 (.slice none 0 0) (.slice none 0 0) := Bx.gr (w := (w.alloc (.cells #[.int .i64 0, .int .i64 0, .int .i64 0, .slice none 0 0, .slice none 0 0] 35)).alloc (.cells #[.int .i64 0, .int .i64 i, .int .i64 0, .slice none 0 0, .slice none 0 0] 35)) (by have := blk_new (w.alloc (.cells #[.int .i64 0, .int .i64 0, .int .i64 0, .slice none 0 0, .slice none 0 0] 35)) (.cells #[.int .i64 0, .int .i64 i, .int .i64 0, .slice none 0 0, .slice none 0 0] 35); rw [alloc_size] at this; exact this) hw1.gr (by have := HL.out; omega)
  have HW1 : Hid (Went g s w w1 i) := Lib.hid (((Went.refl HR.out).alloc _).alloc _ |>.trans hw1)
  have HP1 := Lib.hid hP1
  have HP2 := Lib.hid hP2
  clear hw1 hP1 hP2 c1
  have hsz : w.heap.size + 2 ≤ w1.heap.size := by have := blk_lt HP2.out; omega
  have d0 := HP2.out.c0
  have q0 := HP2.out.fr 0
  have hgb : g ≠ w.heap.size + 1 := by have := HL.out; omega
  have hga : g ≠ w.heap.size := by have := HL.out; omega
  have hab : w.heap.size ≠ w.heap.size + 1 := by omega
  have hba : w.heap.size + 1 ≠ w.heap.size := by omega
  obtain ⟨BK, hBK, hBK2⟩ : ∃ B, w.heap.size + 2 ≤ B ∧ B = w1.heap.size := ⟨_, hsz, rfl⟩
  by_cases h123 : c = 123
  · subst h123
    have hil : i < s.size := by have := gb_in (L := Kit.nums s) (i := i) (by have := HC.out; omega); rwa [nums_len] at this
    have H6 : Hid (at_ (Kit.nums s) i 123) := Lib.hid ⟨by rw [nums_len]; exact hil, HC.out⟩
    go_wp2_with fail
    refine (HM.out hil _ (HW1.out.rd.off hgb _)).mono ?_
    rintro e2 w2 (⟨ns, ks, A3, A4, c3, c4, jz, rfl, hw2, hm, hmk⟩ | ⟨jz, rfl, hw2⟩)
    · have HQ2 : Hid (Bx w2 (w.heap.size + 1) 6 i 0 (.slice none 0 0) (.slice none 0 0)) := Lib.hid ((HP2.out.set0 6).gr hw2.gr (Ne.symm hgb))
      have HQ1 : Hid (Bx w2 w.heap.size 0 0 0 (.slice none 0 0) (.slice none 0 0)) := Lib.hid ((HP1.out.off hab _).gr hw2.gr (Ne.symm hga))
      have HW : Hid (Went g s w w2 jz) := Lib.hid ((HW1.out.off HL.out (by omega) _).trans hw2)
      have HK : Hid (MkB BK w2 (.slice A3 ns.length c3) (.slice A4 ks.length c4) ns ks) := Lib.hid (by have h := hmk; unfold Mk at h; rw [set_size] at h; rw [hBK2]; exact h)
      have HN : Hid (∃ n, val (Kit.nums s) n i = some (⟨6, (i : Int), (jz : Int), ns, ks⟩, jz)) := Lib.hid (by obtain ⟨n, hn⟩ := hm; exact ⟨n + 1, by rw [val, if_pos H6.out, hn]; rfl⟩)
      clear hw2 hm hmk HW1 HP1 HP2 d0 q0 HM HE HC HH H6
      have r1 := HW.out.rd.c1
      have x0 := HQ2.out.c0
      have x1 := HQ2.out.c1
      have x2 := HQ2.out.c2
      have x3 := HQ2.out.c3
      have x4 := HQ2.out.c4
      have y0 := HQ2.out.fr 0
      have y2 := HQ2.out.fr 2
      have y3 := HQ2.out.fr 3
      have y4 := HQ2.out.fr 4
      have s0 := HQ1.out.c0
      have s1 := HQ1.out.c1
      have s2 := HQ1.out.c2
      have s3 := HQ1.out.c3
      have s4 := HQ1.out.c4
      have t0 := HQ1.out.fr 0
      have t1 := HQ1.out.fr 1
      have t2 := HQ1.out.fr 2
      have t3 := HQ1.out.fr 3
      have t4 := HQ1.out.fr 4
      go_wp2
      refine bodyPost_ret (results_ct rfl _ _ w.heap.size 35 #[.int .i64 6, .int .i64 i, .int .i64 jz, .slice A3 ns.length c3, .slice A4 ks.length c4] (0, 0) _ rfl (Bx.five (by repeat (first | with_reducible exact HQ1.out | with_reducible refine Bx.off (k := 0) (x := 0) (y := 0) (v3 := .slice none 0 0) (v4 := .slice none 0 0) ?_ hab _)) _ _ _ _ _) Tryd.underlying35 rfl rfl) rfl ?_
      exact .inl ⟨⟨6, (i : Int), (jz : Int), ns, ks⟩, A3, A4, c3, c4, jz, rfl, (by repeat (first | with_reducible exact HW.out | with_reducible refine Went.off ?_ HL.out (by omega) _)), HN.out, (MkB.low (B := BK) (by (repeat (first | with_reducible exact HK.out | with_reducible refine MkB.off ?_ (by omega) _)); all_goals exact HK.out) (by omega))⟩
    · have HQ2 : Hid (Bx w2 (w.heap.size + 1) 6 i 0 (.slice none 0 0) (.slice none 0 0)) := Lib.hid ((HP2.out.set0 6).gr hw2.gr (Ne.symm hgb))
      have HQ1 : Hid (Bx w2 w.heap.size 0 0 0 (.slice none 0 0) (.slice none 0 0)) := Lib.hid ((HP1.out.off hab _).gr hw2.gr (Ne.symm hga))
      have HW : Hid (Went g s w w2 jz) := Lib.hid ((HW1.out.off HL.out (by omega) _).trans hw2)
      clear hw2 HW1 HP1 HP2 d0 q0 HM HE HC HH H6
      have r1 := HW.out.rd.c1
      have x0 := HQ2.out.c0
      have x1 := HQ2.out.c1
      have x2 := HQ2.out.c2
      have x3 := HQ2.out.c3
      have x4 := HQ2.out.c4
      have y0 := HQ2.out.fr 0
      have y2 := HQ2.out.fr 2
      have y3 := HQ2.out.fr 3
      have y4 := HQ2.out.fr 4
      have s0 := HQ1.out.c0
      have s1 := HQ1.out.c1
      have s2 := HQ1.out.c2
      have s3 := HQ1.out.c3
      have s4 := HQ1.out.c4
      have t0 := HQ1.out.fr 0
      have t1 := HQ1.out.fr 1
      have t2 := HQ1.out.fr 2
      have t3 := HQ1.out.fr 3
      have t4 := HQ1.out.fr 4
      go_wp2
      refine bodyPost_ret (results_ct rfl _ _ w.heap.size 35 #[.int .i64 6, .int .i64 i, .int .i64 jz, .slice none 0 0, .slice none 0 0] (0, 0) _ rfl (Bx.five (by repeat (first | with_reducible exact HQ1.out | with_reducible refine Bx.off (k := 0) (x := 0) (y := 0) (v3 := .slice none 0 0) (v4 := .slice none 0 0) ?_ hab _)) _ _ _ _ _) Tryd.underlying35 rfl rfl) rfl ?_
      exact .inr ⟨6, (i : Int), (jz : Int), jz, rfl, (by repeat (first | with_reducible exact HW.out | with_reducible refine Went.off ?_ HL.out (by omega) _))⟩
  have g123 : (c == 123) = false := by simpa using h123
  by_cases h91 : c = 91
  · subst h91
    have hil : i < s.size := by have := gb_in (L := Kit.nums s) (i := i) (by have := HC.out; omega); rwa [nums_len] at this
    have H6 : Hid (at_ (Kit.nums s) i 91) := Lib.hid ⟨by rw [nums_len]; exact hil, HC.out⟩
    go_wp2_with fail
    refine (HE.out hil _ (HW1.out.rd.off hgb _)).mono ?_
    rintro e2 w2 (⟨ks, A4, c4, jz, rfl, hw2, hm, hmk⟩ | ⟨jz, rfl, hw2⟩)
    · have HQ2 : Hid (Bx w2 (w.heap.size + 1) 5 i 0 (.slice none 0 0) (.slice none 0 0)) := Lib.hid ((HP2.out.set0 5).gr hw2.gr (Ne.symm hgb))
      have HQ1 : Hid (Bx w2 w.heap.size 0 0 0 (.slice none 0 0) (.slice none 0 0)) := Lib.hid ((HP1.out.off hab _).gr hw2.gr (Ne.symm hga))
      have HW : Hid (Went g s w w2 jz) := Lib.hid ((HW1.out.off HL.out (by omega) _).trans hw2)
      have HK : Hid (MkB BK w2 (.slice none 0 0) (.slice A4 ks.length c4) [] ks) := Lib.hid (by have h := hmk; rw [set_size] at h; rw [hBK2]; exact ⟨Kd.R_nil _ _ _ _ _, Kd.R_mono h (fun _ _ => by simp [Value.ownBlock])⟩)
      have HN : Hid (∃ n, val (Kit.nums s) n i = some (⟨5, (i : Int), (jz : Int), [], ks⟩, jz)) := Lib.hid (by obtain ⟨n, hn⟩ := hm; exact ⟨n + 1, by rw [val, if_neg (fun h => by have := h.2; have := H6.out.2; omega), if_pos H6.out, hn]; rfl⟩)
      clear hw2 hm hmk HW1 HP1 HP2 d0 q0 HM HE HC HH H6
      have r1 := HW.out.rd.c1
      have x0 := HQ2.out.c0
      have x1 := HQ2.out.c1
      have x2 := HQ2.out.c2
      have x3 := HQ2.out.c3
      have x4 := HQ2.out.c4
      have y0 := HQ2.out.fr 0
      have y2 := HQ2.out.fr 2
      have y3 := HQ2.out.fr 3
      have y4 := HQ2.out.fr 4
      have s0 := HQ1.out.c0
      have s1 := HQ1.out.c1
      have s2 := HQ1.out.c2
      have s3 := HQ1.out.c3
      have s4 := HQ1.out.c4
      have t0 := HQ1.out.fr 0
      have t1 := HQ1.out.fr 1
      have t2 := HQ1.out.fr 2
      have t3 := HQ1.out.fr 3
      have t4 := HQ1.out.fr 4
      go_wp2
      refine bodyPost_ret (results_ct rfl _ _ w.heap.size 35 #[.int .i64 5, .int .i64 i, .int .i64 jz, .slice none 0 0, .slice A4 ks.length c4] (0, 0) _ rfl (Bx.five (by repeat (first | with_reducible exact HQ1.out | with_reducible refine Bx.off (k := 0) (x := 0) (y := 0) (v3 := .slice none 0 0) (v4 := .slice none 0 0) ?_ hab _)) _ _ _ _ _) Tryd.underlying35 rfl rfl) rfl ?_
      exact .inl ⟨⟨5, (i : Int), (jz : Int), [], ks⟩, none, A4, 0, c4, jz, rfl, (by repeat (first | with_reducible exact HW.out | with_reducible refine Went.off ?_ HL.out (by omega) _)), HN.out, (MkB.low (B := BK) (by (repeat (first | with_reducible exact HK.out | with_reducible refine MkB.off ?_ (by omega) _)); all_goals exact HK.out) (by omega))⟩
    · have HQ2 : Hid (Bx w2 (w.heap.size + 1) 5 i 0 (.slice none 0 0) (.slice none 0 0)) := Lib.hid ((HP2.out.set0 5).gr hw2.gr (Ne.symm hgb))
      have HQ1 : Hid (Bx w2 w.heap.size 0 0 0 (.slice none 0 0) (.slice none 0 0)) := Lib.hid ((HP1.out.off hab _).gr hw2.gr (Ne.symm hga))
      have HW : Hid (Went g s w w2 jz) := Lib.hid ((HW1.out.off HL.out (by omega) _).trans hw2)
      clear hw2 HW1 HP1 HP2 d0 q0 HM HE HC HH H6
      have r1 := HW.out.rd.c1
      have x0 := HQ2.out.c0
      have x1 := HQ2.out.c1
      have x2 := HQ2.out.c2
      have x3 := HQ2.out.c3
      have x4 := HQ2.out.c4
      have y0 := HQ2.out.fr 0
      have y2 := HQ2.out.fr 2
      have y3 := HQ2.out.fr 3
      have y4 := HQ2.out.fr 4
      have s0 := HQ1.out.c0
      have s1 := HQ1.out.c1
      have s2 := HQ1.out.c2
      have s3 := HQ1.out.c3
      have s4 := HQ1.out.c4
      have t0 := HQ1.out.fr 0
      have t1 := HQ1.out.fr 1
      have t2 := HQ1.out.fr 2
      have t3 := HQ1.out.fr 3
      have t4 := HQ1.out.fr 4
      go_wp2
      refine bodyPost_ret (results_ct rfl _ _ w.heap.size 35 #[.int .i64 5, .int .i64 i, .int .i64 jz, .slice none 0 0, .slice none 0 0] (0, 0) _ rfl (Bx.five (by repeat (first | with_reducible exact HQ1.out | with_reducible refine Bx.off (k := 0) (x := 0) (y := 0) (v3 := .slice none 0 0) (v4 := .slice none 0 0) ?_ hab _)) _ _ _ _ _) Tryd.underlying35 rfl rfl) rfl ?_
      exact .inr ⟨5, (i : Int), (jz : Int), jz, rfl, (by repeat (first | with_reducible exact HW.out | with_reducible refine Went.off ?_ HL.out (by omega) _))⟩
  have g91 : (c == 91) = false := by simpa using h91
  by_cases h34 : c = 34
  · subst h34
    have hil : i < s.size := by have := gb_in (L := Kit.nums s) (i := i) (by have := HC.out; omega); rwa [nums_len] at this
    have H6 : Hid (at_ (Kit.nums s) i 34) := Lib.hid ⟨by rw [nums_len]; exact hil, HC.out⟩
    go_wp2_with fail
    refine (quoted_c (HW1.out.rd.off hgb _) hil hs2).mono ?_
    rintro e2 w2 (⟨jz, rfl, hw2, hm⟩ | ⟨jz, rfl, hw2⟩)
    · have HQ2 : Hid (Bx w2 (w.heap.size + 1) 4 i 0 (.slice none 0 0) (.slice none 0 0)) := Lib.hid ((HP2.out.set0 4).gr hw2.gr (Ne.symm hgb))
      have HQ1 : Hid (Bx w2 w.heap.size 0 0 0 (.slice none 0 0) (.slice none 0 0)) := Lib.hid ((HP1.out.off hab _).gr hw2.gr (Ne.symm hga))
      have HW : Hid (Went g s w w2 jz) := Lib.hid ((HW1.out.off HL.out (by omega) _).trans hw2)
      have HK : Hid (MkB BK w2 (.slice none 0 0) (.slice none 0 0) [] []) := Lib.hid (MkB.nil _ _)
      have HN : Hid (∃ n, val (Kit.nums s) n i = some (⟨4, (i : Int), (jz : Int), [], []⟩, jz)) := Lib.hid ⟨1, by rw [val, if_neg (fun h => by have := h.2; have := H6.out.2; omega), if_neg (fun h => by have := h.2; have := H6.out.2; omega), if_pos H6.out, hm]; rfl⟩
      clear hw2 hm HW1 HP1 HP2 d0 q0 HM HE HC HH H6
      have r1 := HW.out.rd.c1
      have x0 := HQ2.out.c0
      have x1 := HQ2.out.c1
      have x2 := HQ2.out.c2
      have x3 := HQ2.out.c3
      have x4 := HQ2.out.c4
      have y0 := HQ2.out.fr 0
      have y2 := HQ2.out.fr 2
      have y3 := HQ2.out.fr 3
      have y4 := HQ2.out.fr 4
      have s0 := HQ1.out.c0
      have s1 := HQ1.out.c1
      have s2 := HQ1.out.c2
      have s3 := HQ1.out.c3
      have s4 := HQ1.out.c4
      have t0 := HQ1.out.fr 0
      have t1 := HQ1.out.fr 1
      have t2 := HQ1.out.fr 2
      have t3 := HQ1.out.fr 3
      have t4 := HQ1.out.fr 4
      go_wp2
      refine bodyPost_ret (results_ct rfl _ _ w.heap.size 35 #[.int .i64 4, .int .i64 i, .int .i64 jz, .slice none 0 0, .slice none 0 0] (0, 0) _ rfl (Bx.five (by repeat (first | with_reducible exact HQ1.out | with_reducible refine Bx.off (k := 0) (x := 0) (y := 0) (v3 := .slice none 0 0) (v4 := .slice none 0 0) ?_ hab _)) _ _ _ _ _) Tryd.underlying35 rfl rfl) rfl ?_
      exact .inl ⟨⟨4, (i : Int), (jz : Int), [], []⟩, none, none, 0, 0, jz, rfl, (by repeat (first | with_reducible exact HW.out | with_reducible refine Went.off ?_ HL.out (by omega) _)), HN.out, (MkB.low (B := BK) (by (repeat (first | with_reducible exact HK.out | with_reducible refine MkB.off ?_ (by omega) _)); all_goals exact HK.out) (by omega))⟩
    · have HQ2 : Hid (Bx w2 (w.heap.size + 1) 4 i 0 (.slice none 0 0) (.slice none 0 0)) := Lib.hid ((HP2.out.set0 4).gr hw2.gr (Ne.symm hgb))
      have HQ1 : Hid (Bx w2 w.heap.size 0 0 0 (.slice none 0 0) (.slice none 0 0)) := Lib.hid ((HP1.out.off hab _).gr hw2.gr (Ne.symm hga))
      have HW : Hid (Went g s w w2 jz) := Lib.hid ((HW1.out.off HL.out (by omega) _).trans hw2)
      clear hw2 HW1 HP1 HP2 d0 q0 HM HE HC HH H6
      have r1 := HW.out.rd.c1
      have x0 := HQ2.out.c0
      have x1 := HQ2.out.c1
      have x2 := HQ2.out.c2
      have x3 := HQ2.out.c3
      have x4 := HQ2.out.c4
      have y0 := HQ2.out.fr 0
      have y2 := HQ2.out.fr 2
      have y3 := HQ2.out.fr 3
      have y4 := HQ2.out.fr 4
      have s0 := HQ1.out.c0
      have s1 := HQ1.out.c1
      have s2 := HQ1.out.c2
      have s3 := HQ1.out.c3
      have s4 := HQ1.out.c4
      have t0 := HQ1.out.fr 0
      have t1 := HQ1.out.fr 1
      have t2 := HQ1.out.fr 2
      have t3 := HQ1.out.fr 3
      have t4 := HQ1.out.fr 4
      go_wp2
      refine bodyPost_ret (results_ct rfl _ _ w.heap.size 35 #[.int .i64 4, .int .i64 i, .int .i64 jz, .slice none 0 0, .slice none 0 0] (0, 0) _ rfl (Bx.five (by repeat (first | with_reducible exact HQ1.out | with_reducible refine Bx.off (k := 0) (x := 0) (y := 0) (v3 := .slice none 0 0) (v4 := .slice none 0 0) ?_ hab _)) _ _ _ _ _) Tryd.underlying35 rfl rfl) rfl ?_
      exact .inr ⟨4, (i : Int), (jz : Int), jz, rfl, (by repeat (first | with_reducible exact HW.out | with_reducible refine Went.off ?_ HL.out (by omega) _))⟩
  have g34 : (c == 34) = false := by simpa using h34
  by_cases h45 : c = 45 ∨ isDig c
  · have hil : i < s.size := by
      have := gb_in (L := Kit.nums s) (i := i) (by have := HC.out; unfold isDig at h45; omega)
      rwa [nums_len] at this
    have H6 : Hid (at_ (Kit.nums s) i 45 ∨ isDig (gb (Kit.nums s) i)) := Lib.hid (h45.imp (fun h => ⟨by rw [nums_len]; exact hil, by rw [HC.out]; exact h⟩) (fun h => by rw [HC.out]; exact h))
    have HX : Hid (c ≠ 123 ∧ c ≠ 91 ∧ c ≠ 34) := Lib.hid ⟨h123, h91, h34⟩
    have hcs : c = 45 ∨ (c ≠ 45 ∧ 48 ≤ c ∧ c ≤ 57) := by unfold isDig at h45; omega
    have HQ : Hid (∀ w2, Rdr w2 g s i → Calls Tryd.prog 66 #[.pointer (some ⟨g, 0, none⟩)] w2 fun e w' => (∃ j, e = .returned (.bool true) ∧ Went g s w2 w' j ∧ numE (Kit.nums s) i = some j) ∨ (∃ j, e = .returned (.bool false) ∧ Went g s w2 w' j)) := Lib.hid (fun w2 h => number_c h hi hs2)
    clear h45
    rcases hcs with rfl | ⟨k45, k48, k57⟩
    rotate_left
    have g45 : (c == 45) = false := by simpa using k45
    clear k45
    rotate_right
    all_goals
      go_wp2_with fail
      refine (HQ.out _ (HW1.out.rd.off hgb _)).mono ?_
      rintro e2 w2 (⟨jz, rfl, hw2, hm⟩ | ⟨jz, rfl, hw2⟩)
      · have HQ2 : Hid (Bx w2 (w.heap.size + 1) 3 i 0 (.slice none 0 0) (.slice none 0 0)) := Lib.hid ((HP2.out.set0 3).gr hw2.gr (Ne.symm hgb))
        have HQ1 : Hid (Bx w2 w.heap.size 0 0 0 (.slice none 0 0) (.slice none 0 0)) := Lib.hid ((HP1.out.off hab _).gr hw2.gr (Ne.symm hga))
        have HW : Hid (Went g s w w2 jz) := Lib.hid ((HW1.out.off HL.out (by omega) _).trans hw2)
        have HK : Hid (MkB BK w2 (.slice none 0 0) (.slice none 0 0) [] []) := Lib.hid (MkB.nil _ _)
        have HN : Hid (∃ n, val (Kit.nums s) n i = some (⟨3, (i : Int), (jz : Int), [], []⟩, jz)) := Lib.hid ⟨1, by rw [val, if_neg (fun h => HX.out.1 (HC.out.symm.trans h.2)), if_neg (fun h => HX.out.2.1 (HC.out.symm.trans h.2)), if_neg (fun h => HX.out.2.2 (HC.out.symm.trans h.2)), if_pos H6.out, hm]; rfl⟩
        clear hw2 hm HW1 HP1 HP2 d0 q0 HM HE HC HH H6 HX HQ
        have r1 := HW.out.rd.c1
        have x0 := HQ2.out.c0
        have x1 := HQ2.out.c1
        have x2 := HQ2.out.c2
        have x3 := HQ2.out.c3
        have x4 := HQ2.out.c4
        have y0 := HQ2.out.fr 0
        have y2 := HQ2.out.fr 2
        have y3 := HQ2.out.fr 3
        have y4 := HQ2.out.fr 4
        have s0 := HQ1.out.c0
        have s1 := HQ1.out.c1
        have s2 := HQ1.out.c2
        have s3 := HQ1.out.c3
        have s4 := HQ1.out.c4
        have t0 := HQ1.out.fr 0
        have t1 := HQ1.out.fr 1
        have t2 := HQ1.out.fr 2
        have t3 := HQ1.out.fr 3
        have t4 := HQ1.out.fr 4
        go_wp2
        refine bodyPost_ret (results_ct rfl _ _ w.heap.size 35 #[.int .i64 3, .int .i64 i, .int .i64 jz, .slice none 0 0, .slice none 0 0] (0, 0) _ rfl (Bx.five (by repeat (first | with_reducible exact HQ1.out | with_reducible refine Bx.off (k := 0) (x := 0) (y := 0) (v3 := .slice none 0 0) (v4 := .slice none 0 0) ?_ hab _)) _ _ _ _ _) Tryd.underlying35 rfl rfl) rfl ?_
        exact .inl ⟨⟨3, (i : Int), (jz : Int), [], []⟩, none, none, 0, 0, jz, rfl, (by repeat (first | with_reducible exact HW.out | with_reducible refine Went.off ?_ HL.out (by omega) _)), HN.out, (MkB.low (B := BK) (by (repeat (first | with_reducible exact HK.out | with_reducible refine MkB.off ?_ (by omega) _)); all_goals exact HK.out) (by omega))⟩
      · have HQ2 : Hid (Bx w2 (w.heap.size + 1) 3 i 0 (.slice none 0 0) (.slice none 0 0)) := Lib.hid ((HP2.out.set0 3).gr hw2.gr (Ne.symm hgb))
        have HQ1 : Hid (Bx w2 w.heap.size 0 0 0 (.slice none 0 0) (.slice none 0 0)) := Lib.hid ((HP1.out.off hab _).gr hw2.gr (Ne.symm hga))
        have HW : Hid (Went g s w w2 jz) := Lib.hid ((HW1.out.off HL.out (by omega) _).trans hw2)
        clear hw2 HW1 HP1 HP2 d0 q0 HM HE HC HH H6 HX HQ
        have r1 := HW.out.rd.c1
        have x0 := HQ2.out.c0
        have x1 := HQ2.out.c1
        have x2 := HQ2.out.c2
        have x3 := HQ2.out.c3
        have x4 := HQ2.out.c4
        have y0 := HQ2.out.fr 0
        have y2 := HQ2.out.fr 2
        have y3 := HQ2.out.fr 3
        have y4 := HQ2.out.fr 4
        have s0 := HQ1.out.c0
        have s1 := HQ1.out.c1
        have s2 := HQ1.out.c2
        have s3 := HQ1.out.c3
        have s4 := HQ1.out.c4
        have t0 := HQ1.out.fr 0
        have t1 := HQ1.out.fr 1
        have t2 := HQ1.out.fr 2
        have t3 := HQ1.out.fr 3
        have t4 := HQ1.out.fr 4
        go_wp2
        refine bodyPost_ret (results_ct rfl _ _ w.heap.size 35 #[.int .i64 3, .int .i64 i, .int .i64 jz, .slice none 0 0, .slice none 0 0] (0, 0) _ rfl (Bx.five (by repeat (first | with_reducible exact HQ1.out | with_reducible refine Bx.off (k := 0) (x := 0) (y := 0) (v3 := .slice none 0 0) (v4 := .slice none 0 0) ?_ hab _)) _ _ _ _ _) Tryd.underlying35 rfl rfl) rfl ?_
        exact .inr ⟨3, (i : Int), (jz : Int), jz, rfl, (by repeat (first | with_reducible exact HW.out | with_reducible refine Went.off ?_ HL.out (by omega) _))⟩
  have HX : Hid (c ≠ 123 ∧ c ≠ 91 ∧ c ≠ 34 ∧ ¬ (c = 45 ∨ isDig c)) := Lib.hid ⟨h123, h91, h34, h45⟩
  have g45 : (c == 45) = false := by rw [beq_eq_false_iff_ne]; exact fun h => h45 (.inl h)
  have hnd : ¬ (48 ≤ c ∧ c ≤ 57) := fun h => h45 (.inr h)
  have HV : Hid (∀ n (r : Option (S35 × Nat)), (if wordE (Kit.nums s) i [110, 117, 108, 108] then some ((⟨0, (i : Int), ((i + 4 : Nat) : Int), [], []⟩ : S35), i + 4) else if wordE (Kit.nums s) i [102, 97, 108, 115, 101] then some (⟨1, (i : Int), ((i + 5 : Nat) : Int), [], []⟩, i + 5) else if wordE (Kit.nums s) i [116, 114, 117, 101] then some (⟨2, (i : Int), ((i + 4 : Nat) : Int), [], []⟩, i + 4) else none) = r → val (Kit.nums s) (n + 1) i = r) := Lib.hid (fun n r h => by
    have e := HC.out
    rw [val, if_neg (fun h => HX.out.1 (e.symm.trans h.2)), if_neg (fun h => HX.out.2.1 (e.symm.trans h.2)), if_neg (fun h => HX.out.2.2.1 (e.symm.trans h.2)), if_neg (fun h => HX.out.2.2.2 (h.imp (fun h => e.symm.trans h.2) (fun h => by rw [← e]; exact h)))]
    exact h)
  have HWd : Hid (∀ (t : ByteArray) (w1 : World), t.size ≤ 100 → Rdr w1 g s i → Calls Tryd.prog 67 #[.pointer (some ⟨g, 0, none⟩), .string t] w1 fun e w' => ∃ b j, e = .returned (.bool b) ∧ Went g s w1 w' j ∧ (b = true ∧ wordE (Kit.nums s) i (Kit.nums t) ∧ j = i + t.size ∨ b = false ∧ ¬ wordE (Kit.nums s) i (Kit.nums t) ∧ j = i)) := Lib.hid (fun t w1 ht h => word_c h hi hs2 ht)
  have hcs : (48 ≤ c ∧ ¬ c ≤ 57) ∨ ¬ 48 ≤ c := by omega
  clear h123 h91 h34 h45 hnd HC HM HE
  rcases hcs with ⟨k48, k57⟩ | k48
  all_goals
    go_wp2_with fail
    refine (HWd.out _ _ (by decide) HW1.out.rd).mono ?_
    rintro e2 w2 ⟨b2, jz, rfl, hw2, (⟨rfl, hq, hj⟩ | ⟨rfl, hq, hj⟩)⟩
    · have hj' : jz = i + 4 := hj
      have hq' : wordE (Kit.nums s) i [110, 117, 108, 108] := hq
      have HN : Hid (∃ n, val (Kit.nums s) n i = some (⟨0, (i : Int), (jz : Int), [], []⟩, jz)) := Lib.hid ⟨1, HV.out 0 _ (by rw [hj']; rw [if_pos hq'])⟩
      have HQ2 : Hid (Bx w2 (w.heap.size + 1) 0 i 0 (.slice none 0 0) (.slice none 0 0)) := Lib.hid (HP2.out.gr hw2.gr (Ne.symm hgb))
      have HQ1 : Hid (Bx w2 w.heap.size 0 0 0 (.slice none 0 0) (.slice none 0 0)) := Lib.hid (HP1.out.gr hw2.gr (Ne.symm hga))
      have HW : Hid (Went g s w w2 jz) := Lib.hid (HW1.out.trans hw2)
      have HK : Hid (MkB BK w2 (.slice none 0 0) (.slice none 0 0) [] []) := Lib.hid (MkB.nil _ _)
      clear hw2 hq hq' hj hj' HW1 HP1 HP2 d0 q0 HH HX HV HWd
      have r1 := HW.out.rd.c1
      have x0 := HQ2.out.c0
      have x1 := HQ2.out.c1
      have x2 := HQ2.out.c2
      have x3 := HQ2.out.c3
      have x4 := HQ2.out.c4
      have y0 := HQ2.out.fr 0
      have y2 := HQ2.out.fr 2
      have y3 := HQ2.out.fr 3
      have y4 := HQ2.out.fr 4
      have s0 := HQ1.out.c0
      have s1 := HQ1.out.c1
      have s2 := HQ1.out.c2
      have s3 := HQ1.out.c3
      have s4 := HQ1.out.c4
      have t0 := HQ1.out.fr 0
      have t1 := HQ1.out.fr 1
      have t2 := HQ1.out.fr 2
      have t3 := HQ1.out.fr 3
      have t4 := HQ1.out.fr 4
      go_wp2
      refine bodyPost_ret (results_ct rfl _ _ w.heap.size 35 #[.int .i64 0, .int .i64 i, .int .i64 jz, .slice none 0 0, .slice none 0 0] (0, 0) _ rfl (Bx.five (by repeat (first | with_reducible exact HQ1.out | with_reducible refine Bx.off (k := 0) (x := 0) (y := 0) (v3 := .slice none 0 0) (v4 := .slice none 0 0) ?_ hab _)) _ _ _ _ _) Tryd.underlying35 rfl rfl) rfl ?_
      exact .inl ⟨⟨0, (i : Int), (jz : Int), [], []⟩, none, none, 0, 0, jz, rfl, (by repeat (first | with_reducible exact HW.out | with_reducible refine Went.off ?_ HL.out (by omega) _)), HN.out, (MkB.low (B := BK) (by (repeat (first | with_reducible exact HK.out | with_reducible refine MkB.off ?_ (by omega) _)); all_goals exact HK.out) (by omega))⟩
    have HF0 : Hid (¬ wordE (Kit.nums s) i [110, 117, 108, 108]) := Lib.hid hq
    have HQ2 : Hid (Bx w2 (w.heap.size + 1) 0 i 0 (.slice none 0 0) (.slice none 0 0)) := Lib.hid (HP2.out.gr hw2.gr (Ne.symm hgb))
    have HQ1 : Hid (Bx w2 w.heap.size 0 0 0 (.slice none 0 0) (.slice none 0 0)) := Lib.hid (HP1.out.gr hw2.gr (Ne.symm hga))
    rw [hj] at hw2
    have HW : Hid (Went g s w w2 i) := Lib.hid (HW1.out.trans hw2)
    clear HP1 HP2 HW1 hw2 hq hj d0 q0
    have HP1 := HQ1
    have HP2 := HQ2
    have HW1 := HW
    have d0 := HP2.out.c0
    have q0 := HP2.out.fr 0
    clear HQ1 HQ2 HW
    go_wp2_with fail
    refine (HWd.out _ _ (by decide) HW1.out.rd).mono ?_
    rintro e3 w3 ⟨b3, jz, rfl, hw3, (⟨rfl, hq, hj⟩ | ⟨rfl, hq, hj⟩)⟩
    · have hj' : jz = i + 5 := hj
      have hq' : wordE (Kit.nums s) i [102, 97, 108, 115, 101] := hq
      have HN : Hid (∃ n, val (Kit.nums s) n i = some (⟨1, (i : Int), (jz : Int), [], []⟩, jz)) := Lib.hid ⟨1, HV.out 0 _ (by rw [hj']; rw [if_neg HF0.out]; rw [if_pos hq'])⟩
      have HQ2 : Hid (Bx w3 (w.heap.size + 1) 0 i 0 (.slice none 0 0) (.slice none 0 0)) := Lib.hid (HP2.out.gr hw3.gr (Ne.symm hgb))
      have HQ1 : Hid (Bx w3 w.heap.size 0 0 0 (.slice none 0 0) (.slice none 0 0)) := Lib.hid (HP1.out.gr hw3.gr (Ne.symm hga))
      have HW : Hid (Went g s w w3 jz) := Lib.hid (HW1.out.trans hw3)
      have HK : Hid (MkB BK w3 (.slice none 0 0) (.slice none 0 0) [] []) := Lib.hid (MkB.nil _ _)
      clear hw3 hq hq' hj hj' HW1 HP1 HP2 d0 q0 HH HX HV HWd
      have r1 := HW.out.rd.c1
      have x0 := HQ2.out.c0
      have x1 := HQ2.out.c1
      have x2 := HQ2.out.c2
      have x3 := HQ2.out.c3
      have x4 := HQ2.out.c4
      have y0 := HQ2.out.fr 0
      have y2 := HQ2.out.fr 2
      have y3 := HQ2.out.fr 3
      have y4 := HQ2.out.fr 4
      have s0 := HQ1.out.c0
      have s1 := HQ1.out.c1
      have s2 := HQ1.out.c2
      have s3 := HQ1.out.c3
      have s4 := HQ1.out.c4
      have t0 := HQ1.out.fr 0
      have t1 := HQ1.out.fr 1
      have t2 := HQ1.out.fr 2
      have t3 := HQ1.out.fr 3
      have t4 := HQ1.out.fr 4
      go_wp2
      refine bodyPost_ret (results_ct rfl _ _ w.heap.size 35 #[.int .i64 1, .int .i64 i, .int .i64 jz, .slice none 0 0, .slice none 0 0] (0, 0) _ rfl (Bx.five (by repeat (first | with_reducible exact HQ1.out | with_reducible refine Bx.off (k := 0) (x := 0) (y := 0) (v3 := .slice none 0 0) (v4 := .slice none 0 0) ?_ hab _)) _ _ _ _ _) Tryd.underlying35 rfl rfl) rfl ?_
      exact .inl ⟨⟨1, (i : Int), (jz : Int), [], []⟩, none, none, 0, 0, jz, rfl, (by repeat (first | with_reducible exact HW.out | with_reducible refine Went.off ?_ HL.out (by omega) _)), HN.out, (MkB.low (B := BK) (by (repeat (first | with_reducible exact HK.out | with_reducible refine MkB.off ?_ (by omega) _)); all_goals exact HK.out) (by omega))⟩
    have HF1 : Hid (¬ wordE (Kit.nums s) i [102, 97, 108, 115, 101]) := Lib.hid hq
    have HQ2 : Hid (Bx w3 (w.heap.size + 1) 0 i 0 (.slice none 0 0) (.slice none 0 0)) := Lib.hid (HP2.out.gr hw3.gr (Ne.symm hgb))
    have HQ1 : Hid (Bx w3 w.heap.size 0 0 0 (.slice none 0 0) (.slice none 0 0)) := Lib.hid (HP1.out.gr hw3.gr (Ne.symm hga))
    rw [hj] at hw3
    have HW : Hid (Went g s w w3 i) := Lib.hid (HW1.out.trans hw3)
    clear HP1 HP2 HW1 hw3 hq hj d0 q0
    have HP1 := HQ1
    have HP2 := HQ2
    have HW1 := HW
    have d0 := HP2.out.c0
    have q0 := HP2.out.fr 0
    clear HQ1 HQ2 HW
    go_wp2_with fail
    refine (HWd.out _ _ (by decide) HW1.out.rd).mono ?_
    rintro e4 w4 ⟨b4, jz, rfl, hw4, (⟨rfl, hq, hj⟩ | ⟨rfl, hq, hj⟩)⟩
    · have hj' : jz = i + 4 := hj
      have hq' : wordE (Kit.nums s) i [116, 114, 117, 101] := hq
      have HN : Hid (∃ n, val (Kit.nums s) n i = some (⟨2, (i : Int), (jz : Int), [], []⟩, jz)) := Lib.hid ⟨1, HV.out 0 _ (by rw [hj']; rw [if_neg HF0.out]; rw [if_neg HF1.out]; rw [if_pos hq'])⟩
      have HQ2 : Hid (Bx w4 (w.heap.size + 1) 0 i 0 (.slice none 0 0) (.slice none 0 0)) := Lib.hid (HP2.out.gr hw4.gr (Ne.symm hgb))
      have HQ1 : Hid (Bx w4 w.heap.size 0 0 0 (.slice none 0 0) (.slice none 0 0)) := Lib.hid (HP1.out.gr hw4.gr (Ne.symm hga))
      have HW : Hid (Went g s w w4 jz) := Lib.hid (HW1.out.trans hw4)
      have HK : Hid (MkB BK w4 (.slice none 0 0) (.slice none 0 0) [] []) := Lib.hid (MkB.nil _ _)
      clear hw4 hq hq' hj hj' HW1 HP1 HP2 d0 q0 HH HX HV HWd
      have r1 := HW.out.rd.c1
      have x0 := HQ2.out.c0
      have x1 := HQ2.out.c1
      have x2 := HQ2.out.c2
      have x3 := HQ2.out.c3
      have x4 := HQ2.out.c4
      have y0 := HQ2.out.fr 0
      have y2 := HQ2.out.fr 2
      have y3 := HQ2.out.fr 3
      have y4 := HQ2.out.fr 4
      have s0 := HQ1.out.c0
      have s1 := HQ1.out.c1
      have s2 := HQ1.out.c2
      have s3 := HQ1.out.c3
      have s4 := HQ1.out.c4
      have t0 := HQ1.out.fr 0
      have t1 := HQ1.out.fr 1
      have t2 := HQ1.out.fr 2
      have t3 := HQ1.out.fr 3
      have t4 := HQ1.out.fr 4
      go_wp2
      refine bodyPost_ret (results_ct rfl _ _ w.heap.size 35 #[.int .i64 2, .int .i64 i, .int .i64 jz, .slice none 0 0, .slice none 0 0] (0, 0) _ rfl (Bx.five (by repeat (first | with_reducible exact HQ1.out | with_reducible refine Bx.off (k := 0) (x := 0) (y := 0) (v3 := .slice none 0 0) (v4 := .slice none 0 0) ?_ hab _)) _ _ _ _ _) Tryd.underlying35 rfl rfl) rfl ?_
      exact .inl ⟨⟨2, (i : Int), (jz : Int), [], []⟩, none, none, 0, 0, jz, rfl, (by repeat (first | with_reducible exact HW.out | with_reducible refine Went.off ?_ HL.out (by omega) _)), HN.out, (MkB.low (B := BK) (by (repeat (first | with_reducible exact HK.out | with_reducible refine MkB.off ?_ (by omega) _)); all_goals exact HK.out) (by omega))⟩
    have HF2 : Hid (¬ wordE (Kit.nums s) i [116, 114, 117, 101]) := Lib.hid hq
    have HQ2 : Hid (Bx w4 (w.heap.size + 1) 0 i 0 (.slice none 0 0) (.slice none 0 0)) := Lib.hid (HP2.out.gr hw4.gr (Ne.symm hgb))
    have HQ1 : Hid (Bx w4 w.heap.size 0 0 0 (.slice none 0 0) (.slice none 0 0)) := Lib.hid (HP1.out.gr hw4.gr (Ne.symm hga))
    rw [hj] at hw4
    have HW : Hid (Went g s w w4 i) := Lib.hid (HW1.out.trans hw4)
    clear HP1 HP2 HW1 hw4 hq hj d0 q0
    have HP1 := HQ1
    have HP2 := HQ2
    have HW1 := HW
    have d0 := HP2.out.c0
    have q0 := HP2.out.fr 0
    clear HQ1 HQ2 HW
    have HW := HW1
    have HQ1 := HP1
    have HQ2 := HP2
    clear HW1 HP1 HP2 d0 q0 HH HX HV HWd HF0 HF1 HF2
    have r1 := HW.out.rd.c1
    have x0 := HQ2.out.c0
    have x1 := HQ2.out.c1
    have x2 := HQ2.out.c2
    have x3 := HQ2.out.c3
    have x4 := HQ2.out.c4
    have y0 := HQ2.out.fr 0
    have y2 := HQ2.out.fr 2
    have y3 := HQ2.out.fr 3
    have y4 := HQ2.out.fr 4
    have s0 := HQ1.out.c0
    have s1 := HQ1.out.c1
    have s2 := HQ1.out.c2
    have s3 := HQ1.out.c3
    have s4 := HQ1.out.c4
    have t0 := HQ1.out.fr 0
    have t1 := HQ1.out.fr 1
    have t2 := HQ1.out.fr 2
    have t3 := HQ1.out.fr 3
    have t4 := HQ1.out.fr 4
    go_wp2
    refine bodyPost_ret (results_ct rfl _ _ w.heap.size 35 #[.int .i64 0, .int .i64 i, .int .i64 i, .slice none 0 0, .slice none 0 0] (0, 0) _ rfl (Bx.five (by repeat (first | with_reducible exact HQ1.out | with_reducible refine Bx.off (k := 0) (x := 0) (y := 0) (v3 := .slice none 0 0) (v4 := .slice none 0 0) ?_ hab _)) _ _ _ _ _) Tryd.underlying35 rfl rfl) rfl ?_
    exact .inr ⟨0, (i : Int), (i : Int), i, rfl, (by repeat (first | with_reducible exact HW.out | with_reducible refine Went.off ?_ HL.out (by omega) _))⟩
end Go.Proofs.YtgbliniamkpocaaDoor.Jp
