/- Texts of this claim, laid together. -/
import Derived.Test.YtgbliniamkpocaaDoorG0
import Derived.Test.YtgbliniamkpocaaDoorProg
import Derived.KernelRfl
import Derived.Test.YtgbliniamkpocaaDoorG1
/- Places and spans: their cells (as the kit's print words them). -/
namespace Go.Proofs.YtgbliniamkpocaaDoor.PPl
open Go.RowKit Go.Proofs.YtgbliniamkpocaaDoorW.PrintWords

theorem info35 : (Tryd.prog.info? 35).map (fun i => (i.zero, i.size, i.bytes)) = some (some (.agg #[(.int .i64 0), (.int .i64 0), (.int .i64 0), (.slice none 0 0), (.slice none 0 0)]), 5, 72) := by kernel_rfl
theorem info72 : (Tryd.prog.info? 72).map (fun i => (i.zero, i.size, i.bytes)) = some (some (.agg #[(.int .i64 0), (.int .i64 0)]), 2, 16) := by kernel_rfl
-- the values' own types
/-! #### struct type 72 -/
structure S72 where
  f0 : Int
  f1 : Int
def z72 : S72 := ⟨(0 : Int), (0 : Int)⟩
def k72 : Kd S72 := Kd.iso (Kd.pair (Kd.int .i64) (Kd.int .i64)) (fun x : S72 => (x.f0, x.f1))
theorem k72_open {w : World} {x : S72} {cs : List Value} (h : k72.K w x cs) : cs = [.int .i64 x.f0, .int .i64 x.f1] := by
  obtain ⟨_, _, rfl, rfl, rfl⟩ := h
  exact rfl
theorem k72_openM {w : World} {base : Nat} {ok : Nat → Prop} {x : S72} {cs : List Value} (h : k72.M w base ok x cs) : cs = [.int .i64 x.f0, .int .i64 x.f1] := by
  obtain ⟨_, _, rfl, rfl, rfl⟩ := h
  exact rfl
theorem k72_mk (w : World) (x : S72)  : k72.K w x [.int .i64 x.f0, .int .i64 x.f1] := ⟨[.int .i64 x.f0], [.int .i64 x.f1], rfl, rfl, rfl⟩
theorem k72_mkM (w : World) (base : Nat) (ok : Nat → Prop) (x : S72)  : k72.M w base ok x [.int .i64 x.f0, .int .i64 x.f1] := ⟨[.int .i64 x.f0], [.int .i64 x.f1], rfl, rfl, rfl⟩
def rd_T72 (xs : List S72) (i : Int) : S72 := xs.getD i.toNat z72
theorem at_T72 {w : World} {A : Option Addr} {n : Nat} {xs : List S72} (h : Kd.C k72 w A n xs) (i : Int) (h0 : 0 ≤ i) (h1 : i < n) : ∃ ad , A = some ad ∧ w.cell? (ad.add (i.toNat * 2)) = some (.int .i64 (rd_T72 xs i).f0) ∧ w.cell? ⟨(ad.add (i.toNat * 2)).block, (ad.add (i.toNat * 2)).off + 1, none⟩ = some (.int .i64 (rd_T72 xs i).f1) := by
  obtain ⟨ad, c, e, _, hK, hc0⟩ := Kd.C_get h z72 i h0 h1
  have hc : ∀ j u, c[j]? = some u → w.cell? (ad.add (i.toNat * 2 + j)) = some u := hc0
  obtain rfl := k72_open hK
  exact ⟨ad, e, hc 0 _ rfl, by rw [← add_field _ _ 1 (by omega)]; exact hc 1 _ rfl⟩

/-! #### struct type 35, nested in itself -/
structure S35 where
  f0 : Int
  f1 : Int
  f2 : Int
  f3 : (List S72)
  f4 : (List S35)
def z35 : S35 := ⟨(0 : Int), (0 : Int), (0 : Int), ([] : List S72), ([] : List S35)⟩
def F35 (d : Kd S35) : Kd S35 := Kd.iso (Kd.pair (Kd.int .i64) (Kd.pair (Kd.int .i64) (Kd.pair (Kd.int .i64) (Kd.pair (Kd.slice 72 k72) (Kd.slice 35 d))))) (fun x : S35 => (x.f0, x.f1, x.f2, x.f3, x.f4))
theorem mono35 : Kd.Mono F35 := Kd.mono_iso _ (Kd.mono_pair (Kd.mono_const _) (Kd.mono_pair (Kd.mono_const _) (Kd.mono_pair (Kd.mono_const _) (Kd.mono_pair (Kd.mono_const _) (Kd.mono_slice 35 Kd.mono_id)))))
theorem sub35 : Kd.Sub F35 [35, 72] := Kd.sub_iso _ (Kd.sub_pair (Kd.sub_const _ (by decide)) (Kd.sub_pair (Kd.sub_const _ (by decide)) (Kd.sub_pair (Kd.sub_const _ (by decide)) (Kd.sub_pair (Kd.sub_const _ (by decide)) (Kd.sub_slice 35 (by decide) Kd.sub_id)))))
theorem sz35 : ∀ n, (Kd.upto F35 5 [35, 72] n).sz = 5 := Kd.upto_sz (fun _ => rfl)
def k35 : Kd S35 := Kd.fix F35 5 [35, 72] sz35 (Kd.upto_E sub35)
theorem k35_open {w : World} {x : S35} {cs : List Value} (h : k35.K w x cs) : ∃ A3 c3 A4 c4, cs = [.int .i64 x.f0, .int .i64 x.f1, .int .i64 x.f2, .slice A3 x.f3.length c3, .slice A4 x.f4.length c4] ∧ x.f3.length ≤ c3 ∧ k72.C w A3 x.f3.length x.f3 ∧ x.f4.length ≤ c4 ∧ k35.C w A4 x.f4.length x.f4 := by
  obtain ⟨n, h⟩ := h
  cases n with
  | zero => exact h.elim
  | succ n =>
    obtain ⟨_, _, rfl, rfl, ⟨_, _, rfl, rfl, ⟨_, _, rfl, rfl, ⟨_, _, rfl, ⟨A3, c3, rfl, l3, g3⟩, ⟨A4, c4, rfl, l4, g4⟩⟩⟩⟩⟩ := h
    exact ⟨A3, c3, A4, c4, rfl, l3, g3, l4, Kd.fix_C g4⟩
theorem k35_openM {w : World} {base : Nat} {ok : Nat → Prop} {x : S35} {cs : List Value} (h : k35.M w base ok x cs) : ∃ v3 v4, cs = [.int .i64 x.f0, .int .i64 x.f1, .int .i64 x.f2, v3, v4] ∧ k72.R 72 w base ok v3 x.f3 ∧ k35.R 35 w base ok v4 x.f4 := by
  obtain ⟨n, h⟩ := h
  cases n with
  | zero => exact h.elim
  | succ n =>
    obtain ⟨_, _, rfl, rfl, ⟨_, _, rfl, rfl, ⟨_, _, rfl, rfl, ⟨_, _, rfl, ⟨v3, rfl, g3⟩, ⟨v4, rfl, g4⟩⟩⟩⟩⟩ := h
    exact ⟨v3, v4, rfl, g3, Kd.fix_R g4⟩
theorem k35_mk (w : World) (x : S35) {A3 : Option Addr} {c3 : Nat} (l3 : x.f3.length ≤ c3) (g3 : k72.C w A3 x.f3.length x.f3) {A4 : Option Addr} {c4 : Nat} (l4 : x.f4.length ≤ c4) (g4 : k35.C w A4 x.f4.length x.f4) : k35.K w x [.int .i64 x.f0, .int .i64 x.f1, .int .i64 x.f2, .slice A3 x.f3.length c3, .slice A4 x.f4.length c4] := by
  obtain ⟨n4, q4⟩ := Kd.fix_C_back mono35 g4
  have r4 := Kd.upto_C_le mono35 sz35 (show n4 ≤ n4 by omega) q4
  exact ⟨n4 + 1, ⟨[.int .i64 x.f0], [.int .i64 x.f1, .int .i64 x.f2, .slice A3 x.f3.length c3, .slice A4 x.f4.length c4], rfl, rfl, ⟨[.int .i64 x.f1], [.int .i64 x.f2, .slice A3 x.f3.length c3, .slice A4 x.f4.length c4], rfl, rfl, ⟨[.int .i64 x.f2], [.slice A3 x.f3.length c3, .slice A4 x.f4.length c4], rfl, rfl, ⟨[.slice A3 x.f3.length c3], [.slice A4 x.f4.length c4], rfl, ⟨A3, c3, rfl, l3, g3⟩, ⟨A4, c4, rfl, l4, r4⟩⟩⟩⟩⟩⟩
theorem k35_mkM (w : World) (base : Nat) (ok : Nat → Prop) (x : S35) {v3 : Value} (g3 : k72.R 72 w base ok v3 x.f3) {v4 : Value} (g4 : k35.R 35 w base ok v4 x.f4) : k35.M w base ok x [.int .i64 x.f0, .int .i64 x.f1, .int .i64 x.f2, v3, v4] := by
  obtain ⟨n4, q4⟩ := Kd.fix_R_back mono35 g4
  have r4 := Kd.upto_R_le mono35 sz35 (show n4 ≤ n4 by omega) q4
  exact ⟨n4 + 1, ⟨[.int .i64 x.f0], [.int .i64 x.f1, .int .i64 x.f2, v3, v4], rfl, rfl, ⟨[.int .i64 x.f1], [.int .i64 x.f2, v3, v4], rfl, rfl, ⟨[.int .i64 x.f2], [v3, v4], rfl, rfl, ⟨[v3], [v4], rfl, ⟨v3, rfl, g3⟩, ⟨v4, rfl, r4⟩⟩⟩⟩⟩⟩
def rd_T35 (xs : List S35) (i : Int) : S35 := xs.getD i.toNat z35
theorem at_T35 {w : World} {A : Option Addr} {n : Nat} {xs : List S35} (h : Kd.C k35 w A n xs) (i : Int) (h0 : 0 ≤ i) (h1 : i < n) : ∃ ad A3 c3 A4 c4, A = some ad ∧ w.cell? (ad.add (i.toNat * 5)) = some (.int .i64 (rd_T35 xs i).f0) ∧ w.cell? ⟨(ad.add (i.toNat * 5)).block, (ad.add (i.toNat * 5)).off + 1, none⟩ = some (.int .i64 (rd_T35 xs i).f1) ∧ w.cell? ⟨(ad.add (i.toNat * 5)).block, (ad.add (i.toNat * 5)).off + 2, none⟩ = some (.int .i64 (rd_T35 xs i).f2) ∧ w.cell? ⟨(ad.add (i.toNat * 5)).block, (ad.add (i.toNat * 5)).off + 3, none⟩ = some (.slice A3 (rd_T35 xs i).f3.length c3) ∧ w.cell? ⟨(ad.add (i.toNat * 5)).block, (ad.add (i.toNat * 5)).off + 4, none⟩ = some (.slice A4 (rd_T35 xs i).f4.length c4) ∧ (rd_T35 xs i).f3.length ≤ c3 ∧ k72.C w A3 (rd_T35 xs i).f3.length (rd_T35 xs i).f3 ∧ (rd_T35 xs i).f4.length ≤ c4 ∧ k35.C w A4 (rd_T35 xs i).f4.length (rd_T35 xs i).f4 := by
  obtain ⟨ad, c, e, _, hK, hc0⟩ := Kd.C_get h z35 i h0 h1
  have hc : ∀ j u, c[j]? = some u → w.cell? (ad.add (i.toNat * 5 + j)) = some u := hc0
  obtain ⟨A3, c3, A4, c4, rfl, l3, g3, l4, g4⟩ := k35_open hK
  exact ⟨ad, A3, c3, A4, c4, e, hc 0 _ rfl, by rw [← add_field _ _ 1 (by omega)]; exact hc 1 _ rfl, by rw [← add_field _ _ 2 (by omega)]; exact hc 2 _ rfl, by rw [← add_field _ _ 3 (by omega)]; exact hc 3 _ rfl, by rw [← add_field _ _ 4 (by omega)]; exact hc 4 _ rfl, l3, g3, l4, g4⟩

end Go.Proofs.YtgbliniamkpocaaDoor.PPl
/- The reference's reader of JSON texts, walked by hand: its block, and what goes over bytes alone. -/
namespace Go.Proofs.YtgbliniamkpocaaDoor.Jp
open Go.RowKit Go.Proofs.YtgbliniamkpocaaDoorW.PrintWords Go.Proofs.YtgbliniamkpocaaDoor.Kit

/-- Block g is a reader: its text, its place. -/
def Rdr (w : World) (g : Nat) (s : ByteArray) (i : Nat) : Prop := w.heap[g]? = some (.cells #[.string s, .int .i64 i] 83 (0, 0))
section
variable {w w1 : World} {g : Nat} {s : ByteArray} {i : Nat}
theorem Rdr.c0 (h : Rdr w g s i) : w.cell? ⟨g, 0, none⟩ = some (.string s) := (blk_cell h 0).trans rfl
theorem Rdr.c1 (h : Rdr w g s i) : w.cell? ⟨g, 1, none⟩ = some (.int .i64 i) := (blk_cell h 1).trans rfl
theorem Rdr.f1 (h : Rdr w g s i) : w.frozen? ⟨g, 1, none⟩ = false := blk_frozen h 1
theorem Rdr.lt (h : Rdr w g s i) : g < w.heap.size := blk_lt h
theorem Rdr.set (h : Rdr w g s i) {v : Int} {j : Nat} (e : v = (j : Int)) : Rdr (w.setCell ⟨g, 1, none⟩ (.int .i64 v)) g s j := by
  subst e
  exact blk_put h 1 _ rfl
theorem Rdr.at_ (h : Rdr w g s i) : (match w.cell? ⟨g, 1, none⟩ with | some (.int _ n) => n.toNat | _ => 0) = i := by rw [h.c1]; rfl
end
/-- Where a reader stands. -/
def rAt (w : World) (g : Nat) : Nat := match w.cell? ⟨g, 1, none⟩ with | some (.int _ n) => n.toNat | _ => 0
theorem rAt_of {w : World} {g i : Nat} {s : ByteArray} (h : Rdr w g s i) : rAt w g = i := h.at_
/-- A reader has gone from w to w1, and stands at j. -/
structure Went (g : Nat) (s : ByteArray) (w w1 : World) (j : Nat) : Prop where
  rd : Rdr w1 g s j
  gr : Gr g w w1
theorem Went.trans {g j k : Nat} {s : ByteArray} {w w1 w2 : World} (h : Went g s w w1 j) (h2 : Went g s w1 w2 k) : Went g s w w2 k := ⟨h2.1, h.2.trans h2.2⟩
theorem Went.set {g i j : Nat} {s : ByteArray} {w w1 : World} (h : Went g s w w1 i) {v : Int} (e : v = (j : Int)) : Went g s w (w1.setCell ⟨g, 1, none⟩ (.int .i64 v)) j := ⟨h.1.set e, h.2.trans (Gr.setCell _ _ _ _)⟩
theorem Went.inc {g i : Nat} {s : ByteArray} {w w1 : World} (h : Went g s w w1 i) : Went g s w (w1.setCell ⟨g, 1, none⟩ (.int .i64 ((i : Int) + 1))) (i + 1) := h.set rfl
theorem Rdr.inc {g i : Nat} {s : ByteArray} {w : World} (h : Rdr w g s i) : Rdr (w.setCell ⟨g, 1, none⟩ (.int .i64 ((i : Int) + 1))) g s (i + 1) := h.set rfl
theorem Went.refl {g i : Nat} {s : ByteArray} {w : World} (h : Rdr w g s i) : Went g s w w i := ⟨h, .refl _ _⟩
theorem Went.drewN {g i : Nat} {s : ByteArray} {w w1 : World} (h : Went g s w w1 i) (n : Nat) : Went g s w (w1.drewN n) i := ⟨h.1, h.2.trans (.drewN _ _ _)⟩
theorem gb_at {s : ByteArray} {i : Nat} (h : i < s.size) : gb (Kit.nums s) i = (s[i].toNat : Int) := nums_get s i h
theorem gb_end {s : ByteArray} {i : Nat} (h : s.size ≤ i) : gb (Kit.nums s) i = 0 := gb_out (by rw [nums_len]; exact h)
set_option maxHeartbeats 4000000 in
set_option maxRecDepth 100000 in
theorem here_c {g i : Nat} {s : ByteArray} {w : World} (hR : Rdr w g s i) : Calls Tryd.prog 62 #[.pointer (some ⟨g, 0, none⟩)] w fun e w' => e = .returned (.int .u8 (gb (Kit.nums s) i)) ∧ Went g s w w' i := by
  have HR := Lib.hid hR
  have c0 := hR.c0
  have c1 := hR.c1
  clear hR
  by_cases h : i < s.size
  · rw [gb_at h]
    go_enter Tryd.func62, Tryd.ntmps62
    go_wp2
    repeat (go_quiet (fail); try go_wp2)
    go_ret
    exact ⟨rfl, by repeat (first | exact Went.refl HR.out | apply Went.drewN)⟩
  · rw [gb_end (by omega)]
    go_enter Tryd.func62, Tryd.ntmps62
    go_wp2
    repeat (go_quiet (fail); try go_wp2)
    go_ret
    exact ⟨rfl, by repeat (first | exact Went.refl HR.out | apply Went.drewN)⟩
set_option maxHeartbeats 4000000 in
set_option maxRecDepth 100000 in
theorem take_yes {g i : Nat} {s : ByteArray} {w : World} {c : Int} (hR : Rdr w g s i) (hs : s.size ≤ 140737488355000) (h : at_ (Kit.nums s) i c) : Calls Tryd.prog 82 #[.pointer (some ⟨g, 0, none⟩), .int .u8 c] w fun e w' => e = .returned (.bool true) ∧ Went g s w w' (i + 1) := by
  have HR := Lib.hid hR
  have c0 := hR.c0
  have c1 := hR.c1
  have f1 := hR.f1
  clear hR
  obtain ⟨h1, h2⟩ := h
  rw [nums_len] at h1
  rw [gb_at h1] at h2
  subst h2
  go_enter Tryd.func82, Tryd.ntmps82
  go_wp2
  repeat (go_quiet (fail); try go_wp2)
  go_ret
  exact ⟨rfl, by repeat (first | exact Went.refl HR.out | apply Went.drewN | refine Went.set (i := i) ?_ (by go_num))⟩
set_option maxHeartbeats 4000000 in
set_option maxRecDepth 100000 in
theorem take_no {g i : Nat} {s : ByteArray} {w : World} {c : Int} (hR : Rdr w g s i) (h : ¬ at_ (Kit.nums s) i c) : Calls Tryd.prog 82 #[.pointer (some ⟨g, 0, none⟩), .int .u8 c] w fun e w' => e = .returned (.bool false) ∧ Went g s w w' i := by
  have HR := Lib.hid hR
  have c0 := hR.c0
  have c1 := hR.c1
  clear hR
  by_cases h1 : i < s.size
  · have a0 : ((s[i].toNat : Int) == c) = false := by
      rw [beq_eq_false_iff_ne]
      exact fun e => h ⟨by rw [nums_len]; exact h1, by rw [gb_at h1]; exact e⟩
    clear h
    go_enter Tryd.func82, Tryd.ntmps82
    go_wp2
    repeat (go_quiet (fail); try go_wp2)
    go_ret
    exact ⟨rfl, by repeat (first | exact Went.refl HR.out | apply Went.drewN)⟩
  · clear h
    go_enter Tryd.func82, Tryd.ntmps82
    go_wp2
    repeat (go_quiet (fail); try go_wp2)
    go_ret
    exact ⟨rfl, by repeat (first | exact Went.refl HR.out | apply Went.drewN)⟩
/-- Either way. -/
theorem take_c {g i : Nat} {s : ByteArray} {w : World} (c : Int) (hR : Rdr w g s i) (hs : s.size ≤ 140737488355000) : Calls Tryd.prog 82 #[.pointer (some ⟨g, 0, none⟩), .int .u8 c] w fun e w' => ∃ b j, e = .returned (.bool b) ∧ Went g s w w' j ∧ (b = true ∧ at_ (Kit.nums s) i c ∧ j = i + 1 ∨ b = false ∧ ¬ at_ (Kit.nums s) i c ∧ j = i) := by
  by_cases h : at_ (Kit.nums s) i c
  · exact (take_yes hR hs h).mono fun e w' r => ⟨true, i + 1, r.1, r.2, .inl ⟨rfl, h, rfl⟩⟩
  · exact (take_no hR h).mono fun e w' r => ⟨false, i, r.1, r.2, .inr ⟨rfl, h, rfl⟩⟩
set_option maxHeartbeats 4000000 in
theorem blank_c (c : Int) (w : World) : Calls Tryd.prog 61 #[.int .u8 c] w fun e w' => e = .returned (.bool (decide (isBlank c))) ∧ w' = w := by
  by_cases h1 : c = 32
  · subst h1; rw [decide_eq_true (by decide)]; go_enter Tryd.func61, Tryd.ntmps61; go_wp2; go_ret; exact ⟨rfl, rfl⟩
  by_cases h2 : c = 9
  · subst h2; rw [decide_eq_true (by decide)]; go_enter Tryd.func61, Tryd.ntmps61; go_wp2; go_ret; exact ⟨rfl, rfl⟩
  by_cases h3 : c = 10
  · subst h3; rw [decide_eq_true (by decide)]; go_enter Tryd.func61, Tryd.ntmps61; go_wp2; go_ret; exact ⟨rfl, rfl⟩
  by_cases h4 : c = 13
  · subst h4; rw [decide_eq_true (by decide)]; go_enter Tryd.func61, Tryd.ntmps61; go_wp2; go_ret; exact ⟨rfl, rfl⟩
  rw [decide_eq_false (by unfold isBlank; omega)]
  have g1 : (c == 32) = false := by simpa using h1
  have g2 : (c == 9) = false := by simpa using h2
  have g3 : (c == 10) = false := by simpa using h3
  have g4 : (c == 13) = false := by simpa using h4
  clear h1 h2 h3 h4
  go_enter Tryd.func61, Tryd.ntmps61; go_wp2; go_ret; exact ⟨rfl, rfl⟩
set_option maxHeartbeats 4000000 in
set_option maxRecDepth 100000 in
theorem blanks_c {g i : Nat} {s : ByteArray} {w : World} (hR : Rdr w g s i) (hi : i ≤ s.size) (hs : s.size ≤ 140737488355000) : Calls Tryd.prog 47 #[.pointer (some ⟨g, 0, none⟩)] w fun e w' => e = .returned (.tuple #[]) ∧ Went g s w w' (bl (Kit.nums s) i) := by
  have HR := Lib.hid hR
  clear hR
  go_enter Tryd.func47, Tryd.ntmps47
  go_wp2
  go_loopw [] (fun wc => ∃ j : Nat, j ≤ s.size ∧ Hid (Went g s w wc j) ∧ Hid (bl (Kit.nums s) j = bl (Kit.nums s) i)) (fun wc => s.size - rAt wc g)
  case atStart => exact ⟨i, hi, Lib.hid (Went.refl HR.out), Lib.hid rfl⟩
  case round =>
    obtain ⟨j, hj, HW, HE⟩ := hrel
    have c0 := HW.out.1.c0
    have c1 := HW.out.1.c1
    have f1 := HW.out.1.f1
    by_cases h : j < s.size
    · have HB := Lib.hid (blank_c (s[j].toNat : Int))
      by_cases hb : isBlank (s[j].toNat : Int)
      · have HB2 : Hid (∀ w : World, Calls Tryd.prog 61 #[.int .u8 (s[j].toNat : Int)] w fun e w' => e = .returned (.bool true) ∧ w' = w) := Lib.hid (fun w => by have := HB.out w; rw [decide_eq_true hb] at this; exact this)
        have HE2 : Hid (bl (Kit.nums s) (j + 1) = bl (Kit.nums s) i) := Lib.hid (by rw [← HE.out]; exact (Eq.symm (by rw [bl, dif_pos (by rw [gb_at h]; exact hb)])))
        clear HB HE hb
        go_wp2
        go_quiet ((go_at_call 61; exact Calls.quiet_of_same (HB2.out _)))
        go_wp2
        go_round
        case rel => exact ⟨j + 1, h, Lib.hid (by repeat (first | exact HW.out | apply Went.drewN | refine Went.set (i := j) ?_ (by go_num))), HE2⟩
        case measure =>
          have e1 := rAt_of HW.out.1
          have e2 : rAt ((wr.drewN nq).setCell ⟨g, 1, none⟩ (.int .i64 ((j : Int) + 1))) g = j + 1 := rAt_of ((HW.out.drewN _).set (by omega)).1
          omega
      · have HB2 : Hid (∀ w : World, Calls Tryd.prog 61 #[.int .u8 (s[j].toNat : Int)] w fun e w' => e = .returned (.bool false) ∧ w' = w) := Lib.hid (fun w => by have := HB.out w; rw [decide_eq_false hb] at this; exact this)
        have HE2 : Hid (bl (Kit.nums s) i = j) := Lib.hid (by rw [← HE.out, bl, dif_neg (by rw [gb_at h]; exact hb)])
        clear HB HE hb
        go_wp2
        go_quiet ((go_at_call 61; exact Calls.quiet_of_same (HB2.out _)))
        go_wp2
        go_end0
        exact ⟨rfl, by rw [HE2.out]; repeat (first | exact HW.out | apply Went.drewN)⟩
    · have HE2 : Hid (bl (Kit.nums s) i = j) := Lib.hid (by rw [← HE.out, bl, dif_neg (by rw [gb_end (by omega)]; decide)])
      clear HE
      go_wp2
      repeat (go_quiet (fail); try go_wp2)
      go_end0
      exact ⟨rfl, by rw [HE2.out]; repeat (first | exact HW.out | apply Went.drewN)⟩
/-- Does a word stand here. -/
theorem map_toNat_inj : ∀ {l m : List UInt8}, l.map (fun c => (c.toNat : Int)) = m.map (fun c => (c.toNat : Int)) → l = m
  | [], [], _ => rfl
  | [], _ :: _, h => by simp at h
  | _ :: _, [], h => by simp at h
  | x :: l, y :: m, h => by
    simp only [List.map_cons, List.cons.injEq] at h
    obtain rfl : x = y := UInt8.toNat_inj.1 (by omega)
    rw [map_toNat_inj h.2]
theorem nums_list {a b : ByteArray} : Kit.nums a = Kit.nums b ↔ a.toList = b.toList := by
  rw [ByteArray.toList_eq, ByteArray.toList_eq]
  exact ⟨map_toNat_inj, fun h => by unfold Kit.nums; rw [h]⟩
theorem word_iff {s t : ByteArray} {i : Nat} : wordE (Kit.nums s) i (Kit.nums t) ↔ (s.extract i (i + t.size)).toList = t.toList := by
  unfold wordE
  rw [nums_len]
  have e : ((Kit.nums s).drop i).take t.size = Kit.nums (s.extract i (i + t.size)) := by rw [nums_extract, Nat.add_sub_cancel_left]
  rw [e]
  exact nums_list
set_option maxHeartbeats 4000000 in
set_option maxRecDepth 100000 in
theorem word_c {g i : Nat} {s t : ByteArray} {w : World} (hR : Rdr w g s i) (hi : i ≤ s.size) (hs : s.size ≤ 140737488355000) (ht : t.size ≤ 100) : Calls Tryd.prog 67 #[.pointer (some ⟨g, 0, none⟩), .string t] w fun e w' => ∃ b j, e = .returned (.bool b) ∧ Went g s w w' j ∧ (b = true ∧ wordE (Kit.nums s) i (Kit.nums t) ∧ j = i + t.size ∨ b = false ∧ ¬ wordE (Kit.nums s) i (Kit.nums t) ∧ j = i) := by
  have HR := Lib.hid hR
  have c0 := hR.c0
  have c1 := hR.c1
  have f1 := hR.f1
  clear hR
  have w1 : IntKind.i64.wrap ((s.size : Int) - i) = (s.size : Int) - i := by rw [IntKind.wrap_i64]; omega
  have w2 : IntKind.i64.wrap ((i : Int) + t.size) = (i : Int) + t.size := by rw [IntKind.wrap_i64]; omega
  by_cases h : i + t.size ≤ s.size
  · have h0 : ¬ (s.size : Int) - i < t.size := by omega
    have h1 : ((i : Int) + t.size).toNat = i + t.size := by omega
    have b0 := eq_true (show (0 : Int) ≤ (i : Int) by omega)
    have b1 := eq_true (show (i : Int) ≤ (i : Int) + t.size by omega)
    have b2 := eq_true (show (i : Int) + t.size ≤ s.size by omega)
    by_cases h2 : (s.extract i (i + t.size)).toList = t.toList
    · have HB := Lib.hid (word_iff.2 h2)
      have a0 : ((s.extract i (i + t.size)).toList == t.toList) = true := beq_iff_eq.mpr h2
      clear h2
      go_enter Tryd.func67, Tryd.ntmps67
      go_wp2
      repeat (go_quiet (fail); try go_wp2)
      go_ret
      exact ⟨true, i + t.size, rfl, by repeat (first | exact Went.refl HR.out | apply Went.drewN | refine Went.set (i := i) ?_ (by go_num)), .inl ⟨rfl, HB.out, rfl⟩⟩
    · have HB := Lib.hid (fun k => h2 (word_iff.1 k))
      have a0 : ((s.extract i (i + t.size)).toList == t.toList) = false := beq_eq_false_iff_ne.mpr h2
      clear h2
      go_enter Tryd.func67, Tryd.ntmps67
      go_wp2
      repeat (go_quiet (fail); try go_wp2)
      go_ret
      exact ⟨false, i, rfl, by repeat (first | exact Went.refl HR.out | apply Went.drewN), .inr ⟨rfl, HB.out, rfl⟩⟩
  · have HB : Hid (¬ wordE (Kit.nums s) i (Kit.nums t)) := Lib.hid (fun k => by
      unfold wordE at k
      have := congrArg List.length k
      rw [List.length_take, List.length_drop, nums_len, nums_len] at this
      omega)
    have h0 : (s.size : Int) - i < t.size := by omega
    go_enter Tryd.func67, Tryd.ntmps67
    go_wp2
    repeat (go_quiet (fail); try go_wp2)
    go_ret
    exact ⟨false, i, rfl, by repeat (first | exact Went.refl HR.out | apply Went.drewN), .inr ⟨rfl, HB.out, rfl⟩⟩
end Go.Proofs.YtgbliniamkpocaaDoor.Jp
