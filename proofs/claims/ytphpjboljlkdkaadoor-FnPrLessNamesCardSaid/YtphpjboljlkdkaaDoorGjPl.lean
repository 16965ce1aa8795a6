/- The walk of FnPrLessNames. -/
import Derived.Test.YtphpjboljlkdkaaDoorGjInt
import Derived.Test.YtphpjboljlkdkaaDoorWLast
import Derived.Test.YtphpjboljlkdkaaDoorWMore
import Derived.Test.YtphpjboljlkdkaaDoorRows
import Derived.Lib.ConvBytes
namespace Go.Proofs.YtphpjboljlkdkaaDoor.Pl
open Go.RowKit Go.Proofs.YtphpjboljlkdkaaDoorW.PrintWords Go.Proofs.YtphpjboljlkdkaaDoor.Kit

set_option maxRecDepth 100000 in
theorem mid_cut (A : Option Addr) (n c a b : Nat) (hab : a ≤ b) (hb : b ≤ n) (hc : n ≤ c) : ∃ A', (∀ W : World, (Instr.slice 22 (.slice A n c) (some (.int .i64 (a : Int))) (some (.int .i64 (b : Int))) none).run Tryd.prog W = .ok (.slice A' (b - a) (c - a)) W) ∧
    ∀ (W : World) (xs : List Int), ReadsInt W .u8 A n xs → ReadsInt W .u8 A' (b - a) ((xs.take b).drop a) := by
  obtain ⟨i5, hi5, hz5, hsz5, hby5⟩ : ∃ i, Tryd.prog.info? 5 = some i ∧ i.zero = some (.int .u8 0) ∧ i.size = 1 ∧ i.bytes = 1 := ⟨_, rfl, rfl, rfl, rfl⟩
  have hel : Tryd.prog.elem 22 = 5 := by simp [Program.elem, Tryd.underlying22]
  have hu : Tryd.prog.underlying 22 = some (.slice (Tryd.prog.elem 22)) := by rw [hel]; exact Tryd.underlying22
  refine ⟨if c = a then A else A.map (·.add a), fun W => ?_, fun W xs h => ?_⟩
  · rw [run_slice_lh W 22 A n c hu .i64 .i64 (a : Int) (b : Int) (by omega) (by omega) (by omega), hel]
    simp [sizeOf, typeInfo, hi5, hsz5, sliced, Result.andThen]
  · rw [List.drop_take]
    exact (h.drop_ a (by omega) hc).take_ (b - a) (by omega)
/-- A name in quotation marks. -/
def qn (m : List Int) : List Int := 34 :: (m ++ [34])
theorem qn_len (m : List Int) : (qn m).length = m.length + 2 := by simp [qn]
theorem qn_mid {m : List Int} {i : Nat} (h1 : 1 ≤ i) (h2 : i ≤ m.length) : (qn m).getD i 0 = m.getD (i - 1) 0 := by
  obtain ⟨j, rfl⟩ : ∃ j, i = j + 1 := ⟨i - 1, by omega⟩
  rw [Nat.add_sub_cancel]
  unfold qn
  rw [List.getD_cons_succ, List.getD_eq_getElem?_getD, List.getD_eq_getElem?_getD, List.getElem?_append_left (by omega)]
theorem qn_last (m : List Int) : (qn m).getD (m.length + 1) 0 = 34 := by
  unfold qn
  rw [List.getD_cons_succ, List.getD_eq_getElem?_getD, List.getElem?_append_right (Nat.le_refl _)]
  simp
theorem qn_cut (m : List Int) : ((qn m).take (m.length + 1)).drop 1 = m := by
  simp [qn]
def ParP (m : List Int) (w : World) (e : Ending) (w' : World) : Prop := (∃ A' c', e = .returned (.slice A' m.length c') ∧ ReadsInt w .u8 A' m.length m) ∧ w' = w
set_option maxHeartbeats 4000000 in
set_option maxRecDepth 100000 in
theorem par_c (A : Option Addr) (c : Nat) (m : List Int) (w : World) (hr : ReadsInt w .u8 A (m.length + 2) (qn m)) (hc : m.length + 2 ≤ c) (hm : ∀ i, i < m.length → m.getD i 0 ≠ 34 ∧ m.getD i 0 ≠ 92) (hl : m.length ≤ 1000000) :
    Calls Tryd.prog 88 #[.slice A (m.length + 2) c] w (ParP m w) := by
  obtain ⟨ad, rfl, hcell⟩ := hr.2.2 (by omega)
  obtain ⟨S, hs1, hs2⟩ := mid_cut (some ad) (m.length + 2) c 1 (m.length + 1) (by omega) (by omega) hc
  have hres := hs2 w (qn m) hr
  rw [qn_cut, Nat.add_sub_cancel] at hres
  have hs1' : ∀ W : World, (Instr.slice 22 (.slice (some ad) (m.length + 2) c) (some (.int .i64 1)) (some (.int .i64 ((m.length : Int) + 1))) none).run Tryd.prog W = .ok (.slice S m.length (c - 1)) W := by
    intro W
    have := hs1 W
    rw [Nat.add_sub_cancel] at this
    simpa using this
  have HR := Lib.hid hres
  have HC := Lib.hid hcell
  have HM := Lib.hid hm
  obtain ⟨n, hn⟩ : ∃ n, m.length = n := ⟨_, rfl⟩
  have HN := Lib.hid hn
  rw [hn] at hc hl hs1' HC ⊢
  obtain ⟨PP, hPP⟩ : ∃ PP, ParP m w = PP := ⟨_, rfl⟩
  rw [hPP]
  have HPP := Lib.hid hPP
  clear hs1 hs2 hres hcell hm hr hn hPP
  go_enter Tryd.func88, Tryd.ntmps88
  go_wp2
  go_loop [3] (fun vi => ∃ i : Nat, 1 ≤ i ∧ i ≤ n + 1 ∧ vi = .int .i64 i) (fun vi => n + 2 - (intOf vi).toNat)
  case atStart => exact ⟨1, by omega, by omega, rfl⟩
  case round =>
    obtain ⟨i, h1, h2, rfl⟩ := hrel
    have hx := HC.out i (by omega)
    by_cases hlt : i ≤ n
    · obtain ⟨n1, n2⟩ := HM.out (i - 1) (by have := HN.out; omega)
      rw [qn_mid h1 (by have := HN.out; omega)] at hx
      obtain ⟨x, hx0⟩ : ∃ x, m.getD (i - 1) 0 = x := ⟨_, rfl⟩
      rw [hx0] at hx n1 n2
      clear hx0
      go_wp2
      go_round
      case rel => exact ⟨i + 1, by omega, by omega, by go_num⟩
      case measure => simp [intOf]; omega
    · have hi : i = n + 1 := by omega
      have hq := qn_last m
      rw [HN.out, ← hi] at hq
      rw [hq] at hx
      have hs2' : ∀ W : World, (Instr.slice 22 (.slice (some ad) (n + 2) c) (some (.int .i64 1)) (some (.int .i64 (i : Int))) none).run Tryd.prog W = .ok (.slice S n (c - 1)) W := fun W => by
        have := hs1' W
        rw [hi]
        simpa using this
      have h3 : i < n + 2 := by omega
      clear hq hlt h2 hi hs1'
      go_wp2
      rw [← HPP.out]
      exact ⟨⟨_, _, by rw [HN.out], HR.out⟩, rfl⟩
set_option maxHeartbeats 4000000 in
set_option maxRecDepth 100000 in
theorem typ_c (A : Option Addr) (c : Nat) (m : List Int) (w : World) (hr : ReadsInt w .u8 A (m.length + 2) (qn m)) :
    Calls Tryd.prog 87 #[.slice A (m.length + 2) c] w fun e w' => e = .returned (.int .i64 3) ∧ w' = w := by
  obtain ⟨ad, rfl, hcell⟩ := hr.2.2 (by omega)
  have h0 : w.cell? ad = some (.int .u8 34) := by
    have := hcell 0 (by omega)
    rwa [show ad.add 0 = ad by simp [Addr.add]] at this
  have h00 : w.cell? (ad.add 0) = some (.int .u8 34) := hcell 0 (by omega)
  obtain ⟨n, hn⟩ : ∃ n, m.length + 2 = n := ⟨_, rfl⟩
  have hp : 0 < n := by omega
  rw [hn]
  clear hcell hr hn
  go_enter Tryd.func87, Tryd.ntmps87
  go_wp2
  go_ret
  exact ⟨rfl, rfl⟩
theorem getD_app (p q : List Int) : ∀ j, (p ++ q).getD j 0 = if j < p.length then p.getD j 0 else q.getD (j - p.length) 0 := by
  intro j
  split
  · rw [List.getD_eq_getElem?_getD, List.getD_eq_getElem?_getD, List.getElem?_append_left (by omega)]
  · rw [List.getD_eq_getElem?_getD, List.getD_eq_getElem?_getD, List.getElem?_append_right (by omega)]
/-- What the sorter's struct holds: the names one behind the other, and where each stands. -/
def Arr (w : World) (g gp : Nat) (J : Option Addr) (cJ : Nat) (m1 m2 : List Int) : Prop :=
  w.cell? ⟨g, 1, none⟩ = some (.slice J ((m1.length + 2) + (m2.length + 2)) cJ) ∧ w.cell? ⟨g, 3, none⟩ = some (.slice (some ⟨gp, 0, none⟩) 2 2) ∧
  w.cell? ⟨gp, 0, none⟩ = some (.int .i64 0) ∧ w.cell? ⟨gp, 1, none⟩ = some (.int .i64 ((m1.length + 2 : Nat) : Int)) ∧ w.cell? ⟨gp, 4, none⟩ = some (.int .i64 ((m1.length + 2 : Nat) : Int)) ∧ w.cell? ⟨gp, 5, none⟩ = some (.int .i64 (((m1.length + 2) + (m2.length + 2) : Nat) : Int)) ∧
  ReadsInt w .u8 J ((m1.length + 2) + (m2.length + 2)) (qn m1 ++ qn m2) ∧ (m1.length + 2) + (m2.length + 2) ≤ cJ
set_option maxHeartbeats 8000000 in
set_option maxRecDepth 100000 in
theorem less_c (g gp : Nat) (J : Option Addr) (cJ : Nat) (m1 m2 : List Int) (w : World) (hA : Arr w g gp J cJ m1 m2)
    (h1 : ∀ i, i < m1.length → m1.getD i 0 ≠ 34 ∧ m1.getD i 0 ≠ 92) (h2 : ∀ i, i < m2.length → m2.getD i 0 ≠ 34 ∧ m2.getD i 0 ≠ 92) (hl1 : m1.length ≤ 1000000) (hl2 : m2.length ≤ 1000000) :
    Calls Tryd.prog 64 #[.pointer (some ⟨g, 0, none⟩), .int .i64 0, .int .i64 1, .int .i64 0] w fun e w' => e = .returned (.bool (Op.bytesLess (strOfNums m1).toList (strOfNums m2).toList)) ∧ Below w.heap.size w w' := by
  obtain ⟨c1, c3, p0, p1, p4, p5, hr, hc⟩ := hA
  obtain ⟨n1, hn1⟩ : ∃ n, m1.length + 2 = n := ⟨_, rfl⟩
  obtain ⟨n2, hn2⟩ : ∃ n, m2.length + 2 = n := ⟨_, rfl⟩
  rw [hn1, hn2] at c1 p5 hr hc
  rw [hn1] at p1 p4
  obtain ⟨S1, hs1, hr1⟩ := mid_cut J (n1 + n2) cJ 0 n1 (by omega) (by omega) hc
  obtain ⟨S2, hs2, hr2⟩ := mid_cut J (n1 + n2) cJ n1 (n1 + n2) (by omega) (by omega) hc
  have q1 : (((qn m1 ++ qn m2).take n1).drop 0) = qn m1 := by
    rw [List.drop_zero, List.take_left' (by rw [qn_len]; exact hn1)]
  have q2 : (((qn m1 ++ qn m2).take (n1 + n2)).drop n1) = qn m2 := by
    rw [List.take_of_length_le (by rw [List.length_append, qn_len, qn_len]; omega), List.drop_left' (by rw [qn_len]; exact hn1)]
  have r1 : ReadsInt w .u8 S1 n1 (qn m1) := by
    have := hr1 w _ hr
    rwa [q1, Nat.sub_zero] at this
  have r2 : ReadsInt w .u8 S2 n2 (qn m2) := by
    have := hr2 w _ hr
    rwa [q2, Nat.add_sub_cancel_left] at this
  have t1 : ∀ W : World, (Instr.slice 22 (.slice J (n1 + n2) cJ) (some (.int .i64 0)) (some (.int .i64 (n1 : Int))) none).run Tryd.prog W = .ok (.slice S1 n1 cJ) W := fun W => by
    have := hs1 W
    simpa using this
  have t2 : ∀ W : World, (Instr.slice 22 (.slice J (n1 + n2) cJ) (some (.int .i64 (n1 : Int))) (some (.int .i64 ((n1 + n2 : Nat) : Int))) none).run Tryd.prog W = .ok (.slice S2 n2 (cJ - n1)) W := fun W => by
    have := hs2 W
    rwa [Nat.add_sub_cancel_left] at this
  obtain ⟨N, hN⟩ : ∃ N, n1 + n2 = N := ⟨_, rfl⟩
  rw [hN] at c1 p5 t1 t2 hc
  have HN0 := Lib.hid hN
  have hn0 : n1 ≤ N := by omega
  clear hN
  have HR := Lib.hid (And.intro r1 r2)
  clear hs1 hs2 hr1 hr2 q1 q2 r1 r2 hr
  have HT1 : Hid (∀ W, Below w.heap.size w W → Calls Tryd.prog 87 #[.slice S1 n1 cJ] W fun e w' => e = .returned (.int .i64 3) ∧ w' = W) := Lib.hid (fun W hb => by
    have := typ_c S1 cJ m1 W (by rw [hn1]; exact HR.out.1.below hb)
    rwa [hn1] at this)
  have HT2 : Hid (∀ W, Below w.heap.size w W → Calls Tryd.prog 87 #[.slice S2 n2 (cJ - n1)] W fun e w' => e = .returned (.int .i64 3) ∧ w' = W) := Lib.hid (fun W hb => by
    have := typ_c S2 (cJ - n1) m2 W (by rw [hn2]; exact HR.out.2.below hb)
    rwa [hn2] at this)
  have HP1 : Hid (∀ W, Below w.heap.size w W → Calls Tryd.prog 88 #[.slice S1 n1 cJ] W (ParP m1 W)) := Lib.hid (fun W hb => by
    have := par_c S1 cJ m1 W (by rw [hn1]; exact HR.out.1.below hb) (by omega) h1 hl1
    rwa [hn1] at this)
  have HP2 : Hid (∀ W, Below w.heap.size w W → Calls Tryd.prog 88 #[.slice S2 n2 (cJ - n1)] W (ParP m2 W)) := Lib.hid (fun W hb => by
    have := par_c S2 (cJ - n1) m2 W (by rw [hn2]; exact HR.out.2.below hb) (by have := HN0.out; omega) h2 hl2
    rwa [hn2] at this)
  clear hn1 hn2 h1 h2
  go_enter Tryd.func64, Tryd.ntmps64
  go_wp2
  go_quiet (fail)
  go_wp2
  go_quiet (fail)
  rename_i nqA _ _
  obtain ⟨W, hW⟩ : ∃ W, (w.drewN nqA).drewN nq = W := ⟨_, rfl⟩
  have HB : Hid (Below w.heap.size w W) := Lib.hid (by
    rw [← hW]
    exact pw_below_drewN (pw_below_drewN (Below.refl _ _) _) _)
  rw [hW]
  clear hW c1 c3 p0 p1 p4 p5 t1 t2
  go_wp2_with (first | (go_at_call 87; (first | (with_reducible refine (HT1.out _ HB.out).mono ?_) | (with_reducible refine (HT2.out _ HB.out).mono ?_)); rintro e w3 ⟨rfl, rfl⟩) | (go_at_call 88; (with_reducible refine (HP1.out _ HB.out).mono ?_); rintro e w3 ⟨⟨A1, k1, rfl, hr1⟩, rfl⟩; have hst1 := string_of_reads (P := Tryd.prog) (src := 22) (dst := 9) (e := 5) (c := k1) Tryd.underlying22 Tryd.underlying5 Tryd.underlying9 hr1; clear hr1) | (go_at_call 88; (with_reducible refine (HP2.out _ HB.out).mono ?_); rintro e w3 ⟨⟨A2, k2, rfl, hr2⟩, rfl⟩; have hst2 := string_of_reads (P := Tryd.prog) (src := 22) (dst := 9) (e := 5) (c := k2) Tryd.underlying22 Tryd.underlying5 Tryd.underlying9 hr2; clear hr2))
  go_ret
  exact ⟨rfl, HB.out⟩
theorem conv_pack (W : World) (s : ByteArray) : ∃ cap w1, (convert 9 22 (.string s)).run Tryd.prog W = Result.ok (.slice (some ⟨W.heap.size, 0, none⟩) s.size cap) w1 ∧
    (s.size ≤ 9223372036854775807 → ReadsInt w1 .u8 (some ⟨W.heap.size, 0, none⟩) s.size (Kit.nums s)) ∧ s.size ≤ cap ∧ Below W.heap.size W w1 := by
  have hcv := Lib.run_convert_string_bytes (P := Tryd.prog) W 9 22 5 s Tryd.underlying9 Tryd.underlying22 Tryd.underlying5
  have hB := Kit.BB.conv W 5 s
  have hb := Kit.below_conv W 5 s
  have hle := hB.le
  have hlen := Kit.nums_len s
  have hcap : grownCap W s.size 0 5 = (Lib.bytesCells W 5 s).size := by
    have hge := grownCap_ge W s.size 0 5
    simp only [Lib.bytesCells, Array.size_append, Array.size_map, Array.size_replicate]
    show _ = s.size + _
    omega
  rw [hcap] at hcv
  generalize (Lib.bytesCells W 5 s).size = cap at hcv hB hle
  generalize Lib.bytesWorld W 5 s = w1 at hcv hB hb
  change Kit.BB w1 W.heap.size cap (Kit.nums s) at hB
  refine ⟨cap, w1, hcv, fun hm => ⟨hlen, hm, fun _ => ⟨_, rfl, fun j hj => ?_⟩⟩, ?_, hb⟩
  · have e : (⟨W.heap.size, 0, none⟩ : Addr).add j = ⟨W.heap.size, j, none⟩ := by
      simp only [Addr.add]
      split <;> simp_all
    rw [e]
    exact hB.cell j (by rw [hlen]; omega)
  · have : (Kit.nums s).length ≤ cap := hle
    omega
theorem size_app (a b : ByteArray) : (a ++ b).size = a.size + b.size := by
  rw [ByteArray.size_append]
theorem nums_app (a b : ByteArray) : Kit.nums (a ++ b) = Kit.nums a ++ Kit.nums b := by
  simp [Kit.nums]
theorem arr_of {w2 : World} {t t' : TypeId} {b bb i2 i3 i6 i7 : Value} {J : Option Addr} {cJ n : Nat} {m1 m2 : List Int} {x1 x5 : Int} (hn : n = (m1.length + 2) + (m2.length + 2)) (h1 : x1 = ((m1.length + 2 : Nat) : Int)) (h5 : x5 = (((m1.length + 2) + (m2.length + 2) : Nat) : Int))
    (hr : ReadsInt w2 .u8 J ((m1.length + 2) + (m2.length + 2)) (qn m1 ++ qn m2)) (hc : (m1.length + 2) + (m2.length + 2) ≤ cJ) :
    Arr ((w2.alloc (.cells #[.int .i64 0, .int .i64 x1, i2, i3, .int .i64 x1, .int .i64 x5, i6, i7] t)).alloc (.cells #[b, .slice J n cJ, bb, .slice (some ⟨w2.heap.size, 0, none⟩) 2 2] t')) (w2.heap.size + 1) w2.heap.size J cJ m1 m2 := by
  subst hn h1 h5
  obtain ⟨W, hW⟩ : ∃ W, W = w2.alloc (.cells #[.int .i64 0, .int .i64 ((m1.length + 2 : Nat) : Int), i2, i3, .int .i64 ((m1.length + 2 : Nat) : Int), .int .i64 (((m1.length + 2) + (m2.length + 2) : Nat) : Int), i6, i7] t) := ⟨_, rfl⟩
  have hg : W.heap.size = w2.heap.size + 1 := by rw [hW]; simp
  have e1 : (W.alloc (.cells #[b, .slice J ((m1.length + 2) + (m2.length + 2)) cJ, bb, .slice (some ⟨w2.heap.size, 0, none⟩) 2 2] t')).heap[w2.heap.size + 1]? = some (.cells #[b, .slice J ((m1.length + 2) + (m2.length + 2)) cJ, bb, .slice (some ⟨w2.heap.size, 0, none⟩) 2 2] t') := by
    rw [← hg]
    exact heap_alloc_new W _
  have e2 : (W.alloc (.cells #[b, .slice J ((m1.length + 2) + (m2.length + 2)) cJ, bb, .slice (some ⟨w2.heap.size, 0, none⟩) 2 2] t')).heap[w2.heap.size]? = some (.cells #[.int .i64 0, .int .i64 ((m1.length + 2 : Nat) : Int), i2, i3, .int .i64 ((m1.length + 2 : Nat) : Int), .int .i64 (((m1.length + 2) + (m2.length + 2) : Nat) : Int), i6, i7] t) := by
    rw [Below.heap_alloc W _ _ (by omega), hW]
    exact heap_alloc_new w2 _
  rw [← hW]
  have hb : Below w2.heap.size w2 (W.alloc (.cells #[b, .slice J ((m1.length + 2) + (m2.length + 2)) cJ, bb, .slice (some ⟨w2.heap.size, 0, none⟩) 2 2] t')) := by
    rw [hW]
    exact ((Below.refl _ _).alloc (Nat.le_refl _) _).alloc (by simp) _
  refine ⟨?_, ?_, ?_, ?_, ?_, ?_, hr.below hb, hc⟩
  · simp [World.cell?, e1]
  · simp [World.cell?, e1]
  · simp [World.cell?, e2]
  · simp [World.cell?, e2]
  · simp [World.cell?, e2]
  · simp [World.cell?, e2]
set_option maxHeartbeats 8000000 in
set_option maxRecDepth 100000 in
theorem door_c (qa qb x y : ByteArray) (m1 m2 : List Int) (w : World) (ha : Kit.nums qa = qn m1) (hb : Kit.nums qb = qn m2)
    (h1 : ∀ i, i < m1.length → m1.getD i 0 ≠ 34 ∧ m1.getD i 0 ≠ 92) (h2 : ∀ i, i < m2.length → m2.getD i 0 ≠ 34 ∧ m2.getD i 0 ≠ 92) (hl1 : m1.length ≤ 5000) (hl2 : m2.length ≤ 5000) (hx : x.size ≤ 5000) (hy : y.size ≤ 5000) :
    Calls Tryd.prog 42 #[.string qa, .string qb, .string x, .string y, .bool false] w fun e w' => e = .returned (.bool (Op.bytesLess (strOfNums m1).toList (strOfNums m2).toList)) ∧ Below w.heap.size w w' := by
  have za : qa.size = m1.length + 2 := by rw [← Kit.nums_len, ha, qn_len]
  have zb : qb.size = m2.length + 2 := by rw [← Kit.nums_len, hb, qn_len]
  obtain ⟨k1, w1, cv1, rd1, kc1, bw1⟩ := conv_pack w (qa ++ qb)
  obtain ⟨k2, w2, cv2, rd2, kc2, bw2⟩ := conv_pack w1 (qa ++ ⟨#[58]⟩ ++ x ++ qb ++ ⟨#[58]⟩ ++ y)
  have HR := Lib.hid (And.intro rd1 kc1)
  have HBW := Lib.hid (And.intro bw1 bw2)
  have HZ := Lib.hid (And.intro za (And.intro zb (And.intro ha hb)))
  have HM := Lib.hid (And.intro h1 h2)
  have la : qa.size ≤ 6000 := by omega
  have lb : qb.size ≤ 6000 := by omega
  obtain ⟨R, hR⟩ : ∃ R, Op.bytesLess (strOfNums m1).toList (strOfNums m2).toList = R := ⟨_, rfl⟩
  rw [hR]
  have HRR := Lib.hid hR
  clear rd1 kc1 rd2 kc2 bw1 bw2 za zb ha hb h1 h2 hR
  go_enter Tryd.func42, Tryd.ntmps42
  go_wp2_with (go_at_call 64; refine (less_c (w2.heap.size + 1) w2.heap.size (some ⟨w.heap.size, 0, none⟩) k1 m1 m2 _ (arr_of ?a1 ?a2 ?a3 ?a4 ?a5) HM.out.1 HM.out.2 (by omega) (by omega)).mono ?_)
  case a1 => rw [HZ.out.1, HZ.out.2.1]
  case a2 => rw [HZ.out.1]
  case a3 => rw [HZ.out.1, HZ.out.2.1]; simp
  case a4 =>
    have h := HR.out.1 (by rw [size_app]; omega)
    rw [size_app, HZ.out.1, HZ.out.2.1, nums_app, HZ.out.2.2.1, HZ.out.2.2.2] at h
    exact h.below HBW.out.2
  case a5 =>
    have h := HR.out.2
    rw [size_app, HZ.out.1, HZ.out.2.1] at h
    exact h
  rintro e w3 ⟨rfl, hb3⟩
  rw [HRR.out]
  have HB3 := Lib.hid hb3
  clear hb3 cv1 cv2
  go_wp2
  go_ret
  exact ⟨rfl, (HBW.out.1.trans (HBW.out.2.mono HBW.out.1.size)).trans ((((Below.refl _ _).alloc (Nat.le_refl _) _).alloc (by simp) _).trans (HB3.out.mono (by simp; omega)) |>.mono (by have := HBW.out.1.size; have := HBW.out.2.size; omega))⟩
set_option maxHeartbeats 8000000 in
set_option maxRecDepth 100000 in
theorem prLess_c (qa qb x y : ByteArray) (m1 m2 : List Int) (w : World) (ha : Kit.nums qa = qn m1) (hb : Kit.nums qb = qn m2)
    (h1 : ∀ i, i < m1.length → m1.getD i 0 ≠ 34 ∧ m1.getD i 0 ≠ 92) (h2 : ∀ i, i < m2.length → m2.getD i 0 ≠ 34 ∧ m2.getD i 0 ≠ 92) (hl1 : m1.length ≤ 5000) (hl2 : m2.length ≤ 5000) (hx : x.size ≤ 5000) (hy : y.size ≤ 5000) :
    Calls Tryd.prog 23 #[.string qa, .string qb, .string x, .string y, .bool false] w fun e w' => e = .returned (.bool (Op.bytesLess (strOfNums m1).toList (strOfNums m2).toList)) ∧ Below w.heap.size w w' := by
  have HD := Lib.hid (door_c qa qb x y m1 m2 w ha hb h1 h2 hl1 hl2 hx hy)
  clear ha hb h1 h2
  obtain ⟨R, hR⟩ : ∃ R, Op.bytesLess (strOfNums m1).toList (strOfNums m2).toList = R := ⟨_, rfl⟩
  rw [hR] at HD ⊢
  clear hR
  go_enter Tryd.func23, Tryd.ntmps23
  go_wp2_with (go_at_call 42; refine HD.out.mono ?_; rintro e w1 ⟨rfl, hb1⟩)
  go_ret
  exact ⟨rfl, hb1⟩
theorem nums_get (s : ByteArray) (i : Nat) (h : i < s.size) : (Kit.nums s).getD i 0 = (s[i].toNat : Int) := by
  rw [Kit.nums_get s i h]
theorem str_nums (s : ByteArray) : strOfNums (Kit.nums s) = s := by
  apply ByteArray.ext
  apply Array.ext'
  simp [strOfNums, Kit.nums]
  conv => rhs; rw [← List.map_id s.data.toList]
  apply List.map_congr_left
  intro x _
  apply UInt8.toNat_inj.1
  have := x.toNat_lt
  simp
/-- Neither a quotation mark nor a backslash among the first k bytes. -/
def Cl (s : ByteArray) (k : Nat) : Prop := ∀ i (h : i < s.size), i < k → (s[i].toNat : Int) ≠ 34 ∧ (s[i].toNat : Int) ≠ 92
theorem Cl.names {s : ByteArray} (h : Cl s s.size) : ∀ i, i < (Kit.nums s).length → (Kit.nums s).getD i 0 ≠ 34 ∧ (Kit.nums s).getD i 0 ≠ 92 := by
  intro i hi
  rw [Kit.nums_len] at hi
  rw [nums_get s i hi]
  exact h i hi hi
theorem quoted (s : ByteArray) : Kit.nums (⟨#[34]⟩ ++ s ++ ⟨#[34]⟩) = qn (Kit.nums s) := by
  rw [nums_app, nums_app]
  rfl
set_option maxHeartbeats 8000000 in
set_option maxRecDepth 100000 in
theorem law_c (a b x y : ByteArray) (w : World) (ha : a.size ≤ 140737488351232) (hb : b.size ≤ 140737488351232) (hx : x.size ≤ 140737488351232) (hy : y.size ≤ 140737488351232) :
    Calls Tryd.prog 7 #[.string a, .string b, .string x, .string y] w fun e w' => e = .returned (.bool true) ∧ Below w.heap.size w w' := by
  have HD : Hid (∀ W, Cl a a.size → Cl b b.size → a.size + b.size + x.size + y.size ≤ 4096 → Calls Tryd.prog 23 #[.string (⟨#[34]⟩ ++ a ++ ⟨#[34]⟩), .string (⟨#[34]⟩ ++ b ++ ⟨#[34]⟩), .string x, .string y, .bool false] W fun e w' => e = .returned (.bool (Op.bytesLess a.toList b.toList)) ∧ Below W.heap.size W w') := Lib.hid (fun W ca cb hs => by
    have := prLess_c (⟨#[34]⟩ ++ a ++ ⟨#[34]⟩) (⟨#[34]⟩ ++ b ++ ⟨#[34]⟩) x y (Kit.nums a) (Kit.nums b) W (quoted a) (quoted b) ca.names cb.names (by rw [Kit.nums_len]; omega) (by rw [Kit.nums_len]; omega) (by omega) (by omega)
    rwa [str_nums, str_nums] at this)
  by_cases z1 : 2147483647 < a.size
  · go_enter Tryd.func7, Tryd.ntmps7
    go_wp2
    go_ret
    exact ⟨rfl, Below.refl _ _⟩
  by_cases z2 : 2147483647 < b.size
  · go_enter Tryd.func7, Tryd.ntmps7
    go_wp2
    go_ret
    exact ⟨rfl, Below.refl _ _⟩
  by_cases z3 : 2147483647 < x.size
  · go_enter Tryd.func7, Tryd.ntmps7
    go_wp2
    go_ret
    exact ⟨rfl, Below.refl _ _⟩
  by_cases z4 : 2147483647 < y.size
  · go_enter Tryd.func7, Tryd.ntmps7
    go_wp2
    go_ret
    exact ⟨rfl, Below.refl _ _⟩
  go_enter Tryd.func7, Tryd.ntmps7
  go_wp2
  go_loop [34] (fun v => ∃ k : Nat, k ≤ 2 ∧ v = .int .i64 k ∧ Hid (1 ≤ k → Cl a a.size) ∧ Hid (2 ≤ k → Cl b b.size)) (fun v => 2 - (intOf v).toNat)
  case atStart => exact ⟨0, by omega, rfl, Lib.hid (fun h => absurd h (by omega)), Lib.hid (fun h => absurd h (by omega))⟩
  case round =>
    obtain ⟨k, hk, rfl, HA, HB⟩ := hrel
    by_cases hk2 : k = 2
    · subst hk2
      have CA := Lib.hid (HA.out (by omega))
      have CB := Lib.hid (HB.out (by omega))
      clear HA HB hk
      by_cases hs : a.size + b.size + x.size + y.size ≤ 4096
      · go_wp2_with (go_at_call 23; refine (HD.out _ CA.out CB.out hs).mono ?_; rintro e w1 ⟨rfl, hb1⟩)
        go_ret
        exact ⟨rfl, ((Below.refl _ _).alloc (Nat.le_refl _) _).trans (hb1.mono (by simp))⟩
      · go_wp2
        go_ret
        exact ⟨rfl, (Below.refl _ _).alloc (Nat.le_refl _) _⟩
    by_cases hk1 : k = 1
    · subst hk1
      clear hk2 hk
      go_wp2
      go_loop [11] (fun v => ∃ i : Nat, i ≤ b.size ∧ v = .int .i64 i ∧ Hid (Cl b i)) (fun v => b.size - (intOf v).toNat)
      case atStart => exact ⟨0, by omega, rfl, Lib.hid (fun i h h2 => absurd h2 (by omega))⟩
      case round =>
        obtain ⟨i, hi, rfl, HC⟩ := hrel
        by_cases hlt : i < b.size
        · by_cases h34 : (b[i].toNat : Int) = 34
          · clear HC HA HB
            go_wp2
            go_ret
            exact ⟨rfl, (Below.refl _ _).alloc (Nat.le_refl _) _⟩
          by_cases h92 : (b[i].toNat : Int) = 92
          · clear HC HA HB
            go_wp2
            go_ret
            exact ⟨rfl, (Below.refl _ _).alloc (Nat.le_refl _) _⟩
          have HC2 : Hid (Cl b (i + 1)) := Lib.hid (fun j h h2 => by
            by_cases hj : j < i
            · exact HC.out j h hj
            · obtain rfl : j = i := by omega
              exact ⟨h34, h92⟩)
          have e34 : ((b[i].toNat : Int) == 34) = false := beq_false_of_ne h34
          have e92 : ((b[i].toNat : Int) == 92) = false := beq_false_of_ne h92
          clear HC h34 h92
          go_wp2
          go_round
          case rel => exact ⟨i + 1, by omega, by go_num, HC2⟩
          case measure => simp [intOf]; omega
        · obtain rfl : i = b.size := by omega
          clear hlt hi
          go_wp2
          go_round
          case rel => exact ⟨2, by omega, rfl, Lib.hid (fun _ => HA.out (by omega)), Lib.hid (fun _ => HC.out)⟩
          case measure => simp [intOf]
    · obtain rfl : k = 0 := by omega
      clear hk2 hk1 hk
      go_wp2
      go_loop [11] (fun v => ∃ i : Nat, i ≤ a.size ∧ v = .int .i64 i ∧ Hid (Cl a i)) (fun v => a.size - (intOf v).toNat)
      case atStart => exact ⟨0, by omega, rfl, Lib.hid (fun i h h2 => absurd h2 (by omega))⟩
      case round =>
        obtain ⟨i, hi, rfl, HC⟩ := hrel
        by_cases hlt : i < a.size
        · by_cases h34 : (a[i].toNat : Int) = 34
          · clear HC HA HB
            go_wp2
            go_ret
            exact ⟨rfl, (Below.refl _ _).alloc (Nat.le_refl _) _⟩
          by_cases h92 : (a[i].toNat : Int) = 92
          · clear HC HA HB
            go_wp2
            go_ret
            exact ⟨rfl, (Below.refl _ _).alloc (Nat.le_refl _) _⟩
          have HC2 : Hid (Cl a (i + 1)) := Lib.hid (fun j h h2 => by
            by_cases hj : j < i
            · exact HC.out j h hj
            · obtain rfl : j = i := by omega
              exact ⟨h34, h92⟩)
          have e34 : ((a[i].toNat : Int) == 34) = false := beq_false_of_ne h34
          have e92 : ((a[i].toNat : Int) == 92) = false := beq_false_of_ne h92
          clear HC h34 h92
          go_wp2
          go_round
          case rel => exact ⟨i + 1, by omega, by go_num, HC2⟩
          case measure => simp [intOf]; omega
        · obtain rfl : i = a.size := by omega
          clear hlt hi
          go_wp2
          go_round
          case rel => exact ⟨1, by omega, rfl, Lib.hid (fun _ => HC.out), Lib.hid (fun h => absurd h (by omega))⟩
          case measure => simp [intOf]
theorem pl_walk (a b x y : ByteArray) (w : World) (ha : a.size ≤ 140737488351232) (hb : b.size ≤ 140737488351232) (hx : x.size ≤ 140737488351232) (hy : y.size ≤ 140737488351232) (_hL : laidMetH Tryd.prog Rows.fnPrLessNamesRow.laid w) :
    Calls Tryd.prog 7 #[.string a, .string b, .string x, .string y] w fun e w' => e = .returned (.bool true) ∧ Below w.heap.size w w' := law_c a b x y w ha hb hx hy
end Go.Proofs.YtphpjboljlkdkaaDoor.Pl
