/- The reference's reader of JSON texts, walked by hand: values, members, elements, a whole text. -/
import Derived.Test.YtgbliniamkpocaaDoorJpRdb
import Derived.Test.YtgbliniamkpocaaDoorJpUqa
namespace Go.Proofs.YtgbliniamkpocaaDoor.Jp
open Go.RowKit Go.Proofs.YtgbliniamkpocaaDoorW.PrintWords Go.Proofs.YtgbliniamkpocaaDoor.Kit Go.Proofs.YtgbliniamkpocaaDoor.Pure Go.Proofs.YtgbliniamkpocaaDoor.PPl

theorem R_gr {α : Type} {d : Kd α} {e g : Nat} {w w1 : World} {base : Nat} {ok : Nat → Prop} {v : Value} {xs : List α} (h : d.R e w base ok v xs) (hg : Gr g w w1) (hb : g < base) : d.R e w1 base ok v xs :=
  Kd.R_mono (Kd.R_step (Kd.R_bound h) (fun k hk hlt => hg.1.block k hlt (fun he => by have := hk.2.1; have := Option.some.inj he; omega))) (fun _ hk => hk.1)
/-- Names and kids that a call has made. -/
def Mk (w w1 : World) (v3 v4 : Value) (ns : List S72) (ks : List S35) : Prop :=
  k72.R 72 w1 w.heap.size (fun _ => True) v3 ns ∧ k35.R 35 w1 w.heap.size (fun k => some k ≠ v3.ownBlock) v4 ks
def nilV : Value := .slice none 0 0
/-- What a value comes to. -/
def ValP (g : Nat) (s : ByteArray) (i : Nat) (w : World) (e : Ending) (w' : World) : Prop :=
  (∃ (p : S35) (A3 A4 : Option Addr) (c3 c4 j : Nat), e = .returned (.tuple #[.agg #[.int .i64 p.f0, .int .i64 p.f1, .int .i64 p.f2, .slice A3 p.f3.length c3, .slice A4 p.f4.length c4], .bool true]) ∧ Went g s w w' j ∧ (∃ n, val (Kit.nums s) n i = some (p, j)) ∧ Mk w w' (.slice A3 p.f3.length c3) (.slice A4 p.f4.length c4) p.f3 p.f4) ∨
  (∃ (k b e2 : Int) (j : Nat), e = .returned (.tuple #[.agg #[.int .i64 k, .int .i64 b, .int .i64 e2, .slice none 0 0, .slice none 0 0], .bool false]) ∧ Went g s w w' j)
def MemP (g : Nat) (s : ByteArray) (i : Nat) (w : World) (e : Ending) (w' : World) : Prop :=
  (∃ (ns : List S72) (ks : List S35) (A3 A4 : Option Addr) (c3 c4 j : Nat), e = .returned (.tuple #[.slice A3 ns.length c3, .slice A4 ks.length c4, .bool true]) ∧ Went g s w w' j ∧ (∃ n, mem0 (Kit.nums s) n i = some (ns, ks, j)) ∧ Mk w w' (.slice A3 ns.length c3) (.slice A4 ks.length c4) ns ks) ∨
  (∃ j : Nat, e = .returned (.tuple #[.slice none 0 0, .slice none 0 0, .bool false]) ∧ Went g s w w' j)
def EltP (g : Nat) (s : ByteArray) (i : Nat) (w : World) (e : Ending) (w' : World) : Prop :=
  (∃ (ks : List S35) (A4 : Option Addr) (c4 j : Nat), e = .returned (.tuple #[.slice A4 ks.length c4, .bool true]) ∧ Went g s w w' j ∧ (∃ n, elt0 (Kit.nums s) n i = some (ks, j)) ∧ k35.R 35 w' w.heap.size (fun _ => True) (.slice A4 ks.length c4) ks) ∨
  (∃ j : Nat, e = .returned (.tuple #[.slice none 0 0, .bool false]) ∧ Went g s w w' j)
/-- The elements' loop, ahead of an element. -/
structure EltI (g : Nat) (s : ByteArray) (i : Nat) (w wc : World) (v : Value) (ks : List S35) (j : Nat) : Prop where
  went : Went g s w wc j
  le : j ≤ s.size
  few : ks.length ≤ j
  R : k35.R 35 wc w.heap.size (fun _ => True) v ks
  on : ∀ n r, elts (Kit.nums s) n j ks = some r → ∃ n', elt0 (Kit.nums s) n' i = some r
theorem Went.below {g i : Nat} {s : ByteArray} {w w1 w2 : World} (h : Went g s w w1 i) (hb : Below w1.heap.size w1 w2) : Went g s w w2 i := ⟨blk_below h.1 hb, h.2.trans (Gr.of_below g hb)⟩
theorem Went.alloc {g i : Nat} {s : ByteArray} {w w1 : World} (h : Went g s w w1 i) (o : Obj) : Went g s w (w1.alloc o) i := h.below (below_alloc (Below.refl _ _) o)
theorem Went.size {g i : Nat} {s : ByteArray} {w w1 : World} (h : Went g s w w1 i) : w.heap.size ≤ w1.heap.size := h.2.1.size
theorem alloc_size (w : World) (o : Obj) : (w.alloc o).heap.size = w.heap.size + 1 := by simp
theorem al_eval {w : World} {o : Obj} {v : Value} (h : v = .slice (some ⟨w.heap.size + 1, 0, none⟩) 1 1) : v = .slice (some ⟨(w.alloc o).heap.size, 0, none⟩) 1 1 := by rw [alloc_size]; exact h
theorem Went.far {g i : Nat} {s : ByteArray} {w w1 w2 : World} (h : Went g s w w1 i) (hg : g < w.heap.size) (hb : Below w.heap.size w1 w2) : Went g s w w2 i :=
  ⟨(hb.block g hg).trans h.1, ⟨⟨hb.os.trans h.2.1.os, hb.tape.trans h.2.1.tape, hb.output.trans h.2.1.output, Nat.le_trans h.size hb.size, fun k hk hn => (hb.block k hk).trans (h.2.1.block k hk hn)⟩, fun cs t fr hc => by
    obtain ⟨c1, e1, z1⟩ := h.2.2 cs t fr hc
    exact ⟨c1, (hb.block g hg).trans e1, z1⟩⟩⟩
/-- What a call has made since is not in a row that stood before. -/
theorem Mk.apart {α : Type} {d : Kd α} {e : Nat} {wr w3 : World} {base : Nat} {ok : Nat → Prop} {u v3 v4 : Value} {us : List α} {ns : List S72} {ks : List S35} (h : Mk wr w3 v3 v4 ns ks) (hu : d.R e wr base ok u us) (hb : base ≤ wr.heap.size) (o : Obj) :
    k72.R 72 (w3.alloc o) base (fun k => some k ≠ u.ownBlock) v3 ns ∧ k35.R 35 (w3.alloc o) base (fun k => some k ≠ u.ownBlock) v4 ks :=
  ⟨Kd.R_alloc (Kd.R_mono (Kd.R_lower (Kd.R_new' h.1 (Kd.R_lt hu)) hb) (fun _ hk => hk.2)) o, Kd.R_alloc (Kd.R_mono (Kd.R_lower (Kd.R_new' h.2 (Kd.R_lt hu)) hb) (fun _ hk => hk.2)) o⟩
set_option maxHeartbeats 16000000 in
set_option maxRecDepth 100000 in
theorem elements_c {g i : Nat} {s : ByteArray} {w : World} (hV : ∀ (j : Nat) (w1 : World), i < j → j ≤ s.size → Rdr w1 g s j → Calls Tryd.prog 48 #[.pointer (some ⟨g, 0, none⟩)] w1 (ValP g s j w1)) (hR : Rdr w g s i) (hi : i < s.size) (hs : s.size ≤ 1000000000000) :
    Calls Tryd.prog 64 #[.pointer (some ⟨g, 0, none⟩)] w (EltP g s i w) := by
  have HV := Lib.hid hV
  have HR := Lib.hid hR
  have HL := Lib.hid hR.lt
  have c1 := hR.c1
  have f1 := hR.f1
  have hs2 : s.size ≤ 140737488355000 := by omega
  have hu35 := Tryd.underlying35
  obtain ⟨L, hL⟩ : ∃ L, Kit.nums s = L := ⟨_, rfl⟩
  have hlen : L.length = s.size := by rw [← hL, nums_len]
  clear hV hR
  go_enter Tryd.func64, Tryd.ntmps64
  go_wp2_with fail
  have HW0 : Hid (Went g s w (w.setCell ⟨g, 1, none⟩ (.int .i64 ((i : Int) + 1))) (i + 1)) := Lib.hid (Went.refl HR.out).inc
  refine (blanks_c HW0.out.rd hi hs2).mono ?_
  rintro e1 w1 ⟨rfl, hw1⟩
  have HW1 := Lib.hid (HW0.out.trans hw1)
  clear hw1 HW0 c1 f1
  go_wp2_with fail
  refine (take_c 93 HW1.out.rd hs2).mono ?_
  rintro e2 w2 ⟨b2, j2, rfl, hw2, (⟨rfl, h2, rfl⟩ | ⟨rfl, h2, rfl⟩)⟩
  · have HW2 := Lib.hid (HW1.out.trans hw2)
    have HE : Hid (elt0 (Kit.nums s) 1 i = some ([], bl (Kit.nums s) (i + 1) + 1)) := Lib.hid (by rw [elt0, if_pos h2])
    clear hw2 HW1 h2
    go_wp2_with fail
    go_ret2
    exact .inl ⟨[], none, 0, _, rfl, HW2.out, ⟨1, HE.out⟩, Kd.R_nil _ _ _ _ _⟩
  · have HW2 := Lib.hid (HW1.out.trans hw2)
    have HE : Hid (∀ n r, elts (Kit.nums s) n (bl (Kit.nums s) (i + 1)) [] = some r → ∃ n', elt0 (Kit.nums s) n' i = some r) := Lib.hid (fun n r hr => ⟨n + 1, by rw [elt0, if_neg h2]; exact hr⟩)
    have hb := bl_le L (i + 1) (by omega)
    rw [← hL, nums_len] at hb
    clear hw2 HW1 h2 hL hlen
    go_wp2_with fail
    go_loopw [4] (fun v wc => ∃ (A : Option Addr) (ks : List S35) (c j : Nat), v = .slice A ks.length c ∧ i < j ∧ Hid (EltI g s i w wc v ks j)) (fun _ wc => s.size - rAt wc g)
    case atStart => exact ⟨none, [], 0, _, rfl, hb.1, Lib.hid ⟨HW2.out, hb.2, Nat.zero_le _, Kd.R_nil _ _ _ _ _, HE.out⟩⟩
    case round =>
      clear HE HW2 hb
      obtain ⟨A, ks, c, j, rfl, hij, HI⟩ := hrel
      have HM := Lib.hid (rAt_of HI.out.went.rd)
      go_wp2_with fail
      refine (HV.out j _ hij HI.out.le HI.out.went.rd).mono ?_
      rintro e3 w3 (⟨p, A3, A4, c3, c4, j3, rfl, hw3, hv, hmk⟩ | ⟨k0, b0, e0, j3, rfl, hw3⟩)
      · have HW3 := Lib.hid (HI.out.went.trans hw3)
        obtain ⟨n3, hv⟩ := hv
        have hj3 := (v_lt n3).1 j p j3 (by rw [nums_len]; exact HI.out.le) hv
        rw [nums_len] at hj3
        have HR0 : Hid (k35.R 35 w3 w.heap.size (fun _ => True) (.slice A ks.length c) ks) := Lib.hid (R_gr HI.out.R hw3.gr HL.out)
        have HP := Lib.hid (fun o => hmk.apart HI.out.R HI.out.went.size o)
        have HM5 : Hid (∀ o, k35.M (w3.alloc o) w.heap.size (fun k_ => some k_ ≠ (Value.slice A ks.length c).ownBlock) p [.int .i64 p.f0, .int .i64 p.f1, .int .i64 p.f2, .slice A3 p.f3.length c3, .slice A4 p.f4.length c4]) := Lib.hid (fun o => k35_mkM _ _ _ p (HP.out o).1 (HP.out o).2)
        have HN : Hid (val (Kit.nums s) n3 j = some (p, j3)) := Lib.hid hv
        have HK : Hid (ks.length ≤ 1000000000000) := Lib.hid (by have := HI.out.few; omega)
        clear hv hmk hw3
        go_wp2_with ((with_reducible refine gate_builtin (b := .append) (xs := #[.tmp 25, .tmp 27]) rfl ?_); at_builtin; refine Kd.R_append k35 w.heap.size rfl (.tmp 25) (.tmp 27) 33 35 (.agg #[(.int .i64 0), (.int .i64 0), (.int .i64 0), (.slice none 0 0), (.slice none 0 0)]) 72 rfl Tryd.underlying33 info35 rfl (by decide) (by omega) (.slice A ks.length c) ks p [.int .i64 p.f0, .int .i64 p.f1, .int .i64 p.f2, .slice A3 p.f3.length c3, .slice A4 p.f4.length c4] (fun _ => True) (fun k_ => some k_ ≠ (Value.slice A ks.length c).ownBlock) rfl ?aX ?aP (fun _ hk => ⟨trivial, hk⟩) (fun _ _ => trivial) ?aO (Below.refl _ _) ?aS ?aL ?_; (case aX => exact al_eval rfl); (case aP => exact HM5.out _); (case aO => exact Kd.R_alloc HR0.out _); (case aS => exact (HW3.out.alloc _).size); (case aL => have := HK.out; omega); intro v5 w5 ho hb hg hat; have HR5 := Lib.hid ho; have HB5 := Lib.hid hb; clear ho hb hg hat)
        have HW5 : Hid (Went g s w w5 j3) := Lib.hid ((HW3.out.alloc _).far HL.out HB5.out)
        clear HR0 HP HM5 HW3 HB5
        refine (blanks_c HW5.out.rd hj3.2 hs2).mono ?_
        rintro e6 w6 ⟨rfl, hw6⟩
        have HW6 := Lib.hid (HW5.out.trans hw6)
        have HR6 : Hid (k35.R 35 w6 w.heap.size (fun _ => True) v5 (ks ++ [p])) := Lib.hid (R_gr HR5.out hw6.gr HL.out)
        clear hw6 HW5 HR5
        go_wp2_with fail
        refine (take_c 93 HW6.out.rd hs2).mono ?_
        rintro e7 w7 ⟨b7, j7, rfl, hw7, (⟨rfl, h7, rfl⟩ | ⟨rfl, h7, rfl⟩)⟩
        · have HW7 := Lib.hid (HW6.out.trans hw7)
          have HR7 : Hid (k35.R 35 w7 w.heap.size (fun _ => True) v5 (ks ++ [p])) := Lib.hid (R_gr HR6.out hw7.gr HL.out)
          have HE : Hid (∃ n', elt0 (Kit.nums s) n' i = some (ks ++ [p], bl (Kit.nums s) j3 + 1)) := Lib.hid (HI.out.on (n3 + 1) _ (by rw [elts, HN.out]; simp only; rw [if_pos h7]))
          clear hw7 h7 HW6 HR6 HN HI
          go_wp2_with fail
          obtain ⟨A5, c5, rfl⟩ := Kd.R_slice HR7.out
          go_ret2
          exact .inl ⟨ks ++ [p], A5, c5, _, rfl, HW7.out, HE.out, HR7.out⟩
        have HW7 := Lib.hid (HW6.out.trans hw7)
        have HR7 : Hid (k35.R 35 w7 w.heap.size (fun _ => True) v5 (ks ++ [p])) := Lib.hid (R_gr HR6.out hw7.gr HL.out)
        have H7 := Lib.hid h7
        clear hw7 h7 HW6 HR6
        go_wp2_with fail
        refine (take_c 44 HW7.out.rd hs2).mono ?_
        rintro e8 w8 ⟨b8, j8, rfl, hw8, (⟨rfl, h8, rfl⟩ | ⟨rfl, h8, rfl⟩)⟩
        · have HW8 := Lib.hid (HW7.out.trans hw8)
          have HR8 : Hid (k35.R 35 w8 w.heap.size (fun _ => True) v5 (ks ++ [p])) := Lib.hid (R_gr HR7.out hw8.gr HL.out)
          have hb8 : bl (Kit.nums s) j3 + 1 ≤ s.size := by have := h8.1; rwa [nums_len] at this
          have hbl := bl_le (Kit.nums s) j3 (by rw [nums_len]; exact hj3.2)
          have HE : Hid (∀ n r, elts (Kit.nums s) n (bl (Kit.nums s) (bl (Kit.nums s) j3 + 1)) (ks ++ [p]) = some r → ∃ n', elt0 (Kit.nums s) n' i = some r) := Lib.hid (fun n r hr => HI.out.on (max n n3 + 1) _ (by
            rw [elts, val_up HN.out (Nat.le_max_right n n3)]
            simp only
            rw [if_neg H7.out, if_pos h8]
            exact elts_up hr (Nat.le_max_left n n3)))
          have HF : Hid (ks.length ≤ j) := Lib.hid HI.out.few
          clear hw8 h8 HW7 HR7 H7 HN HI
          go_wp2_with fail
          refine (blanks_c HW8.out.rd hb8 hs2).mono ?_
          rintro e9 w9 ⟨rfl, hw9⟩
          have HW9 := Lib.hid (HW8.out.trans hw9)
          have HR9 : Hid (k35.R 35 w9 w.heap.size (fun _ => True) v5 (ks ++ [p])) := Lib.hid (R_gr HR8.out hw9.gr HL.out)
          have hb9 := bl_le (Kit.nums s) (bl (Kit.nums s) j3 + 1) (by rw [nums_len]; exact hb8)
          rw [nums_len] at hb9
          clear hw9 HW8 HR8
          obtain ⟨A5, c5, rfl⟩ := Kd.R_slice HR9.out
          go_wp2_with fail
          go_round
          case rel => exact ⟨A5, ks ++ [p], c5, _, by rw [List.length_append]; rfl, by omega, Lib.hid ⟨HW9.out, hb9.2, by have := HF.out; rw [List.length_append]; simp; omega, by have := HR9.out; rw [List.length_append] at this; exact this, HE.out⟩⟩
          case measure =>
            have := HM.out
            have := rAt_of HW9.out.rd
            omega
        · have HW8 := Lib.hid (HW7.out.trans hw8)
          clear hw8 h8 HW7 HR7 H7 HN HI
          go_wp2_with fail
          go_ret2
          exact .inr ⟨_, rfl, HW8.out⟩
      · have HW3 := Lib.hid (HI.out.went.trans hw3)
        clear hw3
        go_wp2_with fail
        go_ret2
        exact .inr ⟨j3, rfl, HW3.out.alloc _⟩
/-- Names and kids of the call's own. -/
structure MR (B : Nat) (w : World) (v5 v6 : Value) (ns : List S72) (ks : List S35) : Prop where
  RN : k72.R 72 w B (fun _ => True) v5 ns
  RK : k35.R 35 w B (fun k => some k ≠ v5.ownBlock) v6 ks
theorem MR.gr {B g : Nat} {w w1 : World} {v5 v6 : Value} {ns : List S72} {ks : List S35} (h : MR B w v5 v6 ns ks) (hg : Gr g w w1) (hb : g < B) : MR B w1 v5 v6 ns ks := ⟨R_gr h.1 hg hb, R_gr h.2 hg hb⟩
theorem MR.alloc {B : Nat} {w : World} {v5 v6 : Value} {ns : List S72} {ks : List S35} (h : MR B w v5 v6 ns ks) (o : Obj) : MR B (w.alloc o) v5 v6 ns ks := ⟨Kd.R_alloc h.1 o, Kd.R_alloc h.2 o⟩
/-- What a call has made since is apart from both. -/
theorem Mk.apart2 {wr w3 : World} {base : Nat} {u v v3 v4 : Value} {us : List S72} {vs : List S35} {ns : List S72} {ks : List S35} (h : Mk wr w3 v3 v4 ns ks) (hm : MR base wr u v us vs) (hb : base ≤ wr.heap.size) (o : Obj) :
    k72.R 72 (w3.alloc o) base (fun k => some k ≠ u.ownBlock ∧ some k ≠ v.ownBlock) v3 ns ∧ k35.R 35 (w3.alloc o) base (fun k => some k ≠ u.ownBlock ∧ some k ≠ v.ownBlock) v4 ks :=
  ⟨Kd.R_alloc (Kd.R_mono (Kd.R_lower (Kd.R_new' (Kd.R_new' h.1 (Kd.R_lt hm.1)) (Kd.R_lt hm.2)) hb) (fun _ hk => ⟨hk.1.2, hk.2⟩)) o, Kd.R_alloc (Kd.R_mono (Kd.R_lower (Kd.R_new' (Kd.R_new' h.2 (Kd.R_lt hm.1)) (Kd.R_lt hm.2)) hb) (fun _ hk => ⟨hk.1.2, hk.2⟩)) o⟩
/-- The members' loop, ahead of a name. -/
structure MemI (g : Nat) (s : ByteArray) (i : Nat) (w wc : World) (v5 v6 : Value) (ns : List S72) (ks : List S35) (j : Nat) : Prop where
  went : Went g s w wc j
  le : j ≤ s.size
  few : ks.length ≤ j ∧ ns.length ≤ j
  R : MR w.heap.size wc v5 v6 ns ks
  on : ∀ n r, mems (Kit.nums s) n j ns ks = some r → ∃ n', mem0 (Kit.nums s) n' i = some r
set_option maxHeartbeats 16000000 in
set_option maxRecDepth 100000 in
theorem members_c {g i : Nat} {s : ByteArray} {w : World} (hV : ∀ (j : Nat) (w1 : World), i < j → j ≤ s.size → Rdr w1 g s j → Calls Tryd.prog 48 #[.pointer (some ⟨g, 0, none⟩)] w1 (ValP g s j w1)) (hR : Rdr w g s i) (hi : i < s.size) (hs : s.size ≤ 1000000000000) :
    Calls Tryd.prog 63 #[.pointer (some ⟨g, 0, none⟩)] w (MemP g s i w) := by
  have HV := Lib.hid hV
  have HR := Lib.hid hR
  have HL := Lib.hid hR.lt
  have c1 := hR.c1
  have f1 := hR.f1
  have hs2 : s.size ≤ 140737488355000 := by omega
  have hu35 := Tryd.underlying35
  have hu72 := Tryd.underlying72
  obtain ⟨L, hL⟩ : ∃ L, Kit.nums s = L := ⟨_, rfl⟩
  have hlen : L.length = s.size := by rw [← hL, nums_len]
  clear hV hR
  go_enter Tryd.func63, Tryd.ntmps63
  go_wp2_with fail
  have HW0 : Hid (Went g s w (w.setCell ⟨g, 1, none⟩ (.int .i64 ((i : Int) + 1))) (i + 1)) := Lib.hid (Went.refl HR.out).inc
  refine (blanks_c HW0.out.rd hi hs2).mono ?_
  rintro e1 w1 ⟨rfl, hw1⟩
  have HW1 := Lib.hid (HW0.out.trans hw1)
  clear hw1 HW0 c1 f1
  go_wp2_with fail
  refine (take_c 125 HW1.out.rd hs2).mono ?_
  rintro e2 w2 ⟨b2, j2, rfl, hw2, (⟨rfl, h2, rfl⟩ | ⟨rfl, h2, rfl⟩)⟩
  · have HW2 := Lib.hid (HW1.out.trans hw2)
    have HE : Hid (mem0 (Kit.nums s) 1 i = some ([], [], bl (Kit.nums s) (i + 1) + 1)) := Lib.hid (by rw [mem0, if_pos h2])
    clear hw2 HW1 h2
    go_wp2_with fail
    go_ret3
    exact .inl ⟨[], [], none, none, 0, 0, _, rfl, HW2.out, ⟨1, HE.out⟩, Kd.R_nil _ _ _ _ _, Kd.R_nil _ _ _ _ _⟩
  · have HW2 := Lib.hid (HW1.out.trans hw2)
    have HE : Hid (∀ n r, mems (Kit.nums s) n (bl (Kit.nums s) (i + 1)) [] [] = some r → ∃ n', mem0 (Kit.nums s) n' i = some r) := Lib.hid (fun n r hr => ⟨n + 1, by rw [mem0, if_neg h2]; exact hr⟩)
    have hb := bl_le L (i + 1) (by omega)
    rw [← hL, nums_len] at hb
    clear hw2 HW1 h2 hL hlen
    go_wp2_with fail
    go_loopw [5, 6] (fun v5 v6 wc => ∃ (A3 A4 : Option Addr) (ns : List S72) (ks : List S35) (c3 c4 j : Nat), v5 = .slice A3 ns.length c3 ∧ v6 = .slice A4 ks.length c4 ∧ i < j ∧ Hid (MemI g s i w wc v5 v6 ns ks j)) (fun _ _ wc => s.size - rAt wc g)
    case atStart => exact ⟨none, none, [], [], 0, 0, _, rfl, rfl, hb.1, Lib.hid ⟨HW2.out, hb.2, ⟨Nat.zero_le _, Nat.zero_le _⟩, ⟨Kd.R_nil _ _ _ _ _, Kd.R_nil _ _ _ _ _⟩, HE.out⟩⟩
    case round =>
      clear HE HW2 hb
      obtain ⟨A, A', ns, ks, c, c', j, rfl, rfl, hij, HI⟩ := hrel
      have HM := Lib.hid (rAt_of HI.out.went.rd)
      have c1 := HI.out.went.rd.c1
      by_cases h34 : gb (Kit.nums s) j = 34
      · have HH : Hid (Calls Tryd.prog 62 #[.pointer (some ⟨g, 0, none⟩)] wr fun e w' => e = .returned (.int .u8 34) ∧ Went g s wr w' j) := Lib.hid (by have := here_c HI.out.went.rd; rw [h34] at this; exact this)
        have hjs : j < s.size := by have := gb_in (L := Kit.nums s) (i := j) (by omega); rwa [nums_len] at this
        have H34 : Hid (at_ (Kit.nums s) j 34) := Lib.hid ⟨by rw [nums_len]; exact hjs, h34⟩
        clear h34
        go_wp2_with fail
        refine HH.out.mono ?_
        rintro e3 w3 ⟨rfl, hw3⟩
        have HW3 := Lib.hid (HI.out.went.trans hw3)
        have HR3 : Hid (MR w.heap.size w3 (.slice A ns.length c) (.slice A' ks.length c') ns ks) := Lib.hid (HI.out.R.gr hw3.gr HL.out)
        clear hw3 c1 HH
        go_wp2_with fail
        refine (quoted_c HW3.out.rd hjs hs2).mono ?_
        rintro e4 w4 (⟨j4, rfl, hw4, hst⟩ | ⟨j4, rfl, hw4⟩)
        · have HW4 := Lib.hid (HW3.out.trans hw4)
          have HR4 : Hid (MR w.heap.size w4 (.slice A ns.length c) (.slice A' ks.length c') ns ks) := Lib.hid (HR3.out.gr hw4.gr HL.out)
          have hj4 := st_le _ _ _ _ (Nat.le_refl _) hst
          rw [nums_len] at hj4
          have HST := Lib.hid hst
          have HK : Hid (ks.length ≤ 1000000000000 ∧ ns.length ≤ 1000000000000) := Lib.hid (by have := HI.out.few; omega)
          have c1 := HW4.out.rd.c1
          clear hw4 hst HW3 HR3
          go_wp2_with ((with_reducible refine gate_builtin (b := .append) (xs := #[.tmp 33, .tmp 40]) rfl ?_); at_builtin; refine Kd.R_append k72 w.heap.size rfl (.tmp 33) (.tmp 40) 32 72 (.agg #[(.int .i64 0), (.int .i64 0)]) 16 rfl Tryd.underlying32 info72 rfl (by decide) (by omega) (.slice A ns.length c) ns (⟨(j : Int), (j4 : Int)⟩ : S72) [.int .i64 (j : Int), .int .i64 (j4 : Int)] (fun _ => True) (fun _ => False) rfl rfl ?aP (fun _ hk => hk.elim) (fun _ _ => trivial) ?aO (Below.refl _ _) ?aS ?aL ?_; (case aP => exact k72_mkM _ _ _ (⟨(j : Int), (j4 : Int)⟩ : S72)); (case aO => exact HR4.out.RN); (case aS => exact HW4.out.size); (case aL => have := HK.out; omega); intro v5 w5 ho hb hg hat; have HR5 : Hid (MR w.heap.size w5 v5 (.slice A' ks.length c') (ns ++ [⟨(j : Int), (j4 : Int)⟩]) ks) := Lib.hid ⟨ho, Kd.R_mono (Kd.R_after (ok := fun _ => True) (Kd.R_mono HR4.out.RK (fun _ hk => ⟨trivial, hk⟩)) hg hat) (fun _ hk => hk.2)⟩; have HB5 := Lib.hid hb; clear ho hb hg hat)
          have HW5 : Hid (Went g s w w5 j4) := Lib.hid (HW4.out.far HL.out HB5.out)
          clear HR4 HW4 HB5 c1
          refine (blanks_c HW5.out.rd hj4.2 hs2).mono ?_
          rintro e6 w6 ⟨rfl, hw6⟩
          have HW6 := Lib.hid (HW5.out.trans hw6)
          have HR6 := Lib.hid (HR5.out.gr hw6.gr HL.out)
          clear hw6 HW5 HR5
          go_wp2_with fail
          refine (take_c 58 HW6.out.rd hs2).mono ?_
          rintro e7 w7 ⟨b7, j7, rfl, hw7, (⟨rfl, h7, rfl⟩ | ⟨rfl, h7, rfl⟩)⟩
          rotate_left
          · have HW7 := Lib.hid (HW6.out.trans hw7)
            clear hw7 h7 HW6 HR6
            go_wp2_with fail
            go_ret3
            exact .inr ⟨_, rfl, HW7.out⟩
          have HW7 := Lib.hid (HW6.out.trans hw7)
          have HR7 := Lib.hid (HR6.out.gr hw7.gr HL.out)
          have H7 := Lib.hid h7
          have hb7 : bl (Kit.nums s) j4 + 1 ≤ s.size := by have := h7.1; rwa [nums_len] at this
          have hb4 := bl_le (Kit.nums s) j4 (by rw [nums_len]; exact hj4.2)
          clear hw7 h7 HW6 HR6
          go_wp2_with fail
          refine (blanks_c HW7.out.rd hb7 hs2).mono ?_
          rintro e8 w8 ⟨rfl, hw8⟩
          have HW8 := Lib.hid (HW7.out.trans hw8)
          have HR8 := Lib.hid (HR7.out.gr hw8.gr HL.out)
          have hb8 := bl_le (Kit.nums s) (bl (Kit.nums s) j4 + 1) (by rw [nums_len]; exact hb7)
          rw [nums_len] at hb8
          clear hw8 HW7 HR7
          obtain ⟨j8, HJ8⟩ : ∃ j8, Hid (bl (Kit.nums s) (bl (Kit.nums s) j4 + 1) = j8) := ⟨_, Lib.hid rfl⟩
          rw [HJ8.out] at HW8 hb8
          go_wp2_with fail
          refine (HV.out j8 _ (by omega) hb8.2 HW8.out.rd).mono ?_
          rintro e9 w9 (⟨p, A3, A4, c3, c4, j9, rfl, hw9, hv, hmk⟩ | ⟨k0, b0, e0, j9, rfl, hw9⟩)
          rotate_left
          · have HW9 := Lib.hid (HW8.out.trans hw9)
            clear hw9 HW8 HR8
            go_wp2_with fail
            go_ret3
            exact .inr ⟨_, rfl, HW9.out.alloc _⟩
          obtain ⟨n9, hv⟩ := hv
          have hj9 := (v_lt n9).1 j8 p j9 (by rw [nums_len]; exact hb8.2) hv
          rw [nums_len] at hj9
          have HW9 := Lib.hid (HW8.out.trans hw9)
          have HR9 := Lib.hid (HR8.out.gr hw9.gr HL.out)
          have HP := Lib.hid (fun o => hmk.apart2 HR8.out HW8.out.size o)
          have HN := Lib.hid hv
          clear hv hmk hw9 HW8 HR8
          go_wp2_with ((with_reducible refine gate_builtin (b := .append) (xs := #[.tmp 56, .tmp 58]) rfl ?_); at_builtin; refine Kd.R_append k35 w.heap.size rfl (.tmp 56) (.tmp 58) 33 35 (.agg #[(.int .i64 0), (.int .i64 0), (.int .i64 0), (.slice none 0 0), (.slice none 0 0)]) 72 rfl Tryd.underlying33 info35 rfl (by decide) (by omega) (.slice A' ks.length c') ks p [.int .i64 p.f0, .int .i64 p.f1, .int .i64 p.f2, .slice A3 p.f3.length c3, .slice A4 p.f4.length c4] (fun k_ => some k_ ≠ v5.ownBlock) (fun k_ => some k_ ≠ v5.ownBlock ∧ some k_ ≠ (Value.slice A' ks.length c').ownBlock) rfl ?aX ?aP (fun _ hk => hk) ?aF ?aO (Below.refl _ _) ?aS ?aL ?_; (case aX => exact al_eval rfl); (case aP => exact k35_mkM _ _ _ p (HP.out _).1 (HP.out _).2); (case aF => exact Kd.fresh' (Kd.R_lt (HR9.out.alloc _).RN)); (case aO => exact (HR9.out.alloc _).RK); (case aS => exact (HW9.out.alloc _).size); (case aL => have := HK.out; omega); intro v10 w10 ho hb hg hat; have HR10 : Hid (MR w.heap.size w10 v5 v10 (ns ++ [⟨(j : Int), (j4 : Int)⟩]) (ks ++ [p])) := Lib.hid ⟨Kd.R_over' (HR9.out.alloc _).RN (Kd.R_typed (HR9.out.alloc _).RK) (by decide) hg, ho⟩; have HB10 := Lib.hid hb; clear ho hb hg hat)
          have HW10 : Hid (Went g s w w10 j9) := Lib.hid ((HW9.out.alloc _).far HL.out HB10.out)
          clear HR9 HW9 HB10 HP
          refine (blanks_c HW10.out.rd hj9.2 hs2).mono ?_
          rintro e11 w11 ⟨rfl, hw11⟩
          have HW11 := Lib.hid (HW10.out.trans hw11)
          have HR11 := Lib.hid (HR10.out.gr hw11.gr HL.out)
          clear hw11 HW10 HR10
          go_wp2_with fail
          refine (take_c 125 HW11.out.rd hs2).mono ?_
          rintro e12 w12 ⟨b12, j12, rfl, hw12, (⟨rfl, h12, rfl⟩ | ⟨rfl, h12, rfl⟩)⟩
          · have HW12 := Lib.hid (HW11.out.trans hw12)
            have HR12 := Lib.hid (HR11.out.gr hw12.gr HL.out)
            have HE : Hid (∃ n', mem0 (Kit.nums s) n' i = some (ns ++ [⟨(j : Int), (j4 : Int)⟩], ks ++ [p], bl (Kit.nums s) j9 + 1)) := Lib.hid (HI.out.on (n9 + 1) _ (by
              rw [mems, if_pos H34.out, HST.out]
              simp only
              rw [if_pos H7.out, HJ8.out, HN.out]
              simp only
              rw [if_pos h12]))
            clear hw12 h12 HW11 HR11 HN HI H7 HST H34
            go_wp2_with fail
            obtain ⟨A5, c5, rfl⟩ := Kd.R_slice HR12.out.RN
            obtain ⟨A6, c6, rfl⟩ := Kd.R_slice HR12.out.RK
            go_ret3
            exact .inl ⟨_, ks ++ [p], A5, A6, c5, c6, _, rfl, HW12.out, HE.out, HR12.out.RN, HR12.out.RK⟩
          have HW12 := Lib.hid (HW11.out.trans hw12)
          have HR12 := Lib.hid (HR11.out.gr hw12.gr HL.out)
          have H12 := Lib.hid h12
          clear hw12 h12 HW11 HR11
          go_wp2_with fail
          refine (take_c 44 HW12.out.rd hs2).mono ?_
          rintro e13 w13 ⟨b13, j13, rfl, hw13, (⟨rfl, h13, rfl⟩ | ⟨rfl, h13, rfl⟩)⟩
          rotate_left
          · have HW13 := Lib.hid (HW12.out.trans hw13)
            clear hw13 h13 HW12 HR12
            go_wp2_with fail
            go_ret3
            exact .inr ⟨_, rfl, HW13.out⟩
          have HW13 := Lib.hid (HW12.out.trans hw13)
          have HR13 := Lib.hid (HR12.out.gr hw13.gr HL.out)
          have hb13 : bl (Kit.nums s) j9 + 1 ≤ s.size := by have := h13.1; rwa [nums_len] at this
          have hb9 := bl_le (Kit.nums s) j9 (by rw [nums_len]; exact hj9.2)
          have HE : Hid (∀ n r, mems (Kit.nums s) n (bl (Kit.nums s) (bl (Kit.nums s) j9 + 1)) (ns ++ [⟨(j : Int), (j4 : Int)⟩]) (ks ++ [p]) = some r → ∃ n', mem0 (Kit.nums s) n' i = some r) := Lib.hid (fun n r hr => HI.out.on (max n n9 + 1) _ (by
            rw [mems, if_pos H34.out, HST.out]
            simp only
            rw [if_pos H7.out, HJ8.out, val_up HN.out (Nat.le_max_right n n9)]
            simp only
            rw [if_neg H12.out, if_pos h13]
            exact mems_up hr (Nat.le_max_left n n9)))
          have HF : Hid (ks.length ≤ j ∧ ns.length ≤ j) := Lib.hid HI.out.few
          clear hw13 h13 HW12 HR12 H12 HN HI H7 HST H34
          go_wp2_with fail
          refine (blanks_c HW13.out.rd hb13 hs2).mono ?_
          rintro e14 w14 ⟨rfl, hw14⟩
          have HW14 := Lib.hid (HW13.out.trans hw14)
          have HR14 := Lib.hid (HR13.out.gr hw14.gr HL.out)
          have hb14 := bl_le (Kit.nums s) (bl (Kit.nums s) j9 + 1) (by rw [nums_len]; exact hb13)
          rw [nums_len] at hb14
          clear hw14 HW13 HR13
          obtain ⟨A5, c5, rfl⟩ := Kd.R_slice HR14.out.RN
          obtain ⟨A6, c6, rfl⟩ := Kd.R_slice HR14.out.RK
          go_wp2_with fail
          go_round
          case rel =>
            have e1 : (ns ++ [(⟨(j : Int), (j4 : Int)⟩ : S72)]).length = ns.length + 1 := by rw [List.length_append]; rfl
            have e2 : (ks ++ [p]).length = ks.length + 1 := by rw [List.length_append]; rfl
            have := HF.out
            refine ⟨A5, A6, _, ks ++ [p], c5, c6, _, by rw [e1], by rw [e2], by omega, Lib.hid ⟨HW14.out, hb14.2, by omega, ?_, HE.out⟩⟩
            have hr := HR14.out
            rw [e1, e2] at hr
            exact hr
          case measure =>
            have := HM.out
            have := rAt_of HW14.out.rd
            omega
        · have HW4 := Lib.hid (HW3.out.trans hw4)
          clear hw4 HW3 HR3
          go_wp2_with fail
          go_ret3
          exact .inr ⟨_, rfl, HW4.out⟩
      · have HH : Hid (Calls Tryd.prog 62 #[.pointer (some ⟨g, 0, none⟩)] wr fun e w' => e = .returned (.int .u8 (gb (Kit.nums s) j)) ∧ Went g s wr w' j) := Lib.hid (here_c HI.out.went.rd)
        obtain ⟨d, hd⟩ : ∃ d, gb (Kit.nums s) j = d := ⟨_, rfl⟩
        rw [hd] at HH h34
        have a0 : (d != 34) = true := by simpa using h34
        clear hd h34
        go_wp2_with fail
        refine HH.out.mono ?_
        rintro e3 w3 ⟨rfl, hw3⟩
        have HW3 := Lib.hid (HI.out.went.trans hw3)
        clear hw3 c1 HH
        go_wp2_with fail
        go_ret3
        exact .inr ⟨_, rfl, HW3.out⟩
end Go.Proofs.YtgbliniamkpocaaDoor.Jp
