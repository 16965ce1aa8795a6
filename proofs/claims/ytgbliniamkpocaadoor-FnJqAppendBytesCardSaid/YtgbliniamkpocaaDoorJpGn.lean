/- The law FnJpGetNested, walked by hand. -/
import Derived.Test.YtgbliniamkpocaaDoorG17
namespace Go.Proofs.YtgbliniamkpocaaDoor.Jp
open Go.RowKit Go.Proofs.YtgbliniamkpocaaDoorW.PrintWords Go.Proofs.YtgbliniamkpocaaDoor.Kit Go.Proofs.YtgbliniamkpocaaDoor.Pure Go.Proofs.YtgbliniamkpocaaDoor.PPl

theorem ld_split {L : List Int} : ∀ (a b : List (List Int)) (p q : S35), Ld L p (a ++ b) q → ∃ p1, Ld L p a p1 ∧ Ld L p1 b q := by
  intro a
  induction a with
  | nil => exact fun b p q h => ⟨p, .nil p, h⟩
  | cons key r ih =>
    intro b p q h
    rw [List.cons_append] at h
    cases h with
    | name _ _ _ m x kid _ h1 h2 h3 h4 h5 h6 =>
      obtain ⟨p1, k1, k2⟩ := ih b kid q h6
      exact ⟨p1, .name p key r m x kid p1 h1 h2 h3 h4 h5 k1, k2⟩
    | elt _ _ _ k kid _ h1 h2 h3 h6 =>
      obtain ⟨p1, k1, k2⟩ := ih b kid q h6
      exact ⟨p1, .elt p key r k kid p1 h1 h2 h3 k1, k2⟩
theorem fnd_nil {L : List Int} {z : Int} (h : Fnd [] L z) : z = 0 := by
  cases h with
  | nil => rfl
  | mk _ _ _ _ hne => exact absurd rfl hne
theorem at_of {L : List Int} {p q : S35} {ks : List ByteArray} (hd : Doc L p) (hL : Ld L p (ks.map Kit.nums) q) : ∃ z b e, At L ks z b e q ∧ q.f1 = (b : Int) ∧ q.f2 = (e : Int) := by
  obtain ⟨z, hF, hb, hz, n', e', hv, hed⟩ := fnd_hit hd hL
  refine ⟨z, Jp.bl L z, e', ⟨hz, rfl, ⟨n', hv⟩, hed, fun h => ?_, f60_c _ ks _ _ (Nat.le_refl _) hF⟩, (val_pos hv).1, (val_pos hv).2⟩
  subst h
  have := fnd_nil hF
  omega
theorem bytes_cut {s : ByteArray} {b e : Nat} : Kit.nums (strOfNums (cutI (Kit.nums s) b e)) = cutI (Kit.nums s) b e :=
  nums_str (fun x hx => by
    have : x ∈ Kit.nums s := List.mem_of_mem_take (List.mem_of_mem_drop hx)
    exact byte_rng s x this)
/-- What stands in a value's own text: the text is one, the keys lead in it to the same value. -/
theorem nest {s : ByteArray} {p1 q : S35} {ks : List ByteArray} {b1 e1 z1 z b e : Nat} {k1 : List ByteArray} {ka : List ByteArray} (h1 : At (Kit.nums s) k1 z1 b1 e1 p1) (ha : At (Kit.nums s) ka z b e q) (hq1 : q.f1 = (b : Int)) (hq2 : q.f2 = (e : Int)) (hL : Ld (Kit.nums s) p1 (ks.map Kit.nums) q) :
    ∃ (q' : S35) (z2 b2 e2 : Nat), At (cutI (Kit.nums s) b1 e1) ks z2 b2 e2 q' ∧ q'.f0 = q.f0 ∧ rawL (cutI (Kit.nums s) b1 e1) (jk q'.f0) b2 e2 = rawL (Kit.nums s) (jk q.f0) b e := by
  obtain ⟨n1, hv1⟩ := h1.v
  have hb1 : b1 ≤ (Kit.nums s).length := by have := bl_le (Kit.nums s) z1 h1.zl; rw [h1.bl] at this; exact this.2
  have hbe := (v_lt n1).1 _ _ _ hb1 hv1
  obtain ⟨p', hv', hsh⟩ := val_win hv1 hb1
  obtain ⟨q', hL', hsq⟩ := hL.shift n1 b1 e1 p' hv1 hb1 (Nat.le_refl _) (Nat.le_refl _) hsh
  have hlen : (cutI (Kit.nums s) b1 e1).length = e1 - b1 := cutI_len hbe.2
  have hd : Doc (cutI (Kit.nums s) b1 e1) p' := by
    have hnb := val_nb hv' (Nat.zero_le _)
    refine ⟨n1, (cutI (Kit.nums s) b1 e1).length, ?_, ?_⟩
    · rw [bl_stop hnb]
      exact hv'
    · rw [bl_stop (by rw [gb_out (Nat.le_refl _)]; decide)]
  obtain ⟨z2, b2, e2, hA, hf1, hf2⟩ := at_of (ks := ks) hd hL'
  refine ⟨q', z2, b2, e2, hA, ?_, ?_⟩
  · cases hsq
    rfl
  · have hk : q'.f0 = q.f0 := by
      cases hsq
      rfl
    have hx1 : q'.f1 = q.f1 - (b1 : Int) ∧ q'.f2 = q.f2 - (b1 : Int) := by
      cases hsq
      exact ⟨rfl, rfl⟩
    obtain ⟨n2, hv2⟩ := hA.v
    have hb2 : b2 ≤ (cutI (Kit.nums s) b1 e1).length := by have := bl_le (cutI (Kit.nums s) b1 e1) z2 hA.zl; rw [hA.bl] at this; exact this.2
    have hbe2 := (v_lt n2).1 _ _ _ hb2 hv2
    have eb : b2 + b1 = b := by omega
    have ee : e2 + b1 = e := by omega
    have hc : cutI (cutI (Kit.nums s) b1 e1) b2 e2 = cutI (Kit.nums s) b e := by rw [cutI_cut (by omega), eb, ee]
    unfold rawL
    rw [hk]
    unfold cutI at hc ⊢
    rw [hc, show e2 - b2 - 1 - 1 = e - b - 1 - 1 by omega]
theorem raw_cut {L : List Int} {k : Int} {b e : Nat} (h : k ≠ 1) : rawL L k b e = cutI L b e := by
  unfold rawL cutI
  rw [if_neg h]
theorem ld_box {L : List Int} {p q : S35} {key : List Int} {r : List (List Int)} (h : Ld L p (key :: r) q) : jk p.f0 ≠ 1 := by
  cases h with
  | name _ _ _ m x kid _ h1 => rw [h1]; decide
  | elt _ _ _ k kid _ h1 => rw [h1]; decide
theorem al_cell {w : World} {a : Addr} {v : Value} (h : w.cell? a = some v) (o : Obj) : (w.alloc o).cell? a = some v := pw_cell_below (below_alloc (Below.refl _ _) o) h
theorem dr_cell {w : World} {a : Addr} {v : Option Value} (h : w.cell? a = v) : w.drew.cell? a = v := h
theorem dr_below {B : Nat} {w w1 : World} (h : Below B w w1) : Below B w w1.drew := h.drew
theorem four_off {w : World} {g b : Nat} {v : Value} (h : w.cell? ⟨g, 1, none⟩ = some v) (hne : g ≠ b) (b0 b1 b2 b3 : Value) :
    ((((w.setCell ⟨b, 0, none⟩ b0).setCell ⟨b, 1, none⟩ b1).setCell ⟨b, 2, none⟩ b2).setCell ⟨b, 3, none⟩ b3).cell? ⟨g, 1, none⟩ = some v := by
  have step : ∀ (w : World) (o : Nat) (x : Value), w.cell? ⟨g, 1, none⟩ = some v → (w.setCell ⟨b, o, none⟩ x).cell? ⟨g, 1, none⟩ = some v := fun w o x h => by
    rw [World.cell?_of_block (w := w) (Below.heap_setCell w ⟨b, o, none⟩ x g hne)]
    exact h
  exact step _ _ _ (step _ _ _ (step _ _ _ (step _ _ _ h)))
set_option maxHeartbeats 16000000 in
set_option maxRecDepth 100000 in
theorem gn_main (s : ByteArray) (K : Option Addr) (ck : Nat) (ks : List ByteArray) (n : Int) (w : World) (hK : KeysR w K ks) (hck : ks.length ≤ ck) (hE : Errs w) (hV : Vars w) :
    Calls Tryd.prog 7 #[.string s, .slice K ks.length ck, .int .i64 n] w fun e w' => e = .returned (.bool true) ∧ Below w.heap.size w w' := by
  have HK := Lib.hid hK
  have HE := Lib.hid hE
  have HV := Lib.hid hV
  have HCk := Lib.hid hck
  have HZ := Lib.hid (fun w1 (h : KeysR w1 K ks) => zf_c K ck ks w1 h)
  clear hK hE hV hck
  by_cases hs : (2147483647 : Int) < s.size
  · have d0 : decide ((2147483647 : Int) < s.size) = true := decide_eq_true hs
    clear hs
    go_enter Tryd.func7, Tryd.ntmps7
    go_wp2
    go_ret
    exact ⟨rfl, Below.refl _ _⟩
  have d0 : decide ((2147483647 : Int) < s.size) = false := decide_eq_false hs
  clear hs
  cases hz : zf ks with
  | false =>
    have HZ2 : Hid (∀ w1, KeysR w1 K ks → Calls Tryd.prog 12 #[.slice K ks.length ck] w1 fun e w' => e = .returned (.bool false) ∧ w' = w1) := Lib.hid (fun w1 h => by have := HZ.out w1 h; rw [hz] at this; exact this)
    clear HZ hz
    go_enter Tryd.func7, Tryd.ntmps7
    go_wp2_with (go_at_call 12; (with_reducible refine (HZ2.out _ HK.out).mono ?_); rintro e w3 ⟨rfl, rfl⟩)
    go_ret
    exact ⟨rfl, Below.refl _ _⟩
  | true =>
    have HZ2 : Hid (∀ w1, KeysR w1 K ks → Calls Tryd.prog 12 #[.slice K ks.length ck] w1 fun e w' => e = .returned (.bool true) ∧ w' = w1) := Lib.hid (fun w1 h => by have := HZ.out w1 h; rw [hz] at this; exact this)
    have HM := Lib.hid (found_c s w K ck ks HK.out (zf_all hz))
    clear HZ hz
    go_enter Tryd.func7, Tryd.ntmps7
    go_upto_region 3 with (go_at_call 12; (with_reducible refine (HZ2.out _ HK.out).mono ?_); rintro e w3 ⟨rfl, hw3⟩; rw [hw3]; clear hw3 w3)
    go_wp2_with fail
    refine HM.out.mono ?_
    clear HM HZ2
    rintro e2 w2 (⟨p, q, A3, A4, c3, c4, rfl, ⟨hd, hs65, _, hL⟩, _, hb2⟩ | ⟨rfl, hb2⟩)
    rotate_left
    · have HB := Lib.hid hb2
      clear hb2
      go_wp2
      go_ret
      exact ⟨rfl, below_alloc_ HB.out _⟩
    have HD := Lib.hid (And.intro hd (And.intro hs65 hL))
    have HB2 := Lib.hid hb2
    clear hd hs65 hL hb2
    by_cases hn0 : n < 0
    · go_wp2
      go_ret
      exact ⟨rfl, below_alloc_ HB2.out _⟩
    by_cases hnl : (ks.length : Int) ≤ n
    · go_wp2
      go_ret
      exact ⟨rfl, below_alloc_ HB2.out _⟩
    obtain ⟨m, rfl⟩ : ∃ m : Nat, n = (m : Int) := ⟨n.toNat, by omega⟩
    have hml : m < ks.length := by omega
    have f0 : decide ((m : Int) < 0) = false := decide_eq_false (by omega)
    have f1 : decide ((ks.length : Int) ≤ (m : Int)) = false := decide_eq_false (by omega)
    clear hn0 hnl
    obtain ⟨ht1, htl, ht2⟩ := keys_take K ks ck m (by omega) HCk.out
    obtain ⟨K', hk1, hk2⟩ := keys_cut K ks ck m (by omega) HCk.out
    rw [List.length_drop] at hk1
    obtain ⟨p1, hL1, hL2⟩ := ld_split ((ks.take m).map Kit.nums) ((ks.drop m).map Kit.nums) p q (by rw [← List.map_append, List.take_append_drop]; exact HD.out.2.2)
    obtain ⟨z1, b1, e1, hA1, hp1, hp2⟩ := at_of HD.out.1 hL1
    obtain ⟨z, b, e0, hA, hq1, hq2⟩ := at_of HD.out.1 HD.out.2.2
    obtain ⟨q2, z2, b2, e2, hA2, hq0, hraw⟩ := nest hA1 hA hq1 hq2 hL2
    have hbox : jk p1.f0 ≠ 1 := by
      rw [List.drop_eq_getElem_cons hml] at hL2
      exact ld_box hL2
    obtain ⟨W3, hW3⟩ : ∃ W3, W3 = w2.alloc (.cells #[.int .i64 q.f0, .int .i64 q.f1, .int .i64 q.f2, .slice A3 q.f3.length c3, .slice A4 q.f4.length c4] 35) := ⟨_, rfl⟩
    have HB3 : Hid (Below w.heap.size w W3) := Lib.hid (by rw [hW3]; exact below_alloc_ HB2.out _)
    have hG1 := jpgetk_c hA1 HD.out.2.1 K ck W3 (ht2 _ (HK.out.below HB3.out)) (by rw [htl]; have := HCk.out; omega) (HE.out.below HB3.out) (HV.out.below HB3.out)
    rw [htl] at hG1
    unfold JgV at hG1
    obtain ⟨v1, hv1⟩ : ∃ v1, strOfNums (rawL (Kit.nums s) (jk p1.f0) b1 e1) = v1 := ⟨_, rfl⟩
    have hnv : Kit.nums v1 = cutI (Kit.nums s) b1 e1 := by rw [← hv1, raw_cut hbox, bytes_cut]
    rw [hv1] at hG1
    have HG1 := Lib.hid hG1
    have hvsz : v1.size ≤ 65536 := by
      rw [← nums_len, hnv]
      have := HD.out.2.1
      unfold cutI
      rw [List.length_drop, List.length_take, nums_len]
      omega
    have HG2 : Hid (∀ W, Below w.heap.size w W → Calls Tryd.prog 16 #[.string v1, .slice K' (ks.length - m) (ck - m)] W (JgV v1 W (jk q2.f0) b2 e2)) := Lib.hid (fun W hW => by
      have h := jpgetk_c (s := v1) (ks := ks.drop m) (by rw [hnv]; exact hA2) hvsz K' (ck - m) W (hk2 _ (HK.out.below hW)) (by rw [List.length_drop]; have := HCk.out; omega) (HE.out.below hW) (HV.out.below hW)
      rw [List.length_drop] at h
      exact h)
    have HG3 : Hid (∀ W, Below w.heap.size w W → Calls Tryd.prog 16 #[.string s, .slice K ks.length ck] W (JgV s W (jk q.f0) b e0)) := Lib.hid (fun W hW => jpgetk_c hA HD.out.2.1 K ck W (HK.out.below hW) HCk.out (HE.out.below hW) (HV.out.below hW))
    unfold JgV at HG2 HG3
    rw [hnv, hraw, hq0] at HG2
    obtain ⟨v2, hv2⟩ : ∃ v2, strOfNums (rawL (Kit.nums s) (jk q.f0) b e0) = v2 := ⟨_, rfl⟩
    rw [hv2] at HG2 HG3
    clear hv2 hraw hq0 hA2 hA hA1 hG1 hL1 hL2 hnv hvsz hbox ht2 hk2 htl hv1 hp1 hp2 hq1 hq2
    obtain ⟨kq, hkq⟩ : ∃ kq, jk q.f0 = kq := ⟨_, rfl⟩
    obtain ⟨k1, hk1'⟩ : ∃ k1, jk p1.f0 = k1 := ⟨_, rfl⟩
    rw [hkq] at HG2 HG3
    rw [hk1'] at HG1
    clear hkq hk1'
    go_wp2_with fail
    rw [← hW3]
    clear hW3
    refine HG1.out.mono ?_
    rintro e4 w4 ⟨rfl, hb4⟩
    have HB4 : Hid (Below w.heap.size w w4) := Lib.hid (below_step HB3.out hb4)
    clear hb4 HG1 HB3 HB2 HD
    obtain ⟨W5, hW5⟩ : ∃ W5, W5 = w4.alloc (.cells #[.string ⟨#[]⟩, .string v1, .int .i64 k1, .int .i64 e1] 39) := ⟨_, rfl⟩
    obtain ⟨g, hg⟩ : ∃ g, g = w4.heap.size := ⟨_, rfl⟩
    have HX : Hid (W5.heap[g]? = some (.cells #[.string ⟨#[]⟩, .string v1, .int .i64 k1, .int .i64 e1] 39 (0, 0))) := Lib.hid (by rw [hW5, hg]; exact blk_new w4 _)
    have HB5 : Hid (Below w.heap.size w W5) := Lib.hid (by rw [hW5]; exact below_alloc_ HB4.out _)
    go_upto_region 7 with (fail)
    rw [← hW5, ← hg]
    clear hW5 hg HB4
    have d1 : W5.cell? ⟨g, 1, none⟩ = some (.string v1) := (blk_cell HX.out 1).trans rfl
    have kp0 : Below W5.heap.size W5 W5.drew := (Below.refl _ _).drew
    have d1d : W5.drew.cell? ⟨g, 1, none⟩ = some (.string v1) := d1
    have hgn : g ≠ W5.heap.size := by have := blk_lt HX.out; omega
    have hgn' : W5.heap.size ≠ g := fun h => hgn h.symm
    go_region_held3 (fun w' => w'.cell? ⟨g, 1, none⟩ = some (.string v1) ∧ Below W5.heap.size W5 w')
      (first | with_reducible exact ⟨d1d, kp0⟩ | with_reducible exact ⟨y1, kp2⟩ | with_reducible exact ⟨al_cell y1 _, below_alloc_ kp2 _⟩ | with_reducible exact ⟨al_cell d1d _, below_alloc_ kp0 _⟩ | with_reducible exact ⟨dr_cell (al_cell d1 _), dr_below (below_alloc_ (Below.refl _ _) _)⟩ | with_reducible exact ⟨four_off y1 hgn _ _ _ _, four_below kp2 (Nat.le_refl _) _ _ _ _⟩)
      (first | (go_at_call 16; (with_reducible refine (HG2.out _ (below_step HB5.out (by first | with_reducible exact kp0 | with_reducible exact dr_below (below_alloc_ (Below.refl _ _) _)))).mono ?_); rintro e6 w6 ⟨rfl, hb6⟩; have y1 := pw_cell_below hb6 (show World.cell? _ _ = some (.string v1) from by first | with_reducible exact d1d | with_reducible exact dr_cell (al_cell d1 _)); have kp2 : Below W5.heap.size W5 w6 := below_step (by first | with_reducible exact kp0 | with_reducible exact dr_below (below_alloc_ (Below.refl _ _) _)) hb6; (try (have hz : w6.heap[W5.heap.size]? = some (.cells #[.string ⟨#[]⟩, .string ⟨#[]⟩, .int .i64 0, .int .i64 0] 39 (0, 0)) := blk_below (show (World.drew (W5.alloc (.cells #[.string ⟨#[]⟩, .string ⟨#[]⟩, .int .i64 0, .int .i64 0] 39))).heap[W5.heap.size]? = _ from blk_new W5 _) hb6; obtain ⟨⟨z0, z1, z2, z3⟩, t0, t1, t2, t3⟩ := four_cells hz))))
    focus
      obtain ⟨W7, hW7⟩ : ∃ W7, W7 = w6.alloc (.cells #[.string ⟨#[]⟩, .string v2, .int .i64 kq, .int .i64 e2] 39) := ⟨_, rfl⟩
      obtain ⟨h, hh⟩ : ∃ h, h = w6.heap.size := ⟨_, rfl⟩
      have HX7 : Hid (W7.heap[h]? = some (.cells #[.string ⟨#[]⟩, .string v2, .int .i64 kq, .int .i64 e2] 39 (0, 0))) := Lib.hid (by rw [hW7, hh]; exact blk_new w6 _)
      have HB7 : Hid (Below w.heap.size w W7) := Lib.hid (by rw [hW7]; exact below_alloc_ (below_step HB5.out kp2) _)
      rw [← hW7, ← hh]
      clear hW7 hh y1 kp2 hb6
    rotate_left
    focus
      obtain ⟨W7, hW7⟩ : ∃ W7, W7 = ((((w6.setCell ⟨W5.heap.size, 0, none⟩ (.string ⟨#[]⟩)).setCell ⟨W5.heap.size, 1, none⟩ (.string v2)).setCell ⟨W5.heap.size, 2, none⟩ (.int .i64 kq)).setCell ⟨W5.heap.size, 3, none⟩ (.int .i64 e2)) := ⟨_, rfl⟩
      obtain ⟨h, hh⟩ : ∃ h, h = W5.heap.size := ⟨_, rfl⟩
      have HX7 : Hid (W7.heap[h]? = some (.cells #[.string ⟨#[]⟩, .string v2, .int .i64 kq, .int .i64 e2] 39 (0, 0))) := Lib.hid (by rw [hW7, hh]; exact four_set hz _ _ _ _)
      have HB7 : Hid (Below w.heap.size w W7) := Lib.hid (below_step HB5.out (by rw [hW7]; exact four_below kp2 (Nat.le_refl _) _ _ _ _))
      rw [← hW7, ← hh]
      clear hW7 hh y1 kp2 hb6 hz z0 z1 z2 z3 t0 t1 t2 t3
    all_goals
      go_wp2_with fail
      refine (HG3.out _ HB7.out).mono ?_
      rintro e8 w8 ⟨rfl, hb8⟩
      obtain ⟨W9, hW9⟩ : ∃ W9, W9 = w8.alloc (.cells #[.string ⟨#[]⟩, .string v2, .int .i64 kq, .int .i64 e0] 39) := ⟨_, rfl⟩
      obtain ⟨i9, hi9⟩ : ∃ i, i = w8.heap.size := ⟨_, rfl⟩
      have HX9 : Hid (W9.heap[i9]? = some (.cells #[.string ⟨#[]⟩, .string v2, .int .i64 kq, .int .i64 e0] 39 (0, 0))) := Lib.hid (by rw [hW9, hi9]; exact blk_new w8 _)
      have HX8 : Hid (W9.heap[h]? = some (.cells #[.string ⟨#[]⟩, .string v2, .int .i64 kq, .int .i64 e2] 39 (0, 0))) := Lib.hid (by rw [hW9]; exact blk_alloc (blk_below HX7.out hb8) _)
      have HB9 : Hid (Below w.heap.size w W9) := Lib.hid (by rw [hW9]; exact below_alloc_ (below_step HB7.out hb8) _)
      go_upto_region 9 with (fail)
      rw [← hW9, ← hi9]
      clear hW9 hi9 hb8
      have m1 : W9.cell? ⟨h, 1, none⟩ = some (.string v2) := (blk_cell HX8.out 1).trans rfl
      have m2 : W9.cell? ⟨h, 2, none⟩ = some (.int .i64 kq) := (blk_cell HX8.out 2).trans rfl
      have n1 : W9.cell? ⟨i9, 1, none⟩ = some (.string v2) := (blk_cell HX9.out 1).trans rfl
      have n2 : W9.cell? ⟨i9, 2, none⟩ = some (.int .i64 kq) := (blk_cell HX9.out 2).trans rfl
      go_wp2
      go_ret
      exact ⟨by simp, HB9.out⟩
theorem gn_walk (s : ByteArray) (K : Option Addr) (ck : Nat) (ks : List ByteArray) (n : Int) (w : World) (_hs : s.size ≤ 140737488351232) (hK : KeysR w K ks) (hck : ks.length ≤ ck) (_hn : (Lit.int .i64 n).wf = true) (hL : laidMetH Tryd.prog Rows.fnJpGetNestedRow.laid w) :
    Calls Tryd.prog 7 #[.string s, .slice K ks.length ck, .int .i64 n] w fun e w' => e = .returned (.bool true) ∧ Below w.heap.size w w' :=
  gn_main s K ck ks n w hK hck
    (errs_all (l := Rows.fnJpGetNestedRow.laid) (by kernel_rfl) (by simp [Rows.fnJpGetNestedRow]) (by simp [Rows.fnJpGetNestedRow]) (by simp [Rows.fnJpGetNestedRow]) (by simp [Rows.fnJpGetNestedRow]) hL)
    (vars_of (l := Rows.fnJpGetNestedRow.laid) (by kernel_rfl) (by simp [Rows.fnJpGetNestedRow]) (by simp [Rows.fnJpGetNestedRow]) (by simp [Rows.fnJpGetNestedRow]) hL)
end Go.Proofs.YtgbliniamkpocaaDoor.Jp
