/- Texts of this claim, laid together. -/
import Derived.Test.YtgbliniamkpocaaDoorJpTree
import Derived.Test.YtgbliniamkpocaaDoorJpFo
import Derived.Test.YtgbliniamkpocaaDoorG17
import Derived.Test.YtgbliniamkpocaaDoorG19
import Derived.Test.YtgbliniamkpocaaDoorJpJq
import Derived.SizedLaws
import Derived.ChangeSlices
/- spec.Tree and spec.Read end at every place of a JSON text. -/
namespace Go.Proofs.YtgbliniamkpocaaDoor.Jp
open Go.RowKit Go.Proofs.YtgbliniamkpocaaDoorW.PrintWords Go.Proofs.YtgbliniamkpocaaDoor.Kit Go.Proofs.YtgbliniamkpocaaDoor.Pure Go.Proofs.YtgbliniamkpocaaDoor.PPl

theorem uq_ok {s : ByteArray} {x : S72} (h : NmG (Kit.nums s) x) (hs : s.size ≤ 1000000000000) : ∃ (a c : Nat) (r : ByteArray), x = ⟨(a : Int), (c : Int)⟩ ∧ a ≤ c ∧ c ≤ s.size ∧ uqF (s.extract a c) = some r := by
  obtain ⟨a, c, r, hx, h1, h2, h3, h4, _⟩ := nm_cmp (key := s) h
  refine ⟨a, c, strOfNums r, hx, h1, h2, ?_⟩
  unfold uqF
  rw [if_pos ⟨h3, by simp; omega⟩, h4]
  rfl
theorem val_flat {L : List Int} {n i e : Nat} {p : S35} (h : val L n i = some (p, e)) : (p.f0 ≠ 6 → p.f3 = []) ∧ (p.f0 ≠ 6 → p.f0 ≠ 5 → p.f4 = []) := by
  cases n with
  | zero => simp [val] at h
  | succ n =>
    rw [val] at h
    repeat' split at h
    all_goals first
      | (cases h; done)
      | (obtain ⟨r, hr, hre⟩ := Option.map_eq_some_iff.1 h; simp only [Prod.mk.injEq] at hre; obtain ⟨rfl, rfl⟩ := hre; simp)
      | (injection h with h; simp only [Prod.mk.injEq] at h; obtain ⟨rfl, rfl⟩ := h; simp)
theorem val_str34 {L : List Int} {n i e : Nat} {p : S35} (h : val L n i = some (p, e)) (h4 : p.f0 = 4) : st L (i + 1) = some e := by
  cases n with
  | zero => simp [val] at h
  | succ n =>
    rw [val] at h
    repeat' split at h
    all_goals first
      | (cases h; done)
      | (obtain ⟨r, hr, hre⟩ := Option.map_eq_some_iff.1 h; simp only [Prod.mk.injEq] at hre; obtain ⟨rfl, rfl⟩ := hre; first | (simp at h4; done) | exact hr)
      | (injection h with h; simp only [Prod.mk.injEq] at h; obtain ⟨rfl, rfl⟩ := h; simp at h4; done)
theorem up_f {s : ByteArray} {a b c : Int} {ns : List S72} {ks : List S35} {r : Int × ByteArray × List ByteArray × List S53} {k m : Nat} (h : spec_Tree.f k s a b c ns ks = some r) (hm : k ≤ m) : spec_Tree.f m s a b c ns ks = some r := by
  obtain ⟨d, rfl⟩ := Nat.exists_eq_add_of_le hm
  clear hm
  induction d with
  | zero => exact h
  | succ d ih => exact spec_Tree.mono s a b c ns ks (k + d) r ih
theorem up_l1 {s : ByteArray} {x a b c : Int} {ns : List S72} {ks : List S35} {y : Int} {t : ByteArray} {us : List ByteArray} {vs : List S53} {r : Int × ByteArray × List ByteArray × List S53} {k m : Nat} (h : spec_Tree.l1 k s x a b c ns ks y t us vs = some r) (hm : k ≤ m) : spec_Tree.l1 m s x a b c ns ks y t us vs = some r := by
  obtain ⟨d, rfl⟩ := Nat.exists_eq_add_of_le hm
  clear hm
  induction d with
  | zero => exact h
  | succ d ih => exact (spec_Tree.mono_l (k + d)).2.2.2 s x a b c ns ks y t us vs r ih
theorem up_l0 {s : ByteArray} {x a b c : Int} {ns : List S72} {ks : List S35} {y : Int} {t : ByteArray} {us : List ByteArray} {r : Int × ByteArray × List ByteArray × List S53} {k m : Nat} (h : spec_Tree.l0 k s x a b c ns ks y t us = some r) (hm : k ≤ m) : spec_Tree.l0 m s x a b c ns ks y t us = some r := by
  obtain ⟨d, rfl⟩ := Nat.exists_eq_add_of_le hm
  clear hm
  induction d with
  | zero => exact h
  | succ d ih => exact (spec_Tree.mono_l (k + d)).2.2.1 s x a b c ns ks y t us r ih
section
variable {s : ByteArray} {a b c : Int} {ns : List S72} {ks : List S35} {y : Int} {t : ByteArray}
/-- The kids' loop ends. -/
theorem l1_ok (hK : ∀ (m : Nat) (kid : S35), ks[m]? = some kid → ∃ k r, spec_Tree.f k s kid.f0 kid.f1 kid.f2 kid.f3 kid.f4 = some r) (hl : ks.length ≤ 1000000000000) :
    ∀ (d j : Nat) (us : List ByteArray) (vs : List S53), j + d = ks.length → vs.length = j → ∃ k r, spec_Tree.l1 k s (j : Int) a b c ns ks y t us vs = some r := by
  intro d
  induction d with
  | zero =>
    intro j us vs hj hv
    refine ⟨1, (y, t, us, vs), ?_⟩
    rw [spec_Tree.l1, if_neg (by omega)]
  | succ d ih =>
    intro j us vs hj hv
    obtain ⟨k1, r1, h1⟩ := hK j ks[j] (by simp [show j < ks.length by omega])
    obtain ⟨k2, r2, h2⟩ := ih (j + 1) us (vs ++ [(⟨r1.1, r1.2.1, r1.2.2.1, r1.2.2.2⟩ : S53)]) (by omega) (by simp [hv])
    refine ⟨max k1 k2 + 1, r2, ?_⟩
    have hx : rd_T35 ks (j : Int) = ks[j] := by simp [rd_T35, show j < ks.length by omega]
    rw [spec_Tree.l1, if_pos (by omega), if_pos (by omega), hx, up_f h1 (Nat.le_max_left k1 k2), Option.bind_some, if_pos (by omega), show wrap64 ((j : Int) + 1) = ((j + 1 : Nat) : Int) by unfold wrap64; omega]
    exact up_l1 h2 (Nat.le_max_right k1 k2)
/-- The names' loop ends. -/
theorem l0_ok (hN : ∀ x ∈ ns, NmG (Kit.nums s) x) (hs : s.size ≤ 1000000000000) (hn : ns.length ≤ 1000000000000) (hK : ∀ (m : Nat) (kid : S35), ks[m]? = some kid → ∃ k r, spec_Tree.f k s kid.f0 kid.f1 kid.f2 kid.f3 kid.f4 = some r) (hl : ks.length ≤ 1000000000000) :
    ∀ (d j : Nat) (us : List ByteArray), j + d = ns.length → us.length = j → ∃ k r, spec_Tree.l0 k s (j : Int) a b c ns ks y t us = some r := by
  intro d
  induction d with
  | zero =>
    intro j us hj hu
    obtain ⟨k, r, h⟩ := l1_ok (a := a) (b := b) (c := c) (ns := ns) (y := y) (t := t) hK hl ks.length 0 us [] (by omega) rfl
    refine ⟨k + 1, r, ?_⟩
    rw [spec_Tree.l0, if_neg (by omega)]
    exact h
  | succ d ih =>
    intro j us hj hu
    obtain ⟨e, g, u, hx, h1, h2, h3⟩ := uq_ok (hN ns[j] (List.getElem_mem (by omega))) hs
    obtain ⟨k2, r2, hr2⟩ := ih (j + 1) (us ++ [u]) (by omega) (by simp [hu])
    refine ⟨k2 + 1, r2, ?_⟩
    have hy : rd_T72 ns (j : Int) = ⟨(e : Int), (g : Int)⟩ := by rw [← hx]; simp [rd_T72, show j < ns.length by omega]
    rw [spec_Tree.l0, if_pos (by omega), if_pos (by omega), hy]
    simp only
    rw [if_pos (by omega), if_pos (by omega), if_pos (by omega), Int.toNat_natCast, Int.toNat_natCast]
    unfold spec_Unquote.f
    rw [h3, Option.bind_some, if_pos (by omega), show wrap64 ((j : Int) + 1) = ((j + 1 : Nat) : Int) by unfold wrap64; omega]
    exact hr2
end
theorem kids_len {L : List Int} {n i e : Nat} {p : S35} (h : val L n i = some (p, e)) (hi : i ≤ L.length) : p.f4.length ≤ L.length ∧ p.f3.length ≤ L.length := by
  have he := (v_lt n).1 _ _ _ hi h
  have hf := val_flat h
  by_cases h6 : p.f0 = 6
  · have hg : p.f3.length = p.f4.length := Gd.names ⟨n, i, e, h, hi⟩ h6
    obtain ⟨ha, h1⟩ := val_obj h h6
    have hal := ha.1
    have hb := bl_le L (i + 1) (by omega)
    have : p.f4.length ≤ L.length := by
      rcases h1 with ⟨_, h4, _⟩ | ⟨n2, r, hr, _, e4, ee⟩
      · rw [h4]
        simp
      · have := (kids_le n2).1 _ _ _ _ hb.2 hr
        rw [e4] at this
        simp at this
        omega
    omega
  · have h3 := hf.1 h6
    rw [h3]
    by_cases h5 : p.f0 = 5
    · exact ⟨val_kids h hi h5, by simp⟩
    · rw [hf.2 h6 h5]
      simp
theorem tree_ok {s : ByteArray} (hs : s.size ≤ 1000000000000) : ∀ (d n i e : Nat) (p : S35), val (Kit.nums s) n i = some (p, e) → i ≤ (Kit.nums s).length → e - i ≤ d → ∃ k r, spec_Tree.f k s p.f0 p.f1 p.f2 p.f3 p.f4 = some r := by
  intro d
  induction d with
  | zero =>
    intro n i e p h hi hd
    have := (v_lt n).1 _ _ _ hi h
    omega
  | succ d ih =>
    intro n i e p h hi hd
    have hve := (v_lt n).1 _ _ _ hi h
    have hpos := val_pos h
    have hlen := kids_len h hi
    have hf := val_flat h
    rw [nums_len] at hve hlen
    have hG : Gd (Kit.nums s) p := ⟨n, i, e, h, hi⟩
    have hN : ∀ x ∈ p.f3, NmG (Kit.nums s) x := by
      by_cases h6 : p.f0 = 6
      · exact Gd.nmg hG h6
      · rw [hf.1 h6]
        intro x hx
        cases hx
    have hK : ∀ (m : Nat) (kid : S35), p.f4[m]? = some kid → ∃ k r, spec_Tree.f k s kid.f0 kid.f1 kid.f2 kid.f3 kid.f4 = some r := by
      intro m kid hm
      by_cases h6 : p.f0 = 6
      · obtain ⟨n', b, e', f1, f2, f3, f4, _⟩ := obj_kid h hi h6 hm
        exact ih n' b e' kid f1 f3 (by omega)
      · by_cases h5 : p.f0 = 5
        · obtain ⟨n', b, e', f1, f2, f3, f4, _⟩ := arr_kid h hi h5 hm
          exact ih n' b e' kid f1 f3 (by omega)
        · rw [hf.2 h6 h5] at hm
          simp at hm
    have hj : ∀ (y : Int) (t : ByteArray), ∃ k r, spec_Tree.j0 k s p.f0 p.f1 p.f2 p.f3 p.f4 y t = some r := by
      intro y t
      obtain ⟨k, r, hr⟩ := l0_ok (a := p.f0) (b := p.f1) (c := p.f2) (y := y) (t := t) hN hs (by omega) hK (by omega) p.f3.length 0 [] (by omega) rfl
      refine ⟨k + 1, r, ?_⟩
      rw [spec_Tree.j0]
      exact hr
    by_cases h3 : p.f0 = 3
    · obtain ⟨k, r, hr⟩ := hj p.f0 (s.extract p.f1.toNat p.f2.toNat)
      refine ⟨k + 1, r, ?_⟩
      rw [spec_Tree.f, if_pos h3, if_pos (by omega), if_pos (by omega), if_pos (by omega)]
      exact hr
    by_cases h4 : p.f0 = 4
    · have hst : NmG (Kit.nums s) ⟨p.f1, p.f2⟩ := by
        have h34 := val_str34 h h4
        rw [hpos.1, hpos.2]
        have := st_le _ _ _ _ (Nat.le_refl _) h34
        refine ⟨i, e, rfl, by omega, by rw [nums_len]; omega, ?_⟩
        exact un_ok _ _ _ (Nat.le_refl _) h34
      obtain ⟨a, c, u, hx, h1, h2, h3'⟩ := uq_ok hst hs
      simp only [S72.mk.injEq] at hx
      obtain ⟨k, r, hr⟩ := hj p.f0 u
      refine ⟨k + 1, r, ?_⟩
      rw [spec_Tree.f, if_neg h3, if_pos h4, if_pos (by omega), if_pos (by omega), if_pos (by omega), hx.1, hx.2, Int.toNat_natCast, Int.toNat_natCast]
      unfold spec_Unquote.f
      rw [h3', Option.bind_some, ← hx.1, ← hx.2]
      exact hr
    · obtain ⟨k, r, hr⟩ := hj p.f0 ⟨#[]⟩
      refine ⟨k + 1, r, ?_⟩
      rw [spec_Tree.f, if_neg h3, if_neg h4]
      exact hr
end Go.Proofs.YtgbliniamkpocaaDoor.Jp
/- spec.Read ends, whatever the text. -/
namespace Go.Proofs.YtgbliniamkpocaaDoor.Jp
open Go.RowKit Go.Proofs.YtgbliniamkpocaaDoorW.PrintWords Go.Proofs.YtgbliniamkpocaaDoor.Kit Go.Proofs.YtgbliniamkpocaaDoor.Pure Go.Proofs.YtgbliniamkpocaaDoor.PPl

/-- What Tree comes to. -/
def TrP (w : World) (e : Ending) (w' : World) : Prop :=
  ∃ (k : Int) (t : ByteArray) (A2 A3 : Option Addr) (n2 c2 n3 c3 : Nat), e = .returned (.agg #[.int .i64 k, .string t, .slice A2 n2 c2, .slice A3 n3 c3]) ∧ Below w.heap.size w w'
theorem tree_c {s : ByteArray} (hs : s.size ≤ 1000000000000) (w : World) (p : S35) (A3 A4 : Option Addr) (c3 c4 : Nat) (hC : PlC w p A3 A4) (hc3 : p.f3.length ≤ c3) (hc4 : p.f4.length ≤ c4) (hG : Gd (Kit.nums s) p) :
    Calls Tryd.prog 42 #[.string s, .agg #[.int .i64 p.f0, .int .i64 p.f1, .int .i64 p.f2, .slice A3 p.f3.length c3, .slice A4 p.f4.length c4]] w (TrP w) := by
  obtain ⟨n, i, e, hv, hi⟩ := hG
  obtain ⟨k, ⟨r1, r2, r3, r4⟩, hr⟩ := tree_ok hs (e - i) n i e p hv hi (Nat.le_refl _)
  refine (spec_Tree.calls k s p.f0 p.f1 p.f2 A3 c3 p.f3 A4 c4 p.f4 r1 r2 r3 r4 w hC.ns hc3 hC.ks hc4 hr).mono ?_
  rintro e' w' ⟨v2, v3, rfl, h2, h3, hb⟩
  obtain ⟨K2, c2, rfl⟩ := Kd.R_slice h2
  obtain ⟨K3, c3', rfl⟩ := Kd.R_slice h3
  exact ⟨_, _, _, _, _, _, _, _, rfl, hb⟩
/-- What Read comes to. -/
def RdP (w : World) (e : Ending) (w' : World) : Prop :=
  ∃ (k : Int) (t : ByteArray) (A2 A3 : Option Addr) (n2 c2 n3 c3 : Nat) (ok : Bool), e = .returned (.tuple #[.agg #[.int .i64 k, .string t, .slice A2 n2 c2, .slice A3 n3 c3], .bool ok]) ∧ Below w.heap.size w w'
set_option maxHeartbeats 8000000 in
set_option maxRecDepth 100000 in
theorem read_c (s : ByteArray) (w : World) (hs : s.size ≤ 1000000000000) : Calls Tryd.prog 25 #[.string s] w (RdP w) := by
  have hu1 := Tryd.underlying35
  have hu2 := Tryd.underlying53
  have HP := Lib.hid (fun w1 => places_c s w1 hs)
  have HS := Lib.hid hs
  clear hs
  obtain ⟨W, hW⟩ : ∃ W, W = w.alloc (.cells #[.int .i64 0, .string ⟨#[]⟩, .slice none 0 0, .slice none 0 0] 53) := ⟨_, rfl⟩
  have HQ : Hid (W.heap[w.heap.size]? = some (.cells #[.int .i64 0, .string ⟨#[]⟩, .slice none 0 0, .slice none 0 0] 53 (0, 0))) := Lib.hid (by rw [hW]; exact heap_alloc_new w _)
  have HB : Hid (Below w.heap.size w W) := Lib.hid (by rw [hW]; exact below_alloc (Below.refl _ _) _)
  go_enter Tryd.func25, Tryd.ntmps25
  go_wp2_with fail
  rw [← hW]
  clear hW
  refine (HP.out _).mono ?_
  rintro e2 w2 (⟨p, A3, A4, c3, c4, rfl, hd, hmk, hb2⟩ | ⟨rfl, hb2⟩)
  · have hQ2 : w2.heap[w.heap.size]? = some (.cells #[.int .i64 0, .string ⟨#[]⟩, .slice none 0 0, .slice none 0 0] 53 (0, 0)) := (hb2.block _ (blk_lt HQ.out)).trans HQ.out
    have HB2 : Hid (Below w.heap.size w w2) := Lib.hid (below_step HB.out hb2)
    have HPC : Hid (PlC w2 p A3 A4 ∧ p.f3.length ≤ c3 ∧ p.f4.length ≤ c4 ∧ Gd (Kit.nums s) p) := Lib.hid ⟨⟨(Kd.Q_reads' (Kd.Q_of_R hmk.1)).2.2, (Kd.Q_reads' (Kd.Q_of_R hmk.2)).2.2⟩, (Kd.Q_reads' (Kd.Q_of_R hmk.1)).2.1, (Kd.Q_reads' (Kd.Q_of_R hmk.2)).2.1, Doc.gd hd⟩
    obtain ⟨W3, hW3⟩ : ∃ W3, W3 = w2.alloc (.cells #[.int .i64 p.f0, .int .i64 p.f1, .int .i64 p.f2, .slice A3 p.f3.length c3, .slice A4 p.f4.length c4] 35) := ⟨_, rfl⟩
    obtain ⟨b, hb⟩ : ∃ b, b = w2.heap.size := ⟨_, rfl⟩
    have HX : Hid (Bx W3 b p.f0 p.f1 p.f2 (.slice A3 p.f3.length c3) (.slice A4 p.f4.length c4)) := Lib.hid (by rw [hW3, hb]; exact blk_new w2 _)
    have HB3 : Hid (Below w.heap.size w W3) := Lib.hid (by rw [hW3]; exact below_alloc_ HB2.out _)
    have HQ3 : Hid (W3.heap[w.heap.size]? = some (.cells #[.int .i64 0, .string ⟨#[]⟩, .slice none 0 0, .slice none 0 0] 53 (0, 0))) := Lib.hid (by rw [hW3]; exact blk_alloc hQ2 _)
    have HT := Lib.hid (tree_c HS.out W3 p A3 A4 c3 c4 (HPC.out.1.below (by rw [hW3]; exact below_alloc (Below.refl _ _) _)) HPC.out.2.1 HPC.out.2.2.1 HPC.out.2.2.2)
    clear hd hmk hb2 hQ2 HP
    go_upto_region 4 with (fail)
    rw [← hW3, ← hb]
    clear hW3 hb
    have x0 := HX.out.c0
    have x1 := HX.out.c1
    have x2 := HX.out.c2
    have x3 := HX.out.c3
    have x4 := HX.out.c4
    go_wp2_with fail
    refine HT.out.mono ?_
    rintro e4 w4 ⟨k, t, B2, B3, n2, d2, n3, d3, rfl, hb4⟩
    have HQ4 := Lib.hid ((hb4.block _ (blk_lt HQ3.out)).trans HQ3.out)
    have HB4 : Hid (Below w.heap.size w w4) := Lib.hid (below_step HB3.out hb4)
    clear hb4 HT x0 x1 x2 x3 x4
    obtain ⟨⟨e0, e1, e2, e3⟩, f0, f1, f2, f3⟩ := four_cells HQ4.out
    go_wp2
    exact bodyPost_ret (results_ct rfl _ _ w.heap.size 53 #[.int .i64 k, .string t, .slice B2 n2 d2, .slice B3 n3 d3] (0, 0) _ rfl (four_set HQ4.out _ _ _ _) Tryd.underlying53 rfl rfl) rfl
      ⟨_, _, _, _, _, _, _, _, _, rfl, four_below HB4.out (Nat.le_refl _) _ _ _ _⟩
  · have HQ2 : Hid (w2.heap[w.heap.size]? = some (.cells #[.int .i64 0, .string ⟨#[]⟩, .slice none 0 0, .slice none 0 0] 53 (0, 0))) := Lib.hid ((hb2.block _ (blk_lt HQ.out)).trans HQ.out)
    have HB2 : Hid (Below w.heap.size w w2) := Lib.hid (below_step HB.out hb2)
    have h1 : w.heap.size < w2.heap.size := blk_lt HQ2.out
    have h2 : w.heap.size ≠ w2.heap.size := by omega
    have h3 : w2.heap.size ≠ w.heap.size := by omega
    clear hb2 HP
    obtain ⟨⟨e0, e1, e2, e3⟩, f0, f1, f2, f3⟩ := four_cells HQ2.out
    go_wp2
    exact bodyPost_ret (results_ct rfl _ _ w.heap.size 53 #[.int .i64 0, .string ⟨#[]⟩, .slice none 0 0, .slice none 0 0] (0, 0) _ rfl (blk_alloc (four_set HQ2.out _ _ _ _) _) Tryd.underlying53 rfl rfl) rfl
      ⟨_, _, _, _, _, _, _, _, _, rfl, below_alloc_ (four_below HB2.out (Nat.le_refl _) _ _ _ _) _⟩
end Go.Proofs.YtgbliniamkpocaaDoor.Jp
/- The law FnJqAppendBytes, walked by hand. -/
namespace Go.Proofs.YtgbliniamkpocaaDoor.Jp
open Go.RowKit Go.Proofs.YtgbliniamkpocaaDoorW.PrintWords Go.Proofs.YtgbliniamkpocaaDoor.Kit Go.Proofs.YtgbliniamkpocaaDoor.Pure Go.Proofs.YtgbliniamkpocaaDoor.PPl

set_option maxHeartbeats 16000000 in
set_option maxRecDepth 100000 in
theorem ab_main (s v : ByteArray) (K : Option Addr) (ck : Nat) (ks : List ByteArray) (w : World) (hK : KeysR w K ks) (hck : ks.length ≤ ck) (hE : Errs w) (hV : Vars w) :
    Calls Tryd.prog 9 #[.string s, .string v, .slice K ks.length ck] w fun e w' => e = .returned (.bool true) ∧ Below w.heap.size w w' := by
  have HK := Lib.hid hK
  have HE := Lib.hid hE
  have HV := Lib.hid hV
  have HCk := Lib.hid hck
  have HZ := Lib.hid (fun w1 (h : KeysR w1 K ks) => zf_c K ck ks w1 h)
  clear hK hE hV hck
  by_cases hs : (2147483647 : Int) < s.size
  · have d0 : decide ((2147483647 : Int) < s.size) = true := decide_eq_true hs
    clear hs
    go_enter Tryd.func9, Tryd.ntmps9
    go_wp2
    go_ret
    exact ⟨rfl, Below.refl _ _⟩
  have d0 : decide ((2147483647 : Int) < s.size) = false := decide_eq_false hs
  clear hs
  by_cases hf : (2147483647 : Int) < v.size
  · have d1 : decide ((2147483647 : Int) < v.size) = true := decide_eq_true hf
    clear hf
    go_enter Tryd.func9, Tryd.ntmps9
    go_wp2
    go_ret
    exact ⟨rfl, Below.refl _ _⟩
  have d1 : decide ((2147483647 : Int) < v.size) = false := decide_eq_false hf
  have HR : Hid (∀ W, Calls Tryd.prog 25 #[.string v] W (RdP W)) := Lib.hid (fun W => read_c v W (by omega))
  clear hf
  cases hz : zf ks with
  | false =>
    have HZa : Hid (∀ w1, KeysR w1 K ks → Calls Tryd.prog 12 #[.slice K ks.length ck] w1 fun e w' => e = .returned (.bool false) ∧ w' = w1) := Lib.hid (fun w1 h => by have := HZ.out w1 h; rw [hz] at this; exact this)
    clear HZ hz
    go_enter Tryd.func9, Tryd.ntmps9
    go_wp2_with (go_at_call 12; (with_reducible refine (HZa.out _ HK.out).mono ?_); rintro e w3 ⟨rfl, rfl⟩)
    go_ret
    exact ⟨rfl, Below.refl _ _⟩
  | true =>
  have HZa : Hid (∀ w1, KeysR w1 K ks → Calls Tryd.prog 12 #[.slice K ks.length ck] w1 fun e w' => e = .returned (.bool true) ∧ w' = w1) := Lib.hid (fun w1 h => by have := HZ.out w1 h; rw [hz] at this; exact this)
  have HF := Lib.hid (jqfound_c s w K ck ks HK.out (zf_all hz))
  clear HZ hz
  go_enter Tryd.func9, Tryd.ntmps9
  go_upto_region 3 with (go_at_call 12; (with_reducible refine (HZa.out _ HK.out).mono ?_); rintro e w3 ⟨rfl, hw3⟩; rw [hw3]; clear hw3 w3)
  clear HZa d0 d1
  go_wp2_with fail
  refine HF.out.mono ?_
  clear HF
  rintro e1 w1 (⟨p, q, A3, A4, c3, c4, rfl, hd, hs14, hwy, hgd, hpl, hb1⟩ | ⟨rfl, hb1⟩)
  rotate_left
  · obtain ⟨W1, hW1⟩ : ∃ W1, W1 = w1.alloc (.cells #[.int .i64 0, .int .i64 0, .int .i64 0, .slice none 0 0, .slice none 0 0] 35) := ⟨_, rfl⟩
    have HB1 : Hid (Below w.heap.size w W1) := Lib.hid (by rw [hW1]; exact below_alloc_ hb1 _)
    clear hb1
    go_wp2_with fail
    rw [← hW1]
    clear hW1
    refine (HR.out _).mono ?_
    rintro e2 w2 ⟨k2, t2, B2, B3, n2, c2, n3, c3, ok2, rfl, hb2⟩
    have HB2 : Hid (Below w.heap.size w w2) := Lib.hid (below_step HB1.out hb2)
    clear hb2 HR HB1
    go_wp2
    go_ret
    exact ⟨rfl, below_alloc_ HB2.out _⟩
  have HD := Lib.hid (And.intro hd (And.intro hs14 (And.intro hwy hgd)))
  obtain ⟨W1, hW1⟩ : ∃ W1, W1 = w1.alloc (.cells #[.int .i64 q.f0, .int .i64 q.f1, .int .i64 q.f2, .slice A3 q.f3.length c3, .slice A4 q.f4.length c4] 35) := ⟨_, rfl⟩
  obtain ⟨g, hg⟩ : ∃ g, g = w1.heap.size := ⟨_, rfl⟩
  have HX1 : Hid (Bx W1 g q.f0 q.f1 q.f2 (.slice A3 q.f3.length c3) (.slice A4 q.f4.length c4)) := Lib.hid (by rw [hW1, hg]; exact blk_new w1 _)
  have HB1 : Hid (Below w.heap.size w W1) := Lib.hid (by rw [hW1]; exact below_alloc_ hb1 _)
  clear hd hs14 hwy hgd hpl hb1
  go_wp2_with fail
  rw [← hW1, ← hg]
  clear hW1 hg
  refine (HR.out _).mono ?_
  rintro e2 w2 ⟨k2, t2, B2, B3, n2, c2, n3, c3', ok2, rfl, hb2⟩
  obtain ⟨W2, hW2⟩ : ∃ W2, W2 = w2.alloc (.cells #[.int .i64 k2, .string t2, .slice B2 n2 c2, .slice B3 n3 c3'] 53) := ⟨_, rfl⟩
  have HX2 : Hid (Bx W2 g q.f0 q.f1 q.f2 (.slice A3 q.f3.length c3) (.slice A4 q.f4.length c4)) := Lib.hid (by rw [hW2]; exact blk_alloc (blk_below HX1.out hb2) _)
  have HB2 : Hid (Below w.heap.size w W2) := Lib.hid (by rw [hW2]; exact below_alloc_ (below_step HB1.out hb2) _)
  clear hb2 HR HB1 HX1
  go_upto_region 5 with (fail)
  rw [← hW2]
  clear hW2
  have x0 := HX2.out.c0
  cases ok2 with
  | false =>
    go_wp2
    go_ret
    exact ⟨rfl, HB2.out⟩
  | true =>
  by_cases hv : (1000 : Int) < v.size
  · have d3 : decide ((1000 : Int) < v.size) = true := decide_eq_true hv
    clear hv
    go_wp2
    go_ret
    exact ⟨rfl, HB2.out⟩
  have d3 : decide ((1000 : Int) < v.size) = false := decide_eq_false hv
  have HVs : Hid (v.size ≤ 1000) := Lib.hid (by omega)
  clear hv
  by_cases h5 : q.f0 = 5
  rotate_left
  · have a5 : (q.f0 != 5) = true := by simpa using h5
    clear h5
    go_wp2
    go_ret
    exact ⟨rfl, HB2.out⟩
  have a5 : (q.f0 != 5) = false := by simpa using h5
  have hl : (Kit.nums s).length < 288230376151711744 := by have := HD.out.2.1; rw [nums_len]; omega
  obtain ⟨z, b, e, hA, hq1, hq2⟩ := at_of HD.out.1 (Wy.ld hl _ _ _ (Doc.gd HD.out.1) HD.out.2.2.1)
  obtain ⟨nv, hvv⟩ := hA.v
  have hzb := bl_le (Kit.nums s) z hA.zl
  rw [hA.bl] at hzb
  obtain ⟨m, rfl, hbm, hml, h93, hkk⟩ := arr_ends hvv hzb.2 h5
  clear h93 hkk
  rw [nums_len] at hml
  have HA : Hid (∀ W, Below w.heap.size w W → Calls Tryd.prog 26 #[.string s, .string v, .slice K ks.length ck] W fun e' w' => e' = .returned (.tuple #[.string (strOfNums (rep (Kit.nums s) m m ((if decide (0 < q.f4.length) then [44] else []) ++ Kit.nums v))), .bool true]) ∧ Below W.heap.size W w') := Lib.hid (fun W h => jqapp_c hA h5 (by have := HD.out.2.1; omega) (by have := HVs.out; omega) K ck W (HK.out.below h) HCk.out (HE.out.below h) (HV.out.below h))
  have HS := Lib.hid hml
  have hs16 := HD.out.2.1
  have hv1000 := HVs.out
  have x2 : W2.cell? ⟨g, 2, none⟩ = some (.int .i64 ((m : Int) + 1)) := by have := HX2.out.c2; rw [hq2] at this; exact this
  have x4 := HX2.out.c4
  clear hA hvv hzb hq1 hq2 hl h5 HD
  by_cases h0 : 0 < q.f4.length
  · have g0 : decide ((0 : Int) < (q.f4.length : Int)) = true := decide_eq_true (by omega)
    have HA2 : Hid (∀ W, Below w.heap.size w W → Calls Tryd.prog 26 #[.string s, .string v, .slice K ks.length ck] W fun e' w' => e' = .returned (.tuple #[.string (s.extract 0 m ++ ⟨#[44]⟩ ++ v ++ s.extract m s.size), .bool true]) ∧ Below W.heap.size W w') := Lib.hid (fun W h => by
      have := HA.out W h
      rw [if_pos (decide_eq_true h0), app_str (Nat.le_of_lt HS.out)] at this
      exact this)
    clear HA
    go_upto_region 10 with (fail)
    go_wp2_with fail
    refine (HA2.out _ HB2.out).mono ?_
    rintro e3 w3 ⟨rfl, hb3⟩
    have HB3 : Hid (Below w.heap.size w w3) := Lib.hid (below_step HB2.out hb3)
    have y2 := pw_cell_below hb3 x2
    clear hb3 HA2 x0 x2 x4
    go_upto_region 11 with (fail)
    go_quiet (fail)
    go_wp2
    go_ret
    exact ⟨by first | rfl | simp, pw_below_drewN HB3.out _⟩
  · have g0 : decide ((0 : Int) < (q.f4.length : Int)) = false := decide_eq_false (by omega)
    have HA2 : Hid (∀ W, Below w.heap.size w W → Calls Tryd.prog 26 #[.string s, .string v, .slice K ks.length ck] W fun e' w' => e' = .returned (.tuple #[.string (s.extract 0 m ++ ⟨#[]⟩ ++ v ++ s.extract m s.size), .bool true]) ∧ Below W.heap.size W w') := Lib.hid (fun W h => by
      have := HA.out W h
      rw [if_neg (by simpa using h0), app_str0 (Nat.le_of_lt HS.out)] at this
      exact this)
    clear HA
    go_upto_region 10 with (fail)
    go_wp2_with fail
    refine (HA2.out _ HB2.out).mono ?_
    rintro e3 w3 ⟨rfl, hb3⟩
    have HB3 : Hid (Below w.heap.size w w3) := Lib.hid (below_step HB2.out hb3)
    have y2 := pw_cell_below hb3 x2
    clear hb3 HA2 x0 x2 x4
    go_upto_region 11 with (fail)
    go_quiet (fail)
    go_wp2
    go_ret
    exact ⟨by first | rfl | simp, pw_below_drewN HB3.out _⟩
theorem ab_walk (s v : ByteArray) (K : Option Addr) (ck : Nat) (ks : List ByteArray) (w : World) (_hs : s.size ≤ 140737488351232) (_hv : v.size ≤ 140737488351232) (hK : KeysR w K ks) (hck : ks.length ≤ ck) (hL : laidMetH Tryd.prog Rows.fnJqAppendBytesRow.laid w) :
    Calls Tryd.prog 9 #[.string s, .string v, .slice K ks.length ck] w fun e w' => e = .returned (.bool true) ∧ Below w.heap.size w w' :=
  ab_main s v K ck ks w hK hck
    (errs_all (l := Rows.fnJqAppendBytesRow.laid) (by kernel_rfl) (by simp [Rows.fnJqAppendBytesRow]) (by simp [Rows.fnJqAppendBytesRow]) (by simp [Rows.fnJqAppendBytesRow]) (by simp [Rows.fnJqAppendBytesRow]) hL)
    (vars_of (l := Rows.fnJqAppendBytesRow.laid) (by kernel_rfl) (by simp [Rows.fnJqAppendBytesRow]) (by simp [Rows.fnJqAppendBytesRow]) (by simp [Rows.fnJqAppendBytesRow]) hL)
end Go.Proofs.YtgbliniamkpocaaDoor.Jp
/- Words of the print, those that this claim needs (cut by a program of this session). -/
-- PRINTED WORDS (module Derived/Print/Sized.lean): go-gate-2's, for the rows of laws over slices: an AI agent of Go's test side, Tue Nov 17 2026; no person has read it. Lean checks it.
namespace Go.Proofs.YtgbliniamkpocaaDoorW.PrintWords
open Go.ChangeShapes Go.WideShapes
end Go.Proofs.YtgbliniamkpocaaDoorW.PrintWords
