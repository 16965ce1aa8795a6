/- jsonparser.arrayEachConfig with the closure of the index case. -/
import Derived.Test.YtgbliniamkpocaaDoorG8
namespace Go.Proofs.YtgbliniamkpocaaDoor.Jp
open Go.RowKit Go.Proofs.YtgbliniamkpocaaDoorW.PrintWords Go.Proofs.YtgbliniamkpocaaDoor.Kit

/-- What stands ahead of a region with the boxed configuration. -/
theorem cfg_keep {B : Nat} {W W1 W2 : World} (h : CfgAt B W1) (hk : Below W.heap.size W W1) (hb : Below W1.heap.size W1 W2) :
    W2.cell? ⟨B, 0, none⟩ = some (.bool false) ∧ W2.cell? ⟨B, 1, none⟩ = some (.bool false) ∧ W2.cell? ⟨B, 2, none⟩ = some (.int .i64 0) ∧ Below W.heap.size W W2 := by
  have h2 := h.below hb
  exact ⟨h2.1, h2.2.1, h2.2.2, hk.trans (hb.mono hk.size)⟩
theorem CfgAt.gq {B g : Nat} {w w1 : World} (h : CfgAt B w) (hg : Gq g w w1) (hB : g + 2 < B) : CfgAt B w1 := by
  have hlt : B < w.heap.size := World.block_lt_of_cell? w _ h.1
  have hb : w1.heap[B]? = w.heap[B]? := hg.block B hlt (by omega) (by omega) (by omega)
  exact ⟨(World.cell?_of_block (w := w) hb).trans h.1, (World.cell?_of_block (w := w) hb).trans h.2.1, (World.cell?_of_block (w := w) hb).trans h.2.2⟩
theorem rd_gb (l : List Int) (n : Nat) : rd l (n : Int) = gb l n := by simp [rd, gb]
theorem below_at {w w1 : World} {a : Addr} {v : Value} (hb : Below w.heap.size w w1) (h : w.cell? a = some v) : w1.cell? a = some v := by
  rw [hb.cell (World.block_lt_of_cell? w _ h)]
  exact h
/-- The loop's head. -/
def AeRel (D : List Int) (es : List (Nat × Nat × Int)) (k g B i : Nat) (w wr : World) (o : Nat) : Prop :=
  ∃ pre rest, es = pre ++ rest ∧ ElsFrom D o rest ∧ AeSt D es k pre.length g wr ∧ V1 wr (g + 3) (.int .i64 (i : Int)) ∧ Gq g w wr ∧ CfgAt B wr
theorem els_len {D : List Int} {o : Nat} {es : List (Nat × Nat × Int)} (h : ElsFrom D o es) : es.length + o ≤ D.length := by
  induction h with
  | last o q e k h1 h2 h3 h4 h5 h6 h7 =>
    have := bl_ge D _ (o + e) (Nat.le_refl _)
    simp only [List.length_cons, List.length_nil]
    omega
  | more o q e k es h1 h2 h3 h4 h5 h6 h7 _ ih =>
    have := bl_ge D _ (o + e) (Nat.le_refl _)
    simp only [List.length_cons]
    omega
theorem els_inv {D : List Int} {o : Nat} {es : List (Nat × Nat × Int)} (h : ElsFrom D o es) : ∃ (q e : Nat) (t : Int) (rest : List (Nat × Nat × Int)), es = (o + q, o + e, t) :: rest ∧ bl (D.drop o) 0 = q ∧ Gtv (D.drop o) q t e ∧ (t = 1 ∧ q + 2 ≤ e ∨ t ≠ 1 ∧ q < e) ∧ o + e ≤ D.length ∧ bl D (o + e) < D.length ∧
    (gb D (bl D (o + e)) = 93 ∧ rest = [] ∨ gb D (bl D (o + e)) = 44 ∧ ElsFrom D (bl D (o + e) + 1) rest) := by
  cases h with
  | last o q e k h1 h2 h3 h4 h5 h6 h7 => exact ⟨q, e, k, [], rfl, h2, h3, h4, h5, h6, .inl ⟨h7, rfl⟩⟩
  | more o q e k es h1 h2 h3 h4 h5 h6 h7 h8 => exact ⟨q, e, k, es, rfl, h2, h3, h4, h5, h6, .inr ⟨h7, h8⟩⟩
set_option pp.maxSteps 3000
set_option maxHeartbeats 16000000 in
set_option maxRecDepth 100000 in
theorem ae_c (g ga gd : Nat) (A Ad : Option Addr) (c cd k i : Nat) (l : List Int) (es : List (Nat × Nat × Int)) (w0 w : World) (hi : i ≤ l.length) (hEls : Els (l.drop i) es)
    (hg : w0.heap.size = g) (hw0 : Below g w0 w) (hr : ReadsInt w0 .u8 A (l.drop i).length (l.drop i)) (hrl : ReadsInt w0 .u8 Ad l.length l) (hlc : (l.drop i).length ≤ c) (hlcd : l.length ≤ cd)
    (hby : ∀ x ∈ l, 0 ≤ x ∧ x ≤ 255) (hlm : l.length ≤ 140737488355328) (hE : Errs w0) (hka : w0.cell? ⟨ga, 0, none⟩ = some (.int .i64 (k : Int))) (hgd : w0.cell? ⟨gd, 0, none⟩ = some (.slice Ad l.length cd))
    (hS : AeSt (l.drop i) es k 0 g w) (hI : V1 w (g + 3) (.int .i64 (i : Int))) :
    Calls Tryd.prog 80 #[cfg, .slice A (l.drop i).length c, .func (.func 81) #[] #[.pointer (some ⟨g, 0, none⟩), .pointer (some ⟨ga, 0, none⟩), .pointer (some ⟨g + 1, 0, none⟩), .pointer (some ⟨g + 2, 0, none⟩), .pointer (some ⟨gd, 0, none⟩), .pointer (some ⟨g + 3, 0, none⟩)], .slice none 0 0] w fun e w' =>
      (∃ z, e = .returned (.tuple #[.int .i64 z, .nilIface])) ∧ Gq g w w' ∧ AeSt (l.drop i) es k es.length g w' := by
  have hld : (l.drop i).length = l.length - i := List.length_drop
  have hDl : (l.drop i).length ≤ 140737488355328 := by omega
  have hDb : ∀ x ∈ l.drop i, 0 ≤ x ∧ x ≤ 255 := fun x hx => hby x (List.mem_of_mem_drop hx)
  have hgaB : ga < g := by rw [← hg]; exact World.block_lt_of_cell? w0 _ hka
  have hgdB : gd < g := by rw [← hg]; exact World.block_lt_of_cell? w0 _ hgd
  have hgw : g + 3 < w.heap.size := hI.lt
  -- what holds in every later world
  have hRD : Hid (∀ W, Gq g w W → ReadsInt W .u8 A (l.drop i).length (l.drop i) ∧ ReadsInt W .u8 Ad l.length l ∧ Errs W ∧ W.cell? ⟨ga, 0, none⟩ = some (.int .i64 (k : Int)) ∧ W.cell? ⟨gd, 0, none⟩ = some (.slice Ad l.length cd)) :=
    Lib.hid (fun W hq => by
      have hb : Below w0.heap.size w0 W := by rw [hg]; exact hw0.trans (hq.below (by omega))
      exact ⟨hr.below hb, hrl.below hb, hE.below hb, below_cell hb hka, below_cell hb hgd⟩)
  obtain ⟨D, hD⟩ : ∃ D, D = l.drop i := ⟨_, rfl⟩
  rw [← hD] at hEls hr hlc hDl hDb hS hRD ⊢
  obtain ⟨h91, hbl1, hcase⟩ := hEls
  have hlt0 : 0 < D.length := by
    rcases Nat.eq_zero_or_pos D.length with h | h
    · rw [gb_out (by omega)] at h91
      cases h91
    · exact h
  have hnb0 : ¬ isBlank (gb D 0) := by rw [h91]; decide
  have hba : Below w.heap.size w (w.alloc (.cells #[.bool false, .bool false, .int .i64 0] 80)) := (Below.refl _ _).alloc (Nat.le_refl _) _
  obtain ⟨wb, hwb⟩ : ∃ wb, wb = w.alloc (.cells #[.bool false, .bool false, .int .i64 0] 80) := ⟨_, rfl⟩
  have hcf : CfgAt w.heap.size wb := by rw [hwb]; exact CfgAt.box w
  have hqb : Gq g w wb := by rw [hwb]; exact Gq.of_below hba
  have hSb : AeSt D es k 0 g wb := by rw [hwb]; exact hS.below hba
  have hIb : V1 wb (g + 3) (.int .i64 (i : Int)) := by rw [hwb]; exact hI.below hba
  have hrb := (hRD.out wb hqb).1
  obtain ⟨ad, rfl, hcell⟩ := hrb.at_ 0 (by omega) (by omega)
  have hcell' : wb.cell? ad = some (.int .u8 91) := by rw [show (0 : Int).toNat = 0 from rfl, show ad.add 0 = ad by simp [Addr.add]] at hcell; rw [hcell, ← h91]; simp [rd, gb]
  obtain ⟨i5, hi5, hz5, hsz5, hby5⟩ : ∃ i, Tryd.prog.info? 5 = some i ∧ i.zero = some (.int .u8 0) ∧ i.size = 1 ∧ i.bytes = 1 := ⟨_, rfl, rfl, rfl, rfl⟩
  have HI5 := Lib.hid (And.intro hi5 hsz5)
  have HN0 : Hid (∀ W : World, ReadsInt W .u8 (some ad) D.length D → Calls Tryd.prog 70 #[cfg, .slice (some ad) D.length c] W fun e w' => e = .returned (.int .i64 0) ∧ Below W.heap.size W w') :=
    Lib.hid (fun W hW => (nt_c (some ad) c D W hW hlc hDl).mono (fun e w' h => ⟨h.1.trans (by rw [nt, bl_stop hnb0, if_pos hlt0]; rfl), h.2⟩))
  obtain ⟨A1, hs1, hs2⟩ := print_cut (P := Tryd.prog) 57 5 .i64 Tryd.underlying57 hi5 hsz5 (some ad) D.length c 1 hlt0
  have hs1' : ∀ W : World, (Instr.slice 57 (.slice (some ad) D.length c) (some (.int .i64 1)) none none).run Tryd.prog W = .ok (.slice A1 (D.length - 1) (c - 1)) W := fun W => hs1 W
  obtain ⟨q1, hq1⟩ : ∃ q1, bl (D.drop 1) 0 = q1 := ⟨_, rfl⟩
  have hbd1 := bl_drop D 1 _ 0 (Nat.le_refl _)
  rw [hq1, Nat.add_zero] at hbd1
  have HN1 : Hid (∀ W : World, ReadsInt W .u8 (some ad) D.length D → Calls Tryd.prog 70 #[.agg #[.bool false, .bool false, .int .i64 0], .slice A1 (D.length - 1) (c - 1)] W fun e w' => e = .returned (.int .i64 (q1 : Int)) ∧ Below W.heap.size W w') :=
    Lib.hid (fun W hW => by
      have hl1 : (D.drop 1).length = D.length - 1 := List.length_drop
      have := nt_c A1 (c - 1) (D.drop 1) W (by rw [hl1]; exact hs2 W .u8 D hlc hW) (by omega) (by omega)
      rw [hl1] at this
      exact this.mono (fun e w' h => ⟨h.1.trans (by rw [nt, hq1, if_pos (by omega)]), h.2⟩))
  clear hs1 hs2 hq1
  have hq1n : ((q1 : Int) == -1) = false := beq_eq_false_iff_ne.2 (by omega)
  obtain ⟨c0, c1, c2⟩ := hcf
  have HQB := Lib.hid (And.intro hqb (And.intro hSb hIb))
  have HBY := Lib.hid (And.intro hDb hby)
  have HL := Lib.hid (And.intro hlcd (And.intro hi hgw))
  have HD := Lib.hid (And.intro hD hld)
  have hl0 : ((D.length : Int) == 0) = false := beq_eq_false_iff_ne.2 (by omega)
  clear hr hrl hE hka hgd hS hI hw0 hcell hSb hIb hqb hi5 hz5 hsz5 hby5 hby hDb hba hrb hlcd hg hgw hD hld
  subst hwb
  unfold cfg at HN0 ⊢
  go_enter Tryd.func80, Tryd.ntmps80
  go_upto_region 20 with (go_at_call 70; (with_reducible refine (HN0.out _ (hRD.out _ HQB.out.1).1).mono ?_); rintro e1 w1 ⟨rfl, hb1⟩; have d91 := below_at hb1 hcell'; obtain ⟨d0, d1, d2, kp1⟩ := cfg_keep (W := w.alloc (.cells #[.bool false, .bool false, .int .i64 0] 80)) ⟨c0, c1, c2⟩ (Below.refl _ _) hb1)
  have HQ1 : Hid (Gq g w w1 ∧ AeSt D es k 0 g w1 ∧ V1 w1 (g + 3) (.int .i64 (i : Int))) := Lib.hid ⟨HQB.out.1.trans (Gq.of_below hb1), HQB.out.2.1.below hb1, HQB.out.2.2.below hb1⟩
  have hrd := (hRD.out _ HQ1.out.1).1
  have hrd' : ReadsInt w1.drew .u8 (some ad) D.length D := hrd
  have kp0 : Below w1.heap.size w1 w1.drew := (Below.refl _ _).drew
  clear kp1 c0 c1 c2 hcell' hb1 HN0 HQB
  go_region_held3 (fun w' => w'.cell? ⟨w.heap.size, 0, none⟩ = some (.bool false) ∧ w'.cell? ⟨w.heap.size, 1, none⟩ = some (.bool false) ∧ w'.cell? ⟨w.heap.size, 2, none⟩ = some (.int .i64 0) ∧ Below w1.heap.size w1 w')
    (first | exact ⟨d0, d1, d2, kp0⟩ | exact ⟨b0, b1, b2, kp2⟩)
    (first | (go_at_call 70; (with_reducible refine (HN1.out _ hrd').mono ?_); rintro e2 w2 ⟨rfl, hb2⟩; obtain ⟨b0, b1, b2, kp2⟩ := cfg_keep (W := w1) (W1 := w1.drew) ⟨d0, d1, d2⟩ kp0 hb2))
  have HQ2 : Hid (Gq g w w2 ∧ AeSt D es k 0 g w2 ∧ V1 w2 (g + 3) (.int .i64 (i : Int)) ∧ CfgAt w.heap.size w2) := Lib.hid ⟨HQ1.out.1.trans (Gq.of_below kp2), HQ1.out.2.1.below kp2, HQ1.out.2.2.below kp2, b0, b1, b2⟩
  clear d0 d1 d2 kp2 kp0 hrd' hb2 HQ1 HN1 hrd b0 b1 b2 d91 hs1'
  have hq1l : 1 + q1 < D.length := by omega
  obtain ⟨x, hx⟩ : ∃ x, gb D (bl D 1) = x := ⟨_, rfl⟩
  rw [hx] at hcase
  have hcx : w2.cell? (ad.add (1 + q1)) = some (.int .u8 x) := by
    obtain ⟨ad', e', hcell⟩ := (hRD.out _ HQ2.out.1).1.at_ ((1 + q1 : Nat) : Int) (by omega) (by omega)
    injection e' with e'
    subst e'
    rw [Int.toNat_natCast, rd_gb, hbd1, hx] at hcell
    rw [hbd1]
    exact hcell
  have HBD := Lib.hid hbd1
  clear hbd1 hbl1
  have HEL : Hid (es.length < D.length) := Lib.hid (by
    rcases hcase with ⟨_, h⟩ | ⟨_, h⟩
    · rw [h]
      exact hlt0
    · have := els_len h
      have := bl_ge D _ 1 (Nat.le_refl _)
      omega)
  rcases hcase with ⟨rfl, hes⟩ | ⟨hx93, hels⟩
  · clear hx
    have HES := Lib.hid hes
    clear hes
    go_wp2
    go_ret2
    have := HES.out
    subst this
    exact ⟨⟨_, rfl⟩, HQ2.out.1, HQ2.out.2.1⟩
  · have e93 : (x == 93) = false := by simpa using hx93
    have HELS := Lib.hid hels
    clear hx hels hx93
    have hst : AeRel D es k g w.heap.size i w w2 (1 + q1) := ⟨[], es, rfl, by rw [HBD.out]; exact HELS.out, HQ2.out.2.1, HQ2.out.2.2.1, HQ2.out.1, HQ2.out.2.2.2⟩
    have HST := Lib.hid hst
    clear hst HELS HQ2
    go_wp2
    clear hcx
    go_wp2
    go_loopw [8] (fun vi wr => ∃ o : Nat, o ≤ D.length ∧ vi = .int .i64 o ∧ Hid (AeRel D es k g w.heap.size i w wr o)) (fun vi _ => D.length - (intOf vi).toNat)
    case atStart => exact ⟨1 + q1, by omega, by go_num, HST⟩
    case round =>
      clear HST
      obtain ⟨o, hol, rfl, HH⟩ := hrel
      obtain ⟨pre, rest, hes, hfrom, hst, hI2, hq, hcf⟩ := HH.out
      obtain ⟨q, e, t, rest', rfl, hq0, hgv, hkk, hoe, hble, hnext⟩ := els_inv hfrom
      obtain ⟨i5, hi5, hsz5⟩ : ∃ i, Tryd.prog.info? 5 = some i ∧ i.size = 1 := ⟨_, rfl, rfl⟩
      obtain ⟨Ao, hs1, hs2⟩ := print_cut (P := Tryd.prog) 57 5 .i64 Tryd.underlying57 hi5 hsz5 (some ad) D.length c o hol
      obtain ⟨A3, hs3, hs4⟩ := print_cut (P := Tryd.prog) 57 5 .i64 Tryd.underlying57 hi5 hsz5 (some ad) D.length c (o + e) hoe
      have hs3' : ∀ W : World, (Instr.slice 57 (.slice (some ad) D.length c) (some (.int .i64 ((o : Int) + (e : Int)))) none none).run Tryd.prog W = .ok (.slice A3 (D.length - (o + e)) (c - (o + e))) W := fun W => by have := hs3 W; push_cast at this; exact this
      obtain ⟨q3, hq3⟩ : ∃ q3, bl (D.drop (o + e)) 0 = q3 := ⟨_, rfl⟩
      have hbd3 := bl_drop D (o + e) _ 0 (Nat.le_refl _)
      rw [hq3, Nat.add_zero] at hbd3
      have HN3 : Hid (∀ W : World, ReadsInt W .u8 (some ad) D.length D → Calls Tryd.prog 70 #[.agg #[.bool false, .bool false, .int .i64 0], .slice A3 (D.length - (o + e)) (c - (o + e))] W fun e w' => e = .returned (.int .i64 (q3 : Int)) ∧ Below W.heap.size W w') :=
        Lib.hid (fun W hW => by
          have hl1 : (D.drop (o + e)).length = D.length - (o + e) := List.length_drop
          have := nt_c A3 (c - (o + e)) (D.drop (o + e)) W (by rw [hl1]; exact hs4 W .u8 D hlc hW) (by omega) (by omega)
          rw [hl1] at this
          exact this.mono (fun e w' h => ⟨h.1.trans (by rw [nt, hq3, if_pos (by omega)]), h.2⟩))
      have hlo : (D.drop o).length = D.length - o := List.length_drop
      have HG : Hid (∀ W : World, ReadsInt W .u8 (some ad) D.length D → Errs W → Calls Tryd.prog 94 #[.agg #[.bool false, .bool false, .int .i64 0], .slice Ao (D.length - o) (c - o), .slice none 0 0] W fun e' w' => CgV W (D.drop o) t q e e' w') :=
        Lib.hid (fun W hW hEW => by
          have := cget_c Ao (c - o) (D.drop o) W (by rw [hlo]; exact hs2 W .u8 D hlc hW) (by omega) (fun x hx => HBY.out.1 x (List.mem_of_mem_drop hx)) (by omega) hEW q e t hq0 (by omega) hkk (by omega) hgv
          rw [hlo] at this
          exact this)
      obtain ⟨c0, c1, c2⟩ := hcf
      have hqd : Gq g w wr.drew := hq.trans (Gq.of_below (Below.refl _ _).drew)
      have hrd := (hRD.out _ hqd).1
      have hEd := (hRD.out _ hqd).2.2.1
      have kp0 : Below wr.heap.size wr wr.drew := (Below.refl _ _).drew
      have HS0 := Lib.hid (And.intro hst (And.intro hI2 hq))
      have HC := Lib.hid (And.intro hes (And.intro hkk (And.intro hbd3 hnext)))
      have hoe2 : o + e ≤ D.length := hoe
      have he0 : ((e : Int) == 0) = false := beq_eq_false_iff_ne.2 (by omega)
      clear hst hI2 hq hqd hes hbd3 hnext hgv hkk hfrom hs2 hs3 hs4 hq3 hq0 HH hlo hble
      go_upto_region 26 with (fail)
      go_region_held3 (fun w' => w'.cell? ⟨w.heap.size, 0, none⟩ = some (.bool false) ∧ w'.cell? ⟨w.heap.size, 1, none⟩ = some (.bool false) ∧ w'.cell? ⟨w.heap.size, 2, none⟩ = some (.int .i64 0) ∧ Below wr.heap.size wr w')
        (first | exact ⟨c0, c1, c2, kp0⟩ | exact ⟨b0, b1, b2, kp2⟩)
        (first | (go_at_call 94; (with_reducible refine (HG.out _ hrd hEd).mono ?_); rintro e2 w2 ⟨hb2, A2, n2, m2, rfl, hr2, hn2⟩; obtain ⟨b0, b1, b2, kp2⟩ := cfg_keep (W := wr) (W1 := wr.drew) ⟨c0, c1, c2⟩ kp0 hb2))
      have HS2 : Hid (AeSt D es k pre.length g w2 ∧ V1 w2 (g + 3) (.int .i64 (i : Int)) ∧ Gq g w w2) := Lib.hid ⟨HS0.out.1.below kp2, HS0.out.2.1.below kp2, HS0.out.2.2.trans (Gq.of_below kp2)⟩
      have HR2 := Lib.hid (And.intro hr2 hn2)
      have hcf2 : CfgAt w.heap.size w2 := ⟨b0, b1, b2⟩
      have hn2l : (t = 1 → n2 + 2 + q = e) ∧ (t ≠ 1 → n2 + q = e) ∧ n2 + q ≤ e := by
        have h1 := hr2.1
        have hlo : (D.drop o).length = D.length - o := List.length_drop
        rcases HC.out.2.1 with ⟨ht, hq⟩ | ⟨ht, hq⟩
        · rw [if_pos ht, List.length_take, List.length_drop, List.length_drop, List.length_take] at h1
          exact ⟨fun _ => by omega, fun h => absurd ht h, by omega⟩
        · rw [if_neg ht, List.length_drop, List.length_take] at h1
          exact ⟨fun h => absurd h ht, fun _ => by omega, by omega⟩
      obtain ⟨hl1, hl2, hl3⟩ := hn2l
      have HCB : Hid (∀ off : Int, off = (o : Int) + e - n2 → Calls Tryd.prog 81 #[.slice A2 n2 m2, .int .i64 t, .int .i64 off, .nilIface, .pointer (some ⟨g, 0, none⟩), .pointer (some ⟨ga, 0, none⟩), .pointer (some ⟨g + 1, 0, none⟩), .pointer (some ⟨g + 2, 0, none⟩), .pointer (some ⟨gd, 0, none⟩), .pointer (some ⟨g + 3, 0, none⟩)] w2 fun e w' =>
          e = .returned (.tuple #[]) ∧ Gq g w2 w' ∧ AeSt D es k (pre.length + 1) g w') :=
        Lib.hid (fun off hoff => by
          obtain ⟨r1, r2, r3, r4, r5⟩ := hRD.out _ HS2.out.2.2
          have hdl := HD.out.2
          have hpl : pre.length < es.length := by rw [HC.out.1]; simp
          have hel := HEL.out
          rw [HD.out.1] at hel hDl hoe2 ⊢
          refine cb_c g ga gd A2 Ad n2 m2 cd k pre.length i (o + q) (o + e) t off l es w2 (by rw [← HD.out.1]; exact HS2.out.1) (by rw [HC.out.1]; simp) r4 r5 HS2.out.2.1 r2 HL.out.1 hlm (by omega) (by omega) hgdB (fun ht => ?_) (fun ht => ?_)
          · have := hl1 ht
            exact ⟨by push_cast; omega, by omega⟩
          · have := hl2 ht
            refine ⟨by push_cast; omega, ?_, HR2.out.2 ht⟩
            have h := HR2.out.1
            rw [if_neg ht, List.take_drop, List.drop_drop, HD.out.1] at h
            exact h)
      have hw1 : IntKind.i64.wrap ((o : Int) + e) = (o : Int) + e := by rw [IntKind.wrap_i64]; omega
      have hw2 : IntKind.i64.wrap ((o : Int) + e - n2) = (o : Int) + e - n2 := by rw [IntKind.wrap_i64]; omega
      clear c0 c1 c2 kp0 kp2 hb2 hr2 hn2 b0 b1 b2 HG hrd hEd HS0 hs1 hl1 hl2
      go_upto_region 33 with (go_at_call 81; (with_reducible refine ((HCB.out _ (by omega)).mono ?_)); rintro e3 w3 ⟨rfl, hg3, hst3⟩; obtain ⟨d0, d1, d2⟩ := hcf2.gq hg3 (by have := HL.out.2.2; omega))
      have hq3g : Gq g w w3 := HS2.out.2.2.trans hg3
      have hI3 : V1 w3 (g + 3) (.int .i64 (i : Int)) := HS2.out.2.1.block (hg3.block _ HS2.out.2.1.lt (by omega) (by omega) (by omega))
      have hqd3 : Gq g w w3.drew := hq3g.trans (Gq.of_below (Below.refl _ _).drew)
      have hrd3 := (hRD.out _ hqd3).1
      have kp0 : Below w3.heap.size w3 w3.drew := (Below.refl _ _).drew
      have HS3 := Lib.hid (And.intro hst3 (And.intro hI3 hq3g))
      clear hst3 hI3 hq3g hqd3 hcf2 hg3 HCB HS2 HR2 hw1 hw2
      go_region_held3 (fun w' => w'.cell? ⟨w.heap.size, 0, none⟩ = some (.bool false) ∧ w'.cell? ⟨w.heap.size, 1, none⟩ = some (.bool false) ∧ w'.cell? ⟨w.heap.size, 2, none⟩ = some (.int .i64 0) ∧ Below w3.heap.size w3 w')
        (first | exact ⟨d0, d1, d2, kp0⟩ | exact ⟨b0, b1, b2, kp2⟩)
        (first | (go_at_call 70; (with_reducible refine (HN3.out _ hrd3).mono ?_); rintro e4 w4 ⟨rfl, hb4⟩; obtain ⟨b0, b1, b2, kp2⟩ := cfg_keep (W := w3) (W1 := w3.drew) ⟨d0, d1, d2⟩ kp0 hb4))
      have HS4 : Hid (AeSt D es k (pre.length + 1) g w4 ∧ V1 w4 (g + 3) (.int .i64 (i : Int)) ∧ Gq g w w4 ∧ CfgAt w.heap.size w4) := Lib.hid ⟨HS3.out.1.below kp2, HS3.out.2.1.below kp2, HS3.out.2.2.trans (Gq.of_below kp2), b0, b1, b2⟩
      have hq3l : o + e + q3 < D.length := by
        have h1 := HC.out.2.2.1
        rcases HC.out.2.2.2 with ⟨h, _⟩ | ⟨h, _⟩
        all_goals
          rw [h1]
          exact gb_in (by rw [h]; decide)
      obtain ⟨x2, hx2⟩ : ∃ x2, gb D (bl D (o + e)) = x2 := ⟨_, rfl⟩
      have hcx : w4.cell? (ad.add (o + e + q3)) = some (.int .u8 x2) := by
        obtain ⟨ad', e', hcell⟩ := (hRD.out _ HS4.out.2.2.1).1.at_ ((o + e + q3 : Nat) : Int) (by omega) (by omega)
        injection e' with e'
        subst e'
        rw [Int.toNat_natCast, rd_gb, HC.out.2.2.1, hx2] at hcell
        rw [HC.out.2.2.1]
        exact hcell
      have hn := HC.out.2.2.2
      rw [hx2] at hn
      clear d0 d1 d2 kp0 kp2 hb4 HN3 hrd3 HS3 b0 b1 b2 hx2 hs3'
      rcases hn with ⟨rfl, hr⟩ | ⟨rfl, hr⟩
      · have HRR := Lib.hid hr
        clear hr
        go_wp2
        go_ret2
        refine ⟨⟨_, rfl⟩, HS4.out.2.2.1, ?_⟩
        have h1 := HC.out.1
        rw [HRR.out] at h1
        have h2 : es.length = pre.length + 1 := by rw [h1]; simp
        rw [h2]
        exact HS4.out.1
      · have hrel2 : AeRel D es k g w.heap.size i w w4 (o + e + q3 + 1) := ⟨pre ++ [(o + q, o + e, t)], rest', by rw [HC.out.1]; simp, by rw [HC.out.2.2.1]; exact hr, by rw [List.length_append]; exact HS4.out.1, HS4.out.2.1, HS4.out.2.2.1, HS4.out.2.2.2⟩
        have HRR := Lib.hid hrel2
        clear hr hrel2
        go_wp2
        go_roundw
        case rel => exact ⟨o + e + q3 + 1, by omega, by go_num, HRR⟩
        case measure => simp [intOf]; omega
end Go.Proofs.YtgbliniamkpocaaDoor.Jp
