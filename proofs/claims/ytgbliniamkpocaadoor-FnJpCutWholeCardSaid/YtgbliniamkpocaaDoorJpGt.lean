/- jsonparser.getTypeConfig, at a quotation mark, at a bracket. -/
import Derived.Test.YtgbliniamkpocaaDoorJpBeO
namespace Go.Proofs.YtgbliniamkpocaaDoor.Jp
open Go.RowKit Go.Proofs.YtgbliniamkpocaaDoorW.PrintWords Go.Proofs.YtgbliniamkpocaaDoor.Kit

theorem res4 {fn : Func} {a b c d : Tmp} (h : fn.results = #[.tmp a, .tmp b, .tmp c, .tmp d]) (tmps : Array Value) (P : Program) (w : World) :
    (results fn tmps).run P w = .ok (.tuple #[tmps.getD a undef, tmps.getD b undef, tmps.getD c undef, tmps.getD d undef]) w := by simp [go_sem, results, h]
theorem res5 {fn : Func} {a b c d e : Tmp} (h : fn.results = #[.tmp a, .tmp b, .tmp c, .tmp d, .tmp e]) (tmps : Array Value) (P : Program) (w : World) :
    (results fn tmps).run P w = .ok (.tuple #[tmps.getD a undef, tmps.getD b undef, tmps.getD c undef, tmps.getD d undef, tmps.getD e undef]) w := by simp [go_sem, results, h]
/-- The sentinels of what is malformed. -/
def ErrAt (g : Nat) (w : World) : Prop := ∃ tp p, w.cell? ⟨g, 0, none⟩ = some (.iface tp p)
theorem ErrAt.below {g : Nat} {w w1 : World} (h : ErrAt g w) (hb : Below w.heap.size w w1) : ErrAt g w1 := by
  obtain ⟨tp, p, h⟩ := h
  exact ⟨tp, p, below_cell hb h⟩
theorem be_drop (l : List Int) (o c : Int) (m : Nat) : ∀ (d i : Nat) (v : Int), l.length - (m + i) ≤ d → be (l.drop m) o c i v = (be l o c (m + i) v).map (· - m) := by
  intro d
  induction d with
  | zero =>
    intro i v hd
    rw [be_out (by rw [List.length_drop]; omega), be_out (by omega)]
    rfl
  | succ d ih =>
    intro i v hd
    by_cases hi : m + i < l.length
    · have hi' : i < (l.drop m).length := by rw [List.length_drop]; omega
      by_cases h34 : gb l (m + i) = 34
      · have hq := qe_drop l m _ (i + 1) false (Nat.le_refl _)
        rw [show m + (i + 1) = m + i + 1 by omega] at hq
        cases hqe : qe l (m + i + 1) false with
        | none =>
          rw [be_str_no hi h34 hqe, be_str_no hi' (by rw [gb_drop]; exact h34) (by rw [hq, hqe]; rfl)]
          rfl
        | some j =>
          have hj := qe_le l _ _ _ _ (Nat.le_refl _) hqe
          rw [be_str hi h34 hqe, be_str (j := j - m) hi' (by rw [gb_drop]; exact h34) (by rw [hq, hqe]; rfl)]
          have := ih (j - m) v (by omega)
          rwa [show m + (j - m) = j by omega] at this
      · have e : ∀ (L : List Int) (k : Nat), k < L.length → gb L k ≠ 34 → be L o c k v = if gb L k = o then be L o c (k + 1) (v + 1) else if gb L k = c then (if v - 1 = 0 then some (k + 1) else be L o c (k + 1) (v - 1)) else be L o c (k + 1) v := fun L k h1 h2 => by rw [be, dif_pos h1, if_neg h2]
        rw [e l _ hi h34, e _ i hi' (by rw [gb_drop]; exact h34), gb_drop]
        have ih' := fun v => ih (i + 1) v (by omega)
        rw [show m + (i + 1) = m + i + 1 by omega] at ih'
        split
        · exact ih' _
        · split
          · split
            · simp only [Option.map_some]
              congr 1
              omega
            · exact ih' _
          · exact ih' _
    · rw [be_out (by rw [List.length_drop]; omega), be_out (by omega)]
      rfl
theorem be_le (l : List Int) (o c : Int) : ∀ (d i j : Nat) (v : Int), l.length - i ≤ d → be l o c i v = some j → i < j ∧ j ≤ l.length := by
  intro d
  induction d with
  | zero =>
    intro i j v hd h
    rw [be_out (by omega)] at h
    cases h
  | succ d ih =>
    intro i j v hd h
    by_cases hi : i < l.length
    · by_cases h34 : gb l i = 34
      · cases hqe : qe l (i + 1) false with
        | none =>
          rw [be_str_no hi h34 hqe] at h
          cases h
        | some k =>
          have hk := qe_le l _ _ _ _ (Nat.le_refl _) hqe
          rw [be_str hi h34 hqe] at h
          have := ih k j v (by omega) h
          omega
      · rw [be, dif_pos hi, if_neg h34] at h
        split at h
        · have := ih _ _ _ (by omega) h
          omega
        · split at h
          · split at h
            · injection h with h
              omega
            · have := ih _ _ _ (by omega) h
              omega
          · have := ih _ _ _ (by omega) h
            omega
    · rw [be_out (by omega)] at h
      cases h
theorem beI_drop {l : List Int} {o c : Int} {off : Nat} : beI (l.drop off) o c = match be l o c off 0 with | some j => (j : Int) - off | none => -1 := by
  unfold beI
  rw [be_drop l o c off _ 0 0 (Nat.le_refl _), Nat.add_zero]
  cases h : be l o c off 0 with
  | none => rfl
  | some j =>
    have := be_le l o c _ _ _ _ (Nat.le_refl _) h
    simp only [Option.map_some]
    omega
/-- What getTypeConfig hands back: of kind k up to r. -/
def GtPost (w : World) (c : Nat) (l : List Int) (off : Nat) (k : Int) (r : Option Nat) (e : Ending) (w' : World) : Prop :=
  Below w.heap.size w w' ∧
  match r with
  | some j => ∃ A', e = .returned (.tuple #[.slice A' (j - off) (c - off), .int .i64 k, .int .i64 j, .nilIface]) ∧ ReadsInt w' .u8 A' (j - off) ((l.take j).drop off)
  | none => ∃ tp p, e = .returned (.tuple #[.slice none 0 0, .int .i64 k, .int .i64 off, .iface tp p])
def KpG (A : Option Addr) (l : List Int) (g : Nat) (w w' : World) : Prop := ReadsInt w' .u8 A l.length l ∧ Below w.heap.size w w' ∧ ErrAt g w'
theorem gt_step {A : Option Addr} {l : List Int} {g : Nat} {w w1 w2 : World} {a : Addr} {u : Value} (h : CfgAt w.heap.size w1) (ha : w1.cell? a = some u) (hk : KpG A l g w w1) (hb : Below w1.heap.size w1 w2) :
    w2.cell? ⟨w.heap.size, 0, none⟩ = some (.bool false) ∧ w2.cell? ⟨w.heap.size, 1, none⟩ = some (.bool false) ∧ w2.cell? ⟨w.heap.size, 2, none⟩ = some (.int .i64 0) ∧ w2.cell? a = some u ∧ KpG A l g w w2 := by
  have h2 := h.below hb
  exact ⟨h2.1, h2.2.1, h2.2.2, by rw [hb.cell (World.block_lt_of_cell? w1 _ ha)]; exact ha, hk.1.below hb, hk.2.1.trans (hb.mono hk.2.1.size), hk.2.2.below hb⟩
set_option maxRecDepth 100000 in
theorem mid_c (A : Option Addr) (c : Nat) (l : List Int) (a b : Nat) (z : Int) (hz : z = b) (hab : a ≤ b) (hb : b ≤ l.length) (hc : l.length ≤ c) :
    ∃ A' : Option Addr, (∀ W : World, (Instr.slice 57 (.slice A l.length c) (some (.int .i64 (a : Int))) (some (.int .i64 z)) none).run Tryd.prog W = .ok (.slice A' (b - a) (c - a)) W) ∧
      ∀ w : World, ReadsInt w .u8 A l.length l → ReadsInt w .u8 A' (b - a) ((l.take b).drop a) := by
  subst hz
  obtain ⟨i5, hi5, hz5, hsz5, hby5⟩ : ∃ i, Tryd.prog.info? 5 = some i ∧ i.zero = some (.int .u8 0) ∧ i.size = 1 ∧ i.bytes = 1 := ⟨_, rfl, rfl, rfl, rfl⟩
  obtain ⟨A', h1, h2, _⟩ := print_mid_int (P := Tryd.prog) (k := .u8) 57 5 Tryd.underlying57 hi5 hsz5 A c l (a : Int) (b : Int) (by omega) (by omega) (by omega) hc
  have hl : ((l.take b).drop a).length = b - a := by rw [List.length_drop, List.length_take]; omega
  simp only [Int.toNat_natCast, hl] at h1 h2
  exact ⟨A', h1, h2⟩
set_option pp.maxSteps 3000
set_option maxHeartbeats 8000000 in
set_option maxRecDepth 100000 in
theorem gt_str (A : Option Addr) (c : Nat) (l : List Int) (off : Nat) (w : World) (hr : ReadsInt w .u8 A l.length l) (hlc : l.length ≤ c) (hb : ∀ x ∈ l, 0 ≤ x ∧ x ≤ 255) (hlm : l.length ≤ 140737488355328)
    (hoff : off < l.length) (hx : gb l off = 34) (hE : ErrAt 9 w) :
    Calls Tryd.prog 85 #[cfg, .slice A l.length c, .int .i64 off] w fun e w' => GtPost w c l off 1 (qe l (off + 1) false) e w' := by
  have hll : l.length ≤ 9223372036854775807 := hr.2.1
  have hlb : (l.length : Int) ≤ 140737488355328 := by omega
  have HB := Lib.hid hb
  obtain ⟨ad, rfl, hcell⟩ := hr.at_ off (by omega) (by omega)
  have hcell' : w.cell? (ad.add off) = some (.int .u8 34) := by rw [Int.toNat_natCast] at hcell; rw [hcell, ← hx]; simp [rd, gb]
  have hba : Below w.heap.size w (w.alloc (.cells #[.bool false, .bool false, .int .i64 0] 80)) := (Below.refl _ _).alloc (Nat.le_refl _) _
  have hcA : (w.alloc (.cells #[.bool false, .bool false, .int .i64 0] 80)).cell? (ad.add off) = some (.int .u8 34) := by rw [hba.cell (World.block_lt_of_cell? w _ hcell')]; exact hcell'
  obtain ⟨c0, c1, c2⟩ := CfgAt.box w
  obtain ⟨i5, hi5, hz5, hsz5, hby5⟩ : ∃ i, Tryd.prog.info? 5 = some i ∧ i.zero = some (.int .u8 0) ∧ i.size = 1 ∧ i.bytes = 1 := ⟨_, rfl, rfl, rfl, rfl⟩
  obtain ⟨bq, hq⟩ := seR_drop l off
  obtain ⟨A', hs1, hs2⟩ := print_cut (P := Tryd.prog) 57 5 .i64 Tryd.underlying57 hi5 hsz5 (some ad) l.length c (off + 1) (by omega)
  have hs1' : ∀ W : World, (Instr.slice 57 (.slice (some ad) l.length c) (some (.int .i64 ((off : Int) + 1))) none none).run Tryd.prog W = .ok (.slice A' (l.length - (off + 1)) (c - (off + 1))) W := fun W => by have := hs1 W; push_cast at this; exact this
  have hA' : Hid (∀ W, ReadsInt W .u8 (some ad) l.length l → ReadsInt W .u8 A' (l.drop (off + 1)).length (l.drop (off + 1))) := Lib.hid (fun W h => by rw [List.length_drop]; exact hs2 W .u8 l hlc h)
  have HSE : Hid (∀ W : World, ReadsInt W .u8 (some ad) l.length l → Calls Tryd.prog 77 #[cfg, .slice A' (l.drop (off + 1)).length (c - (off + 1)), .int .u8 34] W fun e w' => e = .returned (.tuple #[.int .i64 (seI l off), .bool bq]) ∧ Below W.heap.size W w') :=
    Lib.hid (fun W hW => (se_c A' (c - (off + 1)) (l.drop (off + 1)) W (hA'.out W hW) (by rw [List.length_drop]; omega) (fun z hz => HB.out z (List.mem_of_mem_drop hz)) (by rw [List.length_drop]; omega)).mono (fun e w' h => ⟨h.1.trans (by rw [hq]), h.2⟩))
  obtain ⟨se, hse⟩ : ∃ se, seI l off = se := ⟨_, rfl⟩
  rw [hse, List.length_drop] at HSE
  have kpd : KpG (some ad) l 9 w (w.alloc (.cells #[.bool false, .bool false, .int .i64 0] 80)).drew := ⟨hr.below hba.drew, hba.drew, hE.below hba.drew⟩
  have hrd : ReadsInt (w.alloc (.cells #[.bool false, .bool false, .int .i64 0] 80)).drew .u8 (some ad) l.length l := hr.below hba.drew
  have hsum : IntKind.i64.wrap ((off : Int) + 1) = (off : Int) + 1 := by rw [IntKind.wrap_i64]; omega
  have HQ : Hid (match qe l (off + 1) false with | some j => se = (j : Int) - off - 1 ∧ off + 1 < j ∧ j ≤ l.length | none => se = -1) := Lib.hid (by
    rw [← hse]
    unfold seI
    cases h : qe l (off + 1) false with
    | none => rfl
    | some j =>
      have := qe_le l _ _ _ _ (Nat.le_refl _) h
      exact ⟨rfl, by omega, by omega⟩)
  clear hs1 hs2 hq hE hcell hcell' hr hA' hba hse hi5 hz5 hsz5 hby5 hb
  unfold cfg at HSE ⊢
  go_enter Tryd.func85, Tryd.ntmps85
  go_upto_region 5 with (fail)
  go_region_held3 (fun w' => w'.cell? ⟨w.heap.size, 0, none⟩ = some (.bool false) ∧ w'.cell? ⟨w.heap.size, 1, none⟩ = some (.bool false) ∧ w'.cell? ⟨w.heap.size, 2, none⟩ = some (.int .i64 0) ∧ w'.cell? (ad.add off) = some (.int .u8 34) ∧ KpG (some ad) l 9 w w')
    (first | exact ⟨c0, c1, c2, hcA, kpd⟩ | exact ⟨d0, d1, d2, d3, kp2⟩)
    (first | (go_at_call 77; (with_reducible refine (HSE.out _ hrd).mono ?_); rintro e w2 ⟨rfl, hb2⟩; obtain ⟨d0, d1, d2, d3, kp2⟩ := gt_step (w := w) (w1 := (w.alloc (.cells #[.bool false, .bool false, .int .i64 0] 80)).drew) ⟨c0, c1, c2⟩ hcA kpd hb2))
  have HK := Lib.hid kp2
  clear c0 c1 c2 d0 d1 d2 d3 kp2 kpd hrd hcA hsum hs1' HSE hb2
  cases hqe : qe l (off + 1) false with
  | none =>
    have HQ2 := HQ.out
    rw [hqe] at HQ2
    simp only at HQ2
    subst HQ2
    obtain ⟨tp, p, he⟩ := HK.out.2.2
    have HQE := Lib.hid hqe
    clear hqe HQ
    go_upto_region 8 with (fail)
    go_quiet (fail)
    go_wp2
    ((try simp only [Exit.inBlock, Exit.then]); refine bodyPost_ret (res4 rfl _ _ _) rfl ?_)
    unfold GtPost
    rw [HQE.out]
    exact ⟨pw_below_drewN HK.out.2.1 _, tp, p, rfl⟩
  | some j =>
    have HQ2 := HQ.out
    rw [hqe] at HQ2
    obtain ⟨h1, h2, h3⟩ := HQ2
    have hne : (se != -1) = true := by simp; omega
    have HQE := Lib.hid hqe
    clear hqe HQ
    go_wp2
    ((try simp only [Exit.inBlock, Exit.then]); refine bodyPost_ret (res4 rfl _ _ _) rfl ?_)
    unfold GtPost
    rw [HQE.out]
    have hrr := HK.out.1.drop_ off (by omega) hlc
    rw [if_neg (show ¬ c = off by omega)] at hrr
    have hrt := hrr.take_ (j - off) (by omega)
    refine ⟨HK.out.2.1, some (ad.add off), ?_, ?_⟩
    · refine (congrArg Ending.returned ?_ : _)
      show Value.tuple #[.slice (some (ad.add off)) (off + (j - off) - off) (c - off), .int .i64 1, .int .i64 ((off : Int) + ((j : Int) - off)), .nilIface] = _
      rw [show off + (j - off) - off = j - off by omega, show (off : Int) + ((j : Int) - off) = j by omega]
    · rw [List.drop_take]
      exact hrt
set_option maxHeartbeats 8000000 in
set_option maxRecDepth 100000 in
theorem gt_arr (A : Option Addr) (c : Nat) (l : List Int) (off : Nat) (w : World) (hr : ReadsInt w .u8 A l.length l) (hlc : l.length ≤ c) (hb : ∀ x ∈ l, 0 ≤ x ∧ x ≤ 255) (hlm : l.length ≤ 140737488355328)
    (hoff : off < l.length) (hx : gb l off = 91) (hE : ErrAt 2 w) :
    Calls Tryd.prog 85 #[cfg, .slice A l.length c, .int .i64 off] w fun e w' => GtPost w c l off 4 (be l 91 93 off 0) e w' := by
  have hll : l.length ≤ 9223372036854775807 := hr.2.1
  have hlb : (l.length : Int) ≤ 140737488355328 := by omega
  have HB := Lib.hid hb
  obtain ⟨ad, rfl, hcell⟩ := hr.at_ off (by omega) (by omega)
  have hcell' : w.cell? (ad.add off) = some (.int .u8 91) := by rw [Int.toNat_natCast] at hcell; rw [hcell, ← hx]; simp [rd, gb]
  have hba : Below w.heap.size w (w.alloc (.cells #[.bool false, .bool false, .int .i64 0] 80)) := (Below.refl _ _).alloc (Nat.le_refl _) _
  have hcA : (w.alloc (.cells #[.bool false, .bool false, .int .i64 0] 80)).cell? (ad.add off) = some (.int .u8 91) := by rw [hba.cell (World.block_lt_of_cell? w _ hcell')]; exact hcell'
  obtain ⟨c0, c1, c2⟩ := CfgAt.box w
  obtain ⟨i5, hi5, hz5, hsz5, hby5⟩ : ∃ i, Tryd.prog.info? 5 = some i ∧ i.zero = some (.int .u8 0) ∧ i.size = 1 ∧ i.bytes = 1 := ⟨_, rfl, rfl, rfl, rfl⟩
  obtain ⟨A', hs1, hs2⟩ := print_cut (P := Tryd.prog) 57 5 .i64 Tryd.underlying57 hi5 hsz5 (some ad) l.length c off (by omega)
  have hA' : Hid (∀ W, ReadsInt W .u8 (some ad) l.length l → ReadsInt W .u8 A' (l.drop off).length (l.drop off)) := Lib.hid (fun W h => by rw [List.length_drop]; exact hs2 W .u8 l hlc h)
  clear hs2 hi5 hz5 hsz5 hby5
  have HSE : Hid (∀ W : World, ReadsInt W .u8 (some ad) l.length l → Calls Tryd.prog 72 #[cfg, .slice A' (l.drop off).length (c - off), .int .u8 91, .int .u8 93] W fun e w' => e = .returned (.int .i64 (beI (l.drop off) 91 93)) ∧ Below W.heap.size W w') :=
    Lib.hid (fun W hW => (be_arr _ (c - off) (l.drop off) W (hA'.out W hW) (by rw [List.length_drop]; omega) (fun z hz => HB.out z (List.mem_of_mem_drop hz)) (by rw [List.length_drop]; omega)).mono (fun e w' h => ⟨h.1, h.2⟩))
  obtain ⟨se, hse⟩ : ∃ se, beI (l.drop off) 91 93 = se := ⟨_, rfl⟩
  rw [hse, List.length_drop] at HSE
  have kpd : KpG (some ad) l 2 w (w.alloc (.cells #[.bool false, .bool false, .int .i64 0] 80)).drew := ⟨hr.below hba.drew, hba.drew, hE.below hba.drew⟩
  have hrd : ReadsInt (w.alloc (.cells #[.bool false, .bool false, .int .i64 0] 80)).drew .u8 (some ad) l.length l := hr.below hba.drew
  have HQ : Hid (match be l 91 93 off 0 with | some j => se = (j : Int) - off ∧ off < j ∧ j ≤ l.length | none => se = -1) := Lib.hid (by
    rw [← hse, beI_drop]
    cases h : be l 91 93 off 0 with
    | none => rfl
    | some j =>
      have := be_le l _ _ _ _ _ _ (Nat.le_refl _) h
      exact ⟨rfl, by omega, by omega⟩)
  clear hE hcell hcell' hr hA' hba hse hb
  unfold cfg at HSE ⊢
  go_enter Tryd.func85, Tryd.ntmps85
  go_upto_region 11 with (fail)
  go_region_held3 (fun w' => w'.cell? ⟨w.heap.size, 0, none⟩ = some (.bool false) ∧ w'.cell? ⟨w.heap.size, 1, none⟩ = some (.bool false) ∧ w'.cell? ⟨w.heap.size, 2, none⟩ = some (.int .i64 0) ∧ w'.cell? (ad.add off) = some (.int .u8 91) ∧ KpG (some ad) l 2 w w')
    (first | exact ⟨c0, c1, c2, hcA, kpd⟩ | exact ⟨d0, d1, d2, d3, kp2⟩)
    (first | (go_at_call 72; (with_reducible refine (HSE.out _ hrd).mono ?_); rintro e w2 ⟨rfl, hb2⟩; obtain ⟨d0, d1, d2, d3, kp2⟩ := gt_step (w := w) (w1 := (w.alloc (.cells #[.bool false, .bool false, .int .i64 0] 80)).drew) ⟨c0, c1, c2⟩ hcA kpd hb2))
  have HK := Lib.hid kp2
  clear c0 c1 c2 d0 d1 d2 d3 kp2 kpd hrd hcA HSE hb2 hs1
  cases hqe : be l 91 93 off 0 with
  | none =>
    have HQ2 := HQ.out
    rw [hqe] at HQ2
    simp only at HQ2
    subst HQ2
    obtain ⟨tp, p, he⟩ := HK.out.2.2
    have HQE := Lib.hid hqe
    clear hqe HQ
    go_upto_region 13 with (fail)
    go_quiet (fail)
    go_wp2
    ((try simp only [Exit.inBlock, Exit.then]); refine bodyPost_ret (res4 rfl _ _ _) rfl ?_)
    unfold GtPost
    rw [HQE.out]
    exact ⟨pw_below_drewN HK.out.2.1 _, tp, p, rfl⟩
  | some j =>
    have HQ2 := HQ.out
    rw [hqe] at HQ2
    obtain ⟨h1, h2, h3⟩ := HQ2
    have hne : (se == -1) = false := by simp; omega
    have HQE := Lib.hid hqe
    clear hqe HQ
    go_wp2
    ((try simp only [Exit.inBlock, Exit.then]); refine bodyPost_ret (res4 rfl _ _ _) rfl ?_)
    unfold GtPost
    rw [HQE.out]
    have hrr := HK.out.1.drop_ off (by omega) hlc
    rw [if_neg (show ¬ c = off by omega)] at hrr
    have hrt := hrr.take_ (j - off) (by omega)
    refine ⟨HK.out.2.1, some (ad.add off), ?_, ?_⟩
    · refine congrArg Ending.returned ?_
      simp
      try omega
    · rw [List.drop_take]
      exact hrt
set_option maxHeartbeats 8000000 in
set_option maxRecDepth 100000 in
theorem gt_obj (A : Option Addr) (c : Nat) (l : List Int) (off : Nat) (w : World) (hr : ReadsInt w .u8 A l.length l) (hlc : l.length ≤ c) (hb : ∀ x ∈ l, 0 ≤ x ∧ x ≤ 255) (hlm : l.length ≤ 140737488355328)
    (hoff : off < l.length) (hx : gb l off = 123) (hE : ErrAt 8 w) :
    Calls Tryd.prog 85 #[cfg, .slice A l.length c, .int .i64 off] w fun e w' => GtPost w c l off 3 (be l 123 125 off 0) e w' := by
  have hll : l.length ≤ 9223372036854775807 := hr.2.1
  have hlb : (l.length : Int) ≤ 140737488355328 := by omega
  have HB := Lib.hid hb
  obtain ⟨ad, rfl, hcell⟩ := hr.at_ off (by omega) (by omega)
  have hcell' : w.cell? (ad.add off) = some (.int .u8 123) := by rw [Int.toNat_natCast] at hcell; rw [hcell, ← hx]; simp [rd, gb]
  have hba : Below w.heap.size w (w.alloc (.cells #[.bool false, .bool false, .int .i64 0] 80)) := (Below.refl _ _).alloc (Nat.le_refl _) _
  have hcA : (w.alloc (.cells #[.bool false, .bool false, .int .i64 0] 80)).cell? (ad.add off) = some (.int .u8 123) := by rw [hba.cell (World.block_lt_of_cell? w _ hcell')]; exact hcell'
  obtain ⟨c0, c1, c2⟩ := CfgAt.box w
  obtain ⟨i5, hi5, hz5, hsz5, hby5⟩ : ∃ i, Tryd.prog.info? 5 = some i ∧ i.zero = some (.int .u8 0) ∧ i.size = 1 ∧ i.bytes = 1 := ⟨_, rfl, rfl, rfl, rfl⟩
  obtain ⟨A', hs1, hs2⟩ := print_cut (P := Tryd.prog) 57 5 .i64 Tryd.underlying57 hi5 hsz5 (some ad) l.length c off (by omega)
  have hA' : Hid (∀ W, ReadsInt W .u8 (some ad) l.length l → ReadsInt W .u8 A' (l.drop off).length (l.drop off)) := Lib.hid (fun W h => by rw [List.length_drop]; exact hs2 W .u8 l hlc h)
  clear hs2 hi5 hz5 hsz5 hby5
  have HSE : Hid (∀ W : World, ReadsInt W .u8 (some ad) l.length l → Calls Tryd.prog 72 #[cfg, .slice A' (l.drop off).length (c - off), .int .u8 123, .int .u8 125] W fun e w' => e = .returned (.int .i64 (beI (l.drop off) 123 125)) ∧ Below W.heap.size W w') :=
    Lib.hid (fun W hW => (be_obj _ (c - off) (l.drop off) W (hA'.out W hW) (by rw [List.length_drop]; omega) (fun z hz => HB.out z (List.mem_of_mem_drop hz)) (by rw [List.length_drop]; omega)).mono (fun e w' h => ⟨h.1, h.2⟩))
  obtain ⟨se, hse⟩ : ∃ se, beI (l.drop off) 123 125 = se := ⟨_, rfl⟩
  rw [hse, List.length_drop] at HSE
  have kpd : KpG (some ad) l 8 w (w.alloc (.cells #[.bool false, .bool false, .int .i64 0] 80)).drew := ⟨hr.below hba.drew, hba.drew, hE.below hba.drew⟩
  have hrd : ReadsInt (w.alloc (.cells #[.bool false, .bool false, .int .i64 0] 80)).drew .u8 (some ad) l.length l := hr.below hba.drew
  have HQ : Hid (match be l 123 125 off 0 with | some j => se = (j : Int) - off ∧ off < j ∧ j ≤ l.length | none => se = -1) := Lib.hid (by
    rw [← hse, beI_drop]
    cases h : be l 123 125 off 0 with
    | none => rfl
    | some j =>
      have := be_le l _ _ _ _ _ _ (Nat.le_refl _) h
      exact ⟨rfl, by omega, by omega⟩)
  clear hE hcell hcell' hr hA' hba hse hb
  unfold cfg at HSE ⊢
  go_enter Tryd.func85, Tryd.ntmps85
  go_upto_region 17 with (fail)
  go_region_held3 (fun w' => w'.cell? ⟨w.heap.size, 0, none⟩ = some (.bool false) ∧ w'.cell? ⟨w.heap.size, 1, none⟩ = some (.bool false) ∧ w'.cell? ⟨w.heap.size, 2, none⟩ = some (.int .i64 0) ∧ w'.cell? (ad.add off) = some (.int .u8 123) ∧ KpG (some ad) l 8 w w')
    (first | exact ⟨c0, c1, c2, hcA, kpd⟩ | exact ⟨d0, d1, d2, d3, kp2⟩)
    (first | (go_at_call 72; (with_reducible refine (HSE.out _ hrd).mono ?_); rintro e w2 ⟨rfl, hb2⟩; obtain ⟨d0, d1, d2, d3, kp2⟩ := gt_step (w := w) (w1 := (w.alloc (.cells #[.bool false, .bool false, .int .i64 0] 80)).drew) ⟨c0, c1, c2⟩ hcA kpd hb2))
  have HK := Lib.hid kp2
  clear c0 c1 c2 d0 d1 d2 d3 kp2 kpd hrd hcA HSE hb2 hs1
  cases hqe : be l 123 125 off 0 with
  | none =>
    have HQ2 := HQ.out
    rw [hqe] at HQ2
    simp only at HQ2
    subst HQ2
    obtain ⟨tp, p, he⟩ := HK.out.2.2
    have HQE := Lib.hid hqe
    clear hqe HQ
    go_upto_region 19 with (fail)
    go_quiet (fail)
    go_wp2
    ((try simp only [Exit.inBlock, Exit.then]); refine bodyPost_ret (res4 rfl _ _ _) rfl ?_)
    unfold GtPost
    rw [HQE.out]
    exact ⟨pw_below_drewN HK.out.2.1 _, tp, p, rfl⟩
  | some j =>
    have HQ2 := HQ.out
    rw [hqe] at HQ2
    obtain ⟨h1, h2, h3⟩ := HQ2
    have hne : (se == -1) = false := by simp; omega
    have HQE := Lib.hid hqe
    clear hqe HQ
    go_wp2
    ((try simp only [Exit.inBlock, Exit.then]); refine bodyPost_ret (res4 rfl _ _ _) rfl ?_)
    unfold GtPost
    rw [HQE.out]
    have hrr := HK.out.1.drop_ off (by omega) hlc
    rw [if_neg (show ¬ c = off by omega)] at hrr
    have hrt := hrr.take_ (j - off) (by omega)
    refine ⟨HK.out.2.1, some (ad.add off), ?_, ?_⟩
    · refine congrArg Ending.returned ?_
      simp
      try omega
    · rw [List.drop_take]
      exact hrt
end Go.Proofs.YtgbliniamkpocaaDoor.Jp
