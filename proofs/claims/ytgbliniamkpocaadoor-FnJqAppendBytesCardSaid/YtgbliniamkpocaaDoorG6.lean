/- Texts of this claim, laid together. -/
import Derived.Test.YtgbliniamkpocaaDoorJpGt
/- jsonparser.Get without keys. -/
namespace Go.Proofs.YtgbliniamkpocaaDoor.Jp
open Go.RowKit Go.Proofs.YtgbliniamkpocaaDoorW.PrintWords Go.Proofs.YtgbliniamkpocaaDoor.Kit

theorem nt_c (A : Option Addr) (c : Nat) (l : List Int) (w : World) (hr : ReadsInt w .u8 A l.length l) (hc : l.length ≤ c) (hl : l.length ≤ 140737488355328) :
    Calls Tryd.prog 70 #[cfg, .slice A l.length c] w fun e w' => e = .returned (.int .i64 (nt l)) ∧ Below w.heap.size w w' := nt_h A c l w hr hc hl
/-- The sentinels that Get reads. -/
def Errs (w : World) : Prop := ErrAt 2 w ∧ ErrAt 5 w ∧ ErrAt 8 w ∧ ErrAt 9 w
theorem Errs.below {w w1 : World} (h : Errs w) (hb : Below w.heap.size w w1) : Errs w1 := ⟨h.1.below hb, h.2.1.below hb, h.2.2.1.below hb, h.2.2.2.below hb⟩
def KpI (A : Option Addr) (l : List Int) (w w' : World) : Prop := ReadsInt w' .u8 A l.length l ∧ Below w.heap.size w w' ∧ Errs w'
theorem ig_step {A : Option Addr} {l : List Int} {w w1 w2 : World} (h : CfgAt w.heap.size w1) (hk : KpI A l w w1) (hb : Below w1.heap.size w1 w2) :
    w2.cell? ⟨w.heap.size, 0, none⟩ = some (.bool false) ∧ w2.cell? ⟨w.heap.size, 1, none⟩ = some (.bool false) ∧ w2.cell? ⟨w.heap.size, 2, none⟩ = some (.int .i64 0) ∧ KpI A l w w2 := by
  have h2 := h.below hb
  exact ⟨h2.1, h2.2.1, h2.2.2, hk.1.below hb, hk.2.1.trans (hb.mono hk.2.1.size), hk.2.2.below hb⟩
/-- What internalGet hands back: an error or none. -/
def IgPost (w : World) (ok : Bool) (e : Ending) (w' : World) : Prop :=
  Below w.heap.size w w' ∧
  match ok with
  | true => ∃ A' n c' r z1 z2 z3, e = .returned (.tuple #[.slice A' n c', .int .i64 z1, .int .i64 z2, .int .i64 z3, .nilIface]) ∧ ReadsInt w' .u8 A' n r
  | false => ∃ z1 z2 z3 tp p, e = .returned (.tuple #[.slice none 0 0, .int .i64 z1, .int .i64 z2, .int .i64 z3, .iface tp p])
set_option pp.maxSteps 3000
set_option maxHeartbeats 8000000 in
set_option maxRecDepth 100000 in
theorem ig_blank (A : Option Addr) (c : Nat) (l : List Int) (w : World) (hr : ReadsInt w .u8 A l.length l) (hlc : l.length ≤ c) (hlm : l.length ≤ 140737488355328) (hE : Errs w) (hn : l.length ≤ bl l 0) :
    Calls Tryd.prog 68 #[cfg, .slice A l.length c, .slice none 0 0] w fun e w' => IgPost w false e w' := by
  have hll : l.length ≤ 9223372036854775807 := hr.2.1
  have hba : Below w.heap.size w (w.alloc (.cells #[.bool false, .bool false, .int .i64 0] 80)) := (Below.refl _ _).alloc (Nat.le_refl _) _
  obtain ⟨c0, c1, c2⟩ := CfgAt.box w
  obtain ⟨i5, hi5, hz5, hsz5, hby5⟩ : ∃ i, Tryd.prog.info? 5 = some i ∧ i.zero = some (.int .u8 0) ∧ i.size = 1 ∧ i.bytes = 1 := ⟨_, rfl, rfl, rfl, rfl⟩
  obtain ⟨A', hs1, hs2⟩ := print_cut (P := Tryd.prog) 57 5 .i64 Tryd.underlying57 hi5 hsz5 A l.length c 0 (Nat.zero_le _)
  have hs1' : ∀ W : World, (Instr.slice 57 (.slice A l.length c) (some (.int .i64 0)) none none).run Tryd.prog W = .ok (.slice A' l.length c) W := fun W => by have := hs1 W; simpa using this
  have hNT : Hid (∀ W : World, ReadsInt W .u8 A l.length l → Calls Tryd.prog 70 #[cfg, .slice A' l.length c] W fun e w' => e = .returned (.int .i64 (-1)) ∧ Below W.heap.size W w') :=
    Lib.hid (fun W hW => (nt_c A' c l W (by simpa using hs2 W .u8 l hlc hW) hlc hlm).mono (fun e w' h => ⟨h.1.trans (by rw [nt, if_neg (by omega)]), h.2⟩))
  have kpd : KpI A l w (w.alloc (.cells #[.bool false, .bool false, .int .i64 0] 80)).drew := ⟨hr.below hba.drew, hba.drew, hE.below hba.drew⟩
  have hrd : ReadsInt (w.alloc (.cells #[.bool false, .bool false, .int .i64 0] 80)).drew .u8 A l.length l := hr.below hba.drew
  clear hs1 hs2 hE hr hba hi5 hz5 hsz5 hby5 hn
  unfold cfg at hNT ⊢
  go_enter Tryd.func68, Tryd.ntmps68
  go_upto_region 5 with (fail)
  go_region_held3 (fun w' => w'.cell? ⟨w.heap.size, 0, none⟩ = some (.bool false) ∧ w'.cell? ⟨w.heap.size, 1, none⟩ = some (.bool false) ∧ w'.cell? ⟨w.heap.size, 2, none⟩ = some (.int .i64 0) ∧ KpI A l w w')
    (first | exact ⟨c0, c1, c2, kpd⟩ | exact ⟨d0, d1, d2, kp2⟩)
    (first | (go_at_call 70; (with_reducible refine (hNT.out _ hrd).mono ?_); rintro e w2 ⟨rfl, hb2⟩; obtain ⟨d0, d1, d2, kp2⟩ := ig_step (w := w) (w1 := (w.alloc (.cells #[.bool false, .bool false, .int .i64 0] 80)).drew) ⟨c0, c1, c2⟩ kpd hb2))
  have HK := Lib.hid kp2
  clear c0 c1 c2 d0 d1 d2 kp2 kpd hrd hNT hb2 hs1'
  obtain ⟨tp, p, he⟩ := HK.out.2.2.2.1
  go_upto_region 7 with (fail)
  go_quiet (fail)
  go_wp2
  ((try simp only [Exit.inBlock, Exit.then]); refine bodyPost_ret (res5 rfl _ _ _) rfl ?_)
  exact ⟨pw_below_drewN HK.out.2.1 _, _, _, _, tp, p, rfl⟩
set_option maxHeartbeats 8000000 in
set_option maxRecDepth 100000 in
theorem ig_at (A : Option Addr) (c : Nat) (l : List Int) (w : World) (hr : ReadsInt w .u8 A l.length l) (hlc : l.length ≤ c) (hlm : l.length ≤ 140737488355328) (hE : Errs w) (b : Nat) (hbl : bl l 0 = b) (hb : b < l.length) (k : Int) (r : Option Nat)
    (hk : (k = 1 ∧ ∀ j, r = some j → b + 2 ≤ j) ∨ k = 3 ∨ k = 4) (hj : ∀ j, r = some j → b < j ∧ j ≤ l.length)
    (hG : ∀ W : World, ReadsInt W .u8 A l.length l → Errs W → Calls Tryd.prog 85 #[cfg, .slice A l.length c, .int .i64 b] W fun e w' => GtPost W c l b k r e w') :
    Calls Tryd.prog 68 #[cfg, .slice A l.length c, .slice none 0 0] w fun e w' => IgPost w r.isSome e w' := by
  have hll : l.length ≤ 9223372036854775807 := hr.2.1
  have hba : Below w.heap.size w (w.alloc (.cells #[.bool false, .bool false, .int .i64 0] 80)) := (Below.refl _ _).alloc (Nat.le_refl _) _
  obtain ⟨c0, c1, c2⟩ := CfgAt.box w
  obtain ⟨i5, hi5, hz5, hsz5, hby5⟩ : ∃ i, Tryd.prog.info? 5 = some i ∧ i.zero = some (.int .u8 0) ∧ i.size = 1 ∧ i.bytes = 1 := ⟨_, rfl, rfl, rfl, rfl⟩
  obtain ⟨A', hs1, hs2⟩ := print_cut (P := Tryd.prog) 57 5 .i64 Tryd.underlying57 hi5 hsz5 A l.length c 0 (Nat.zero_le _)
  have hs1' : ∀ W : World, (Instr.slice 57 (.slice A l.length c) (some (.int .i64 0)) none none).run Tryd.prog W = .ok (.slice A' l.length c) W := fun W => by have := hs1 W; simpa using this
  have hNT : Hid (∀ W : World, ReadsInt W .u8 A l.length l → Calls Tryd.prog 70 #[cfg, .slice A' l.length c] W fun e w' => e = .returned (.int .i64 b) ∧ Below W.heap.size W w') :=
    Lib.hid (fun W hW => (nt_c A' c l W (by simpa using hs2 W .u8 l hlc hW) hlc hlm).mono (fun e w' h => ⟨h.1.trans (by rw [nt, hbl, if_pos hb]), h.2⟩))
  have kpd : KpI A l w (w.alloc (.cells #[.bool false, .bool false, .int .i64 0] 80)).drew := ⟨hr.below hba.drew, hba.drew, hE.below hba.drew⟩
  have hrd : ReadsInt (w.alloc (.cells #[.bool false, .bool false, .int .i64 0] 80)).drew .u8 A l.length l := hr.below hba.drew
  have HG := Lib.hid hG
  have HKK := Lib.hid (And.intro hk hj)
  have hnb : ((b : Int) == -1) = false := by simp
  clear hs1 hs2 hE hr hba hi5 hz5 hsz5 hby5 hG hbl hk hj
  unfold cfg at hNT HG ⊢
  go_enter Tryd.func68, Tryd.ntmps68
  go_upto_region 5 with (fail)
  go_region_held3 (fun w' => w'.cell? ⟨w.heap.size, 0, none⟩ = some (.bool false) ∧ w'.cell? ⟨w.heap.size, 1, none⟩ = some (.bool false) ∧ w'.cell? ⟨w.heap.size, 2, none⟩ = some (.int .i64 0) ∧ KpI A l w w')
    (first | exact ⟨c0, c1, c2, kpd⟩ | exact ⟨d0, d1, d2, kp2⟩)
    (first | (go_at_call 70; (with_reducible refine (hNT.out _ hrd).mono ?_); rintro e w2 ⟨rfl, hb2⟩; obtain ⟨d0, d1, d2, kp2⟩ := ig_step (w := w) (w1 := (w.alloc (.cells #[.bool false, .bool false, .int .i64 0] 80)).drew) ⟨c0, c1, c2⟩ kpd hb2))
  have HK := Lib.hid kp2
  clear c0 c1 c2 kp2 kpd hrd hNT hb2 hs1'
  have HG2 := Lib.hid (HG.out w2 HK.out.1 HK.out.2.2)
  clear HG
  cases r with
  | none =>
    go_wp2_with (go_at_call 85; (with_reducible refine HG2.out.mono ?_); rintro e w3 ⟨hb3, tp, p, rfl⟩)
    ((try simp only [Exit.inBlock, Exit.then]); refine bodyPost_ret (res5 rfl _ _ _) rfl ?_)
    exact ⟨HK.out.2.1.trans (hb3.mono HK.out.2.1.size), _, _, _, tp, p, rfl⟩
  | some j =>
    obtain ⟨hj1, hj2⟩ := HKK.out.2 j rfl
    rcases HKK.out.1 with ⟨rfl, hk1⟩ | hk3
    · have hk2 := hk1 j rfl
      clear hk1
      go_wp2_with (go_at_call 85; (with_reducible refine HG2.out.mono ?_); rintro e w3 ⟨hb3, A3, rfl, hr3⟩; have HR3 := Lib.hid hr3; clear hr3)
      all_goals (
        ((try simp only [Exit.inBlock, Exit.then]); refine bodyPost_ret (res5 rfl _ _ _) rfl ?_)
        have hr1 := HR3.out.drop_ (c := j - b + 1) 1 (by omega) (by omega)
        rw [if_neg (show ¬ j - b + 1 = 1 by omega)] at hr1
        have hr2 := hr1.take_ (j - b - 1 - 1) (by omega)
        refine ⟨HK.out.2.1.trans (hb3.mono HK.out.2.1.size), ?_⟩)
      · rename_i h0
        exact ⟨_, 0, 0, [], _, _, _, rfl, ⟨rfl, by simp, fun h => by omega⟩⟩
      · exact ⟨_, _, _, _, _, _, _, rfl, hr2⟩
    · have ek : (k == 1) = false := by simp; omega
      go_wp2_with (go_at_call 85; (with_reducible refine HG2.out.mono ?_); rintro e w3 ⟨hb3, A3, rfl, hr3⟩; have HR3 := Lib.hid hr3; clear hr3)
      all_goals (
        ((try simp only [Exit.inBlock, Exit.then]); refine bodyPost_ret (res5 rfl _ _ _) rfl ?_)
        exact ⟨HK.out.2.1.trans (hb3.mono HK.out.2.1.size), _, _, _, _, _, _, _, rfl, HR3.out⟩)
set_option maxHeartbeats 8000000 in
set_option maxRecDepth 100000 in
theorem iget_c (A : Option Addr) (n c : Nat) (w : World) (ok : Bool) (hV : Cfg0 w) (hG : Calls Tryd.prog 68 #[cfg, .slice A n c, .slice none 0 0] w fun e w' => IgPost w ok e w') :
    Calls Tryd.prog 49 #[.slice A n c, .slice none 0 0] w fun e w' => IgPost w ok e w' := by
  obtain ⟨c0, c1, c2⟩ := hV
  unfold cfg at hG
  have HG := Lib.hid hG
  clear hG
  go_enter Tryd.func49, Tryd.ntmps49
  cases ok with
  | true =>
    go_wp2_with (go_at_call 68; (with_reducible refine HG.out.mono ?_); rintro e w3 ⟨hb3, A3, n3, c3, r3, z1, z2, z3, rfl, hr3⟩; have HR3 := Lib.hid hr3; clear hr3)
    ((try simp only [Exit.inBlock, Exit.then]); refine bodyPost_ret (res5 rfl _ _ _) rfl ?_)
    exact ⟨hb3, A3, n3, c3, r3, z1, z2, z3, rfl, HR3.out⟩
  | false =>
    go_wp2_with (go_at_call 68; (with_reducible refine HG.out.mono ?_); rintro e w3 ⟨hb3, z1, z2, z3, tp, p, rfl⟩)
    ((try simp only [Exit.inBlock, Exit.then]); refine bodyPost_ret (res5 rfl _ _ _) rfl ?_)
    exact ⟨hb3, z1, z2, z3, tp, p, rfl⟩
/-- What Get hands back: an error or none. -/
def GePost (w : World) (ok : Bool) (e : Ending) (w' : World) : Prop :=
  Below w.heap.size w w' ∧
  match ok with
  | true => ∃ A' n c' r z1 z2, e = .returned (.tuple #[.slice A' n c', .int .i64 z1, .int .i64 z2, .nilIface]) ∧ ReadsInt w' .u8 A' n r
  | false => ∃ z1 z2 tp p, e = .returned (.tuple #[.slice none 0 0, .int .i64 z1, .int .i64 z2, .iface tp p])
set_option maxHeartbeats 8000000 in
set_option maxRecDepth 100000 in
theorem get_c (A : Option Addr) (n c : Nat) (w : World) (ok : Bool) (hG : Calls Tryd.prog 49 #[.slice A n c, .slice none 0 0] w fun e w' => IgPost w ok e w') :
    Calls Tryd.prog 33 #[.slice A n c, .slice none 0 0] w fun e w' => GePost w ok e w' := by
  have HG := Lib.hid hG
  clear hG
  go_enter Tryd.func33, Tryd.ntmps33
  cases ok with
  | true =>
    go_wp2_with (go_at_call 49; (with_reducible refine HG.out.mono ?_); rintro e w3 ⟨hb3, A3, n3, c3, r3, z1, z2, z3, rfl, hr3⟩; have HR3 := Lib.hid hr3; clear hr3)
    ((try simp only [Exit.inBlock, Exit.then]); refine bodyPost_ret (res4 rfl _ _ _) rfl ?_)
    exact ⟨hb3, A3, n3, c3, r3, z1, z3, rfl, HR3.out⟩
  | false =>
    go_wp2_with (go_at_call 49; (with_reducible refine HG.out.mono ?_); rintro e w3 ⟨hb3, z1, z2, z3, tp, p, rfl⟩)
    ((try simp only [Exit.inBlock, Exit.then]); refine bodyPost_ret (res4 rfl _ _ _) rfl ?_)
    exact ⟨hb3, z1, z3, tp, p, rfl⟩
end Go.Proofs.YtgbliniamkpocaaDoor.Jp
/- jsonparser.getTypeConfig at a number, at a word. -/
namespace Go.Proofs.YtgbliniamkpocaaDoor.Jp
open Go.RowKit Go.Proofs.YtgbliniamkpocaaDoorW.PrintWords Go.Proofs.YtgbliniamkpocaaDoor.Kit

theorem te_drop (l : List Int) (m : Nat) : ∀ (d i : Nat), l.length - (m + i) ≤ d → m + i ≤ l.length → m + te (l.drop m) i = te l (m + i) := by
  intro d
  induction d with
  | zero =>
    intro i hd hi
    rw [te_stop (l := l) (.inl (by omega)), te_stop (.inl (by rw [List.length_drop]; omega))]
  | succ d ih =>
    intro i hd hi
    by_cases h : m + i < l.length ∧ ¬ isDl (gb l (m + i))
    · rw [te_go (l := l) h.1 h.2, te_go (by rw [List.length_drop]; omega) (by rw [gb_drop]; exact h.2)]
      exact ih (i + 1) (by omega) (by omega)
    · have hs : l.length ≤ m + i ∨ isDl (gb l (m + i)) := by
        by_cases h1 : m + i < l.length
        · right
          exact Classical.byContradiction (fun h2 => h ⟨h1, h2⟩)
        · left
          omega
      rw [te_stop (l := l) hs, te_stop (by rw [List.length_drop, gb_drop]; rcases hs with h | h; (left; omega); (right; exact h))]
set_option pp.maxSteps 3000
set_option maxHeartbeats 8000000 in
set_option maxRecDepth 100000 in
theorem gt_num (A : Option Addr) (c : Nat) (l : List Int) (off : Nat) (w : World) (hr : ReadsInt w .u8 A l.length l) (hlc : l.length ≤ c) (hlm : l.length ≤ 140737488355328)
    (hoff : off < l.length) (hx : gb l off = 45 ∨ (48 ≤ gb l off ∧ gb l off ≤ 57)) :
    Calls Tryd.prog 85 #[cfg, .slice A l.length c, .int .i64 off] w fun e w' => GtPost w c l off 2 (some (te l off)) e w' := by
  have hll : l.length ≤ 9223372036854775807 := hr.2.1
  have hlb : (l.length : Int) ≤ 140737488355328 := by omega
  obtain ⟨ad, rfl, hcell⟩ := hr.at_ off (by omega) (by omega)
  obtain ⟨x, hxe⟩ : ∃ x, gb l off = x := ⟨_, rfl⟩
  rw [hxe] at hx
  have hcell' : w.cell? (ad.add off) = some (.int .u8 x) := by rw [Int.toNat_natCast] at hcell; rw [hcell, ← hxe]; simp [rd, gb]
  have hba : Below w.heap.size w (w.alloc (.cells #[.bool false, .bool false, .int .i64 0] 80)) := (Below.refl _ _).alloc (Nat.le_refl _) _
  have hcA : (w.alloc (.cells #[.bool false, .bool false, .int .i64 0] 80)).cell? (ad.add off) = some (.int .u8 x) := by rw [hba.cell (World.block_lt_of_cell? w _ hcell')]; exact hcell'
  obtain ⟨c0, c1, c2⟩ := CfgAt.box w
  have hR := hr.below hba
  have HR := Lib.hid (And.intro hR hba)
  obtain ⟨E, hEe⟩ : ∃ E, te (l.drop off) 0 = E := ⟨_, rfl⟩
  have htd := te_drop l off _ 0 (Nat.le_refl _) (by omega)
  rw [Nat.add_zero, hEe] at htd
  have hte := te_le l _ off (Nat.le_refl _) (by omega)
  have HT : Hid (Calls Tryd.prog 95 #[.slice (some (ad.add off)) (l.drop off).length (c - off)] (w.alloc (.cells #[.bool false, .bool false, .int .i64 0] 80)) fun e w' => e = .returned (.int .i64 (E : Int)) ∧ Below (w.alloc (.cells #[.bool false, .bool false, .int .i64 0] 80)).heap.size (w.alloc (.cells #[.bool false, .bool false, .int .i64 0] 80)) w') := Lib.hid (by
    have hd := hR.drop_ off (by omega) hlc
    rw [if_neg (show ¬ c = off by omega), ← List.length_drop] at hd
    have := te_c _ (c - off) (l.drop off) _ hd (by rw [List.length_drop]; omega) (by rw [List.length_drop]; omega)
    rwa [hEe] at this)
  rw [List.length_drop] at HT
  have HE := Lib.hid htd
  have hEl : off + E ≤ l.length := by omega
  clear hEe hte htd hcell hcell' hr hba hxe hR
  have e34 : (x == 34) = false := by simp; omega
  have e39 : (x == 39) = false := by simp; omega
  have e91 : (x == 91) = false := by simp; omega
  have e123 : (x == 123) = false := by simp; omega
  unfold cfg
  go_enter Tryd.func85, Tryd.ntmps85
  go_upto_region 23 with (go_at_call 95; (with_reducible refine HT.out.mono ?_); rintro e w2 ⟨rfl, hb2⟩)
  have hc2 : w2.cell? (ad.add off) = some (.int .u8 x) := by rw [hb2.cell (World.block_lt_of_cell? _ _ hcA)]; exact hcA
  have HB2 := Lib.hid (And.intro (HR.out.1.below hb2) (HR.out.2.trans (hb2.mono HR.out.2.size)))
  clear HT hb2 HR hcA c0 c1 c2 e34 e39 e91 e123
  have hxx : x = 45 ∨ x = 48 ∨ x = 49 ∨ x = 50 ∨ x = 51 ∨ x = 52 ∨ x = 53 ∨ x = 54 ∨ x = 55 ∨ x = 56 ∨ x = 57 := by omega
  clear hx
  rcases hxx with rfl | rfl | rfl | rfl | rfl | rfl | rfl | rfl | rfl | rfl | rfl
  all_goals (
    go_wp2
    ((try simp only [Exit.inBlock, Exit.then]); refine bodyPost_ret (res4 rfl _ _ _) rfl ?_)
    refine ⟨HB2.out.2, some (ad.add off), ?_, ?_⟩
    · rw [← HE.out]
      refine congrArg Ending.returned ?_
      simp
      try omega
    · have hrr := HB2.out.1.drop_ off (by omega) hlc
      rw [if_neg (show ¬ c = off by omega)] at hrr
      have hrt := hrr.take_ E (by omega)
      rw [← HE.out, List.drop_take, Nat.add_sub_cancel_left]
      exact hrt)
end Go.Proofs.YtgbliniamkpocaaDoor.Jp
