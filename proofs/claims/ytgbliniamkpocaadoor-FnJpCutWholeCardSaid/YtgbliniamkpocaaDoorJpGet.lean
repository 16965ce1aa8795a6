/- jsonparser.Get without keys. -/
import Derived.Test.YtgbliniamkpocaaDoorJpGt
import Derived.Test.YtgbliniamkpocaaDoorPEscx2
namespace Go.Proofs.YtgbliniamkpocaaDoor.Jp
open Go.RowKit Go.Proofs.YtgbliniamkpocaaDoorW.PrintWords Go.Proofs.YtgbliniamkpocaaDoor.Kit Go.Proofs.YtgbliniamkpocaaDoor.PEsc

/-- The first byte that is no blank. -/
def nt (l : List Int) : Int := if bl l 0 < l.length then (bl l 0 : Int) else -1
theorem bl_stop {l : List Int} {i : Nat} (h : ¬ isBlank (gb l i)) : bl l i = i := by rw [bl, dif_neg h]
theorem bl_go {l : List Int} {i : Nat} (h : isBlank (gb l i)) : bl l i = bl l (i + 1) := by rw [bl, dif_pos h]
theorem nt_l0 (l : List Int) (hl : l.length ≤ 140737488355328) : ∀ (d i : Nat), l.length - i ≤ d → i ≤ l.length → Ev (fun k => jsonparser_nextTokenConfig.l0 k l (l.length : Int) (i : Int)) (if bl l i < l.length then (bl l i : Int) else -1) := by
  intro d
  induction d with
  | zero =>
    intro i hd hi
    have hn : ¬ isBlank (gb l i) := fun h => by have := blank_in h; omega
    rw [bl_stop hn, if_neg (by omega)]
    refine Ev.step (f := fun _ => some (-1 : Int)) (fun k => ?_) (Ev.now _)
    simp only [jsonparser_nextTokenConfig.l0]
    rw [if_neg (by omega)]
  | succ d ih =>
    intro i hd hi
    by_cases hlt : i < l.length
    · have hrd : rd l (i : Int) = gb l i := by simp [rd, gb]
      by_cases hbk : isBlank (gb l i)
      · rw [bl_go hbk]
        refine Ev.step (f := fun k => jsonparser_nextTokenConfig.l0 k l (l.length : Int) ((i + 1 : Nat) : Int)) (fun k => ?_) (ih (i + 1) (by omega) (by omega))
        simp only [jsonparser_nextTokenConfig.l0]
        rw [if_pos (by omega), if_pos (by omega), if_pos (by omega), hrd, show wrap64 ((i : Int) + 1) = ((i + 1 : Nat) : Int) by unfold wrap64; omega]
        unfold isBlank at hbk
        by_cases h1 : gb l i = 32
        · rw [if_pos h1]
        by_cases h2 : gb l i = 10
        · rw [if_neg h1, if_pos h2]
        by_cases h3 : gb l i = 13
        · rw [if_neg h1, if_neg h2, if_pos h3]
        · rw [if_neg h1, if_neg h2, if_neg h3, if_pos (by omega)]
      · rw [bl_stop hbk, if_pos hlt]
        refine Ev.step (f := fun _ => some (i : Int)) (fun k => ?_) (Ev.now _)
        simp only [jsonparser_nextTokenConfig.l0]
        rw [if_pos (by omega), if_pos (by omega), if_pos (by omega), hrd]
        unfold isBlank at hbk
        rw [if_neg (by omega), if_neg (by omega), if_neg (by omega), if_neg (by omega)]
    · have hn : ¬ isBlank (gb l i) := fun h => by have := blank_in h; omega
      rw [bl_stop hn, if_neg (by omega)]
      refine Ev.step (f := fun _ => some (-1 : Int)) (fun k => ?_) (Ev.now _)
      simp only [jsonparser_nextTokenConfig.l0]
      rw [if_neg (by omega)]
theorem nt_c (A : Option Addr) (c : Nat) (l : List Int) (w : World) (hr : ReadsInt w .u8 A l.length l) (hc : l.length ≤ c) (hl : l.length ≤ 140737488355328) :
    Calls Tryd.prog 70 #[cfg, .slice A l.length c] w fun e w' => e = .returned (.int .i64 (nt l)) ∧ Below w.heap.size w w' := by
  obtain ⟨k, hk⟩ := nt_l0 l hl _ 0 (Nat.le_refl _) (Nat.zero_le _)
  exact jsonparser_nextTokenConfig.calls k false false 0 A c l _ w (Kd.C_of_reads (d := (0 : Int)) (h1 := fun _ => rfl) hr) hc (hk k (Nat.le_refl _))
/-- The sentinels that Get reads. -/
def Errs (w : World) : Prop := ErrAt 2 w ∧ ErrAt 5 w ∧ ErrAt 8 w ∧ ErrAt 9 w
theorem Errs.below {w w1 : World} (h : Errs w) (hb : Below w.heap.size w w1) : Errs w1 := ⟨h.1.below hb, h.2.1.below hb, h.2.2.1.below hb, h.2.2.2.below hb⟩
def KpI (A : Option Addr) (l : List Int) (w w' : World) : Prop := ReadsInt w' .u8 A l.length l ∧ Below w.heap.size w w' ∧ Errs w'
theorem ig_step {A : Option Addr} {l : List Int} {w w1 w2 : World} (h : CfgAt w.heap.size w1) (hk : KpI A l w w1) (hb : Below w1.heap.size w1 w2) :
    w2.cell? ⟨w.heap.size, 0, none⟩ = some (.bool false) ∧ w2.cell? ⟨w.heap.size, 1, none⟩ = some (.bool false) ∧ w2.cell? ⟨w.heap.size, 2, none⟩ = some (.int .i64 0) ∧ KpI A l w w2 := by
  have h2 := h.below hb
  exact ⟨h2.1, h2.2.1, h2.2.2, hk.1.below hb, hk.2.1.trans (hb.mono hk.2.1.size), hk.2.2.below hb⟩
/-- What internalGet hands back: an error or none. -/
def IgPost (w : World) (ok : Bool) (e : Ending) (w' : World) : Prop :=
  Below w.heap.size w w' ∧
  match ok with
  | true => ∃ A' n c' r z1 z2 z3, e = .returned (.tuple #[.slice A' n c', .int .i64 z1, .int .i64 z2, .int .i64 z3, .nilIface]) ∧ ReadsInt w' .u8 A' n r
  | false => ∃ z1 z2 z3 tp p, e = .returned (.tuple #[.slice none 0 0, .int .i64 z1, .int .i64 z2, .int .i64 z3, .iface tp p])
set_option pp.maxSteps 3000
set_option maxHeartbeats 8000000 in
set_option maxRecDepth 100000 in
theorem ig_blank (A : Option Addr) (c : Nat) (l : List Int) (w : World) (hr : ReadsInt w .u8 A l.length l) (hlc : l.length ≤ c) (hlm : l.length ≤ 140737488355328) (hE : Errs w) (hn : l.length ≤ bl l 0) :
    Calls Tryd.prog 68 #[cfg, .slice A l.length c, .slice none 0 0] w fun e w' => IgPost w false e w' := by
  have hll : l.length ≤ 9223372036854775807 := hr.2.1
  have hba : Below w.heap.size w (w.alloc (.cells #[.bool false, .bool false, .int .i64 0] 80)) := (Below.refl _ _).alloc (Nat.le_refl _) _
  obtain ⟨c0, c1, c2⟩ := CfgAt.box w
  obtain ⟨i5, hi5, hz5, hsz5, hby5⟩ : ∃ i, Tryd.prog.info? 5 = some i ∧ i.zero = some (.int .u8 0) ∧ i.size = 1 ∧ i.bytes = 1 := ⟨_, rfl, rfl, rfl, rfl⟩
  obtain ⟨A', hs1, hs2⟩ := print_cut (P := Tryd.prog) 57 5 .i64 Tryd.underlying57 hi5 hsz5 A l.length c 0 (Nat.zero_le _)
  have hs1' : ∀ W : World, (Instr.slice 57 (.slice A l.length c) (some (.int .i64 0)) none none).run Tryd.prog W = .ok (.slice A' l.length c) W := fun W => by have := hs1 W; simpa using this
  have hNT : Hid (∀ W : World, ReadsInt W .u8 A l.length l → Calls Tryd.prog 70 #[cfg, .slice A' l.length c] W fun e w' => e = .returned (.int .i64 (-1)) ∧ Below W.heap.size W w') :=
    Lib.hid (fun W hW => (nt_c A' c l W (by simpa using hs2 W .u8 l hlc hW) hlc hlm).mono (fun e w' h => ⟨h.1.trans (by rw [nt, if_neg (by omega)]), h.2⟩))
  have kpd : KpI A l w (w.alloc (.cells #[.bool false, .bool false, .int .i64 0] 80)).drew := ⟨hr.below hba.drew, hba.drew, hE.below hba.drew⟩
  have hrd : ReadsInt (w.alloc (.cells #[.bool false, .bool false, .int .i64 0] 80)).drew .u8 A l.length l := hr.below hba.drew
  clear hs1 hs2 hE hr hba hi5 hz5 hsz5 hby5 hn
  unfold cfg at hNT ⊢
  go_enter Tryd.func68, Tryd.ntmps68
  go_upto_region 5 with (fail)
  go_region_held3 (fun w' => w'.cell? ⟨w.heap.size, 0, none⟩ = some (.bool false) ∧ w'.cell? ⟨w.heap.size, 1, none⟩ = some (.bool false) ∧ w'.cell? ⟨w.heap.size, 2, none⟩ = some (.int .i64 0) ∧ KpI A l w w')
    (first | exact ⟨c0, c1, c2, kpd⟩ | exact ⟨d0, d1, d2, kp2⟩)
    (first | (go_at_call 70; (with_reducible refine (hNT.out _ hrd).mono ?_); rintro e w2 ⟨rfl, hb2⟩; obtain ⟨d0, d1, d2, kp2⟩ := ig_step (w := w) (w1 := (w.alloc (.cells #[.bool false, .bool false, .int .i64 0] 80)).drew) ⟨c0, c1, c2⟩ kpd hb2))
  have HK := Lib.hid kp2
  clear c0 c1 c2 d0 d1 d2 kp2 kpd hrd hNT hb2 hs1'
  obtain ⟨tp, p, he⟩ := HK.out.2.2.2.1
  go_upto_region 7 with (fail)
  go_quiet (fail)
  go_wp2
  ((try simp only [Exit.inBlock, Exit.then]); refine bodyPost_ret (res5 rfl _ _ _) rfl ?_)
  exact ⟨pw_below_drewN HK.out.2.1 _, _, _, _, tp, p, rfl⟩
set_option maxHeartbeats 8000000 in
set_option maxRecDepth 100000 in
theorem ig_at (A : Option Addr) (c : Nat) (l : List Int) (w : World) (hr : ReadsInt w .u8 A l.length l) (hlc : l.length ≤ c) (hlm : l.length ≤ 140737488355328) (hE : Errs w) (b : Nat) (hbl : bl l 0 = b) (hb : b < l.length) (k : Int) (r : Option Nat)
    (hk : (k = 1 ∧ ∀ j, r = some j → b + 2 ≤ j) ∨ k = 3 ∨ k = 4) (hj : ∀ j, r = some j → b < j ∧ j ≤ l.length)
    (hG : ∀ W : World, ReadsInt W .u8 A l.length l → Errs W → Calls Tryd.prog 85 #[cfg, .slice A l.length c, .int .i64 b] W fun e w' => GtPost W c l b k r e w') :
    Calls Tryd.prog 68 #[cfg, .slice A l.length c, .slice none 0 0] w fun e w' => IgPost w r.isSome e w' := by
  have hll : l.length ≤ 9223372036854775807 := hr.2.1
  have hba : Below w.heap.size w (w.alloc (.cells #[.bool false, .bool false, .int .i64 0] 80)) := (Below.refl _ _).alloc (Nat.le_refl _) _
  obtain ⟨c0, c1, c2⟩ := CfgAt.box w
  obtain ⟨i5, hi5, hz5, hsz5, hby5⟩ : ∃ i, Tryd.prog.info? 5 = some i ∧ i.zero = some (.int .u8 0) ∧ i.size = 1 ∧ i.bytes = 1 := ⟨_, rfl, rfl, rfl, rfl⟩
  obtain ⟨A', hs1, hs2⟩ := print_cut (P := Tryd.prog) 57 5 .i64 Tryd.underlying57 hi5 hsz5 A l.length c 0 (Nat.zero_le _)
  have hs1' : ∀ W : World, (Instr.slice 57 (.slice A l.length c) (some (.int .i64 0)) none none).run Tryd.prog W = .ok (.slice A' l.length c) W := fun W => by have := hs1 W; simpa using this
  have hNT : Hid (∀ W : World, ReadsInt W .u8 A l.length l → Calls Tryd.prog 70 #[cfg, .slice A' l.length c] W fun e w' => e = .returned (.int .i64 b) ∧ Below W.heap.size W w') :=
    Lib.hid (fun W hW => (nt_c A' c l W (by simpa using hs2 W .u8 l hlc hW) hlc hlm).mono (fun e w' h => ⟨h.1.trans (by rw [nt, hbl, if_pos hb]), h.2⟩))
  have kpd : KpI A l w (w.alloc (.cells #[.bool false, .bool false, .int .i64 0] 80)).drew := ⟨hr.below hba.drew, hba.drew, hE.below hba.drew⟩
  have hrd : ReadsInt (w.alloc (.cells #[.bool false, .bool false, .int .i64 0] 80)).drew .u8 A l.length l := hr.below hba.drew
  have HG := Lib.hid hG
  have HKK := Lib.hid (And.intro hk hj)
  have hnb : ((b : Int) == -1) = false := by simp
  clear hs1 hs2 hE hr hba hi5 hz5 hsz5 hby5 hG hbl hk hj
  unfold cfg at hNT HG ⊢
  go_enter Tryd.func68, Tryd.ntmps68
  go_upto_region 5 with (fail)
  go_region_held3 (fun w' => w'.cell? ⟨w.heap.size, 0, none⟩ = some (.bool false) ∧ w'.cell? ⟨w.heap.size, 1, none⟩ = some (.bool false) ∧ w'.cell? ⟨w.heap.size, 2, none⟩ = some (.int .i64 0) ∧ KpI A l w w')
    (first | exact ⟨c0, c1, c2, kpd⟩ | exact ⟨d0, d1, d2, kp2⟩)
    (first | (go_at_call 70; (with_reducible refine (hNT.out _ hrd).mono ?_); rintro e w2 ⟨rfl, hb2⟩; obtain ⟨d0, d1, d2, kp2⟩ := ig_step (w := w) (w1 := (w.alloc (.cells #[.bool false, .bool false, .int .i64 0] 80)).drew) ⟨c0, c1, c2⟩ kpd hb2))
  have HK := Lib.hid kp2
  clear c0 c1 c2 kp2 kpd hrd hNT hb2 hs1'
  have HG2 := Lib.hid (HG.out w2 HK.out.1 HK.out.2.2)
  clear HG
  cases r with
  | none =>
    go_wp2_with (go_at_call 85; (with_reducible refine HG2.out.mono ?_); rintro e w3 ⟨hb3, tp, p, rfl⟩)
    ((try simp only [Exit.inBlock, Exit.then]); refine bodyPost_ret (res5 rfl _ _ _) rfl ?_)
    exact ⟨HK.out.2.1.trans (hb3.mono HK.out.2.1.size), _, _, _, tp, p, rfl⟩
  | some j =>
    obtain ⟨hj1, hj2⟩ := HKK.out.2 j rfl
    rcases HKK.out.1 with ⟨rfl, hk1⟩ | hk3
    · have hk2 := hk1 j rfl
      clear hk1
      go_wp2_with (go_at_call 85; (with_reducible refine HG2.out.mono ?_); rintro e w3 ⟨hb3, A3, rfl, hr3⟩; have HR3 := Lib.hid hr3; clear hr3)
      all_goals (
        ((try simp only [Exit.inBlock, Exit.then]); refine bodyPost_ret (res5 rfl _ _ _) rfl ?_)
        have hr1 := HR3.out.drop_ (c := j - b + 1) 1 (by omega) (by omega)
        rw [if_neg (show ¬ j - b + 1 = 1 by omega)] at hr1
        have hr2 := hr1.take_ (j - b - 1 - 1) (by omega)
        refine ⟨HK.out.2.1.trans (hb3.mono HK.out.2.1.size), ?_⟩)
      · rename_i h0
        exact ⟨_, 0, 0, [], _, _, _, rfl, ⟨rfl, by simp, fun h => by omega⟩⟩
      · exact ⟨_, _, _, _, _, _, _, rfl, hr2⟩
    · have ek : (k == 1) = false := by simp; omega
      go_wp2_with (go_at_call 85; (with_reducible refine HG2.out.mono ?_); rintro e w3 ⟨hb3, A3, rfl, hr3⟩; have HR3 := Lib.hid hr3; clear hr3)
      all_goals (
        ((try simp only [Exit.inBlock, Exit.then]); refine bodyPost_ret (res5 rfl _ _ _) rfl ?_)
        exact ⟨HK.out.2.1.trans (hb3.mono HK.out.2.1.size), _, _, _, _, _, _, _, rfl, HR3.out⟩)
set_option maxHeartbeats 8000000 in
set_option maxRecDepth 100000 in
theorem iget_c (A : Option Addr) (n c : Nat) (w : World) (ok : Bool) (hV : Cfg0 w) (hG : Calls Tryd.prog 68 #[cfg, .slice A n c, .slice none 0 0] w fun e w' => IgPost w ok e w') :
    Calls Tryd.prog 49 #[.slice A n c, .slice none 0 0] w fun e w' => IgPost w ok e w' := by
  obtain ⟨c0, c1, c2⟩ := hV
  unfold cfg at hG
  have HG := Lib.hid hG
  clear hG
  go_enter Tryd.func49, Tryd.ntmps49
  cases ok with
  | true =>
    go_wp2_with (go_at_call 68; (with_reducible refine HG.out.mono ?_); rintro e w3 ⟨hb3, A3, n3, c3, r3, z1, z2, z3, rfl, hr3⟩; have HR3 := Lib.hid hr3; clear hr3)
    ((try simp only [Exit.inBlock, Exit.then]); refine bodyPost_ret (res5 rfl _ _ _) rfl ?_)
    exact ⟨hb3, A3, n3, c3, r3, z1, z2, z3, rfl, HR3.out⟩
  | false =>
    go_wp2_with (go_at_call 68; (with_reducible refine HG.out.mono ?_); rintro e w3 ⟨hb3, z1, z2, z3, tp, p, rfl⟩)
    ((try simp only [Exit.inBlock, Exit.then]); refine bodyPost_ret (res5 rfl _ _ _) rfl ?_)
    exact ⟨hb3, z1, z2, z3, tp, p, rfl⟩
/-- What Get hands back: an error or none. -/
def GePost (w : World) (ok : Bool) (e : Ending) (w' : World) : Prop :=
  Below w.heap.size w w' ∧
  match ok with
  | true => ∃ A' n c' r z1 z2, e = .returned (.tuple #[.slice A' n c', .int .i64 z1, .int .i64 z2, .nilIface]) ∧ ReadsInt w' .u8 A' n r
  | false => ∃ z1 z2 tp p, e = .returned (.tuple #[.slice none 0 0, .int .i64 z1, .int .i64 z2, .iface tp p])
set_option maxHeartbeats 8000000 in
set_option maxRecDepth 100000 in
theorem get_c (A : Option Addr) (n c : Nat) (w : World) (ok : Bool) (hG : Calls Tryd.prog 49 #[.slice A n c, .slice none 0 0] w fun e w' => IgPost w ok e w') :
    Calls Tryd.prog 33 #[.slice A n c, .slice none 0 0] w fun e w' => GePost w ok e w' := by
  have HG := Lib.hid hG
  clear hG
  go_enter Tryd.func33, Tryd.ntmps33
  cases ok with
  | true =>
    go_wp2_with (go_at_call 49; (with_reducible refine HG.out.mono ?_); rintro e w3 ⟨hb3, A3, n3, c3, r3, z1, z2, z3, rfl, hr3⟩; have HR3 := Lib.hid hr3; clear hr3)
    ((try simp only [Exit.inBlock, Exit.then]); refine bodyPost_ret (res4 rfl _ _ _) rfl ?_)
    exact ⟨hb3, A3, n3, c3, r3, z1, z3, rfl, HR3.out⟩
  | false =>
    go_wp2_with (go_at_call 49; (with_reducible refine HG.out.mono ?_); rintro e w3 ⟨hb3, z1, z2, z3, tp, p, rfl⟩)
    ((try simp only [Exit.inBlock, Exit.then]); refine bodyPost_ret (res4 rfl _ _ _) rfl ?_)
    exact ⟨hb3, z1, z3, tp, p, rfl⟩
end Go.Proofs.YtgbliniamkpocaaDoor.Jp
