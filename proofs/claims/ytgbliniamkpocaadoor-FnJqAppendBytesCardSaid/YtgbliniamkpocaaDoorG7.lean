/- Texts of this claim, laid together. -/
import Derived.Test.YtgbliniamkpocaaDoorG6
/- jsonparser.getTypeConfig at a word. -/
namespace Go.Proofs.YtgbliniamkpocaaDoor.Jp
open Go.RowKit Go.Proofs.YtgbliniamkpocaaDoorW.PrintWords Go.Proofs.YtgbliniamkpocaaDoor.Kit
set_option maxHeartbeats 8000000 in
set_option maxRecDepth 100000 in
theorem gt_true (A : Option Addr) (c : Nat) (l : List Int) (off : Nat) (w : World) (hr : ReadsInt w .u8 A l.length l) (hlc : l.length ≤ c) (hlm : l.length ≤ 140737488355328)
    (hoff : off < l.length) (hx : (l.take (te l off)).drop off = [116, 114, 117, 101]) :
    Calls Tryd.prog 85 #[cfg, .slice A l.length c, .int .i64 off] w fun e w' => GtPost w c l off 5 (some (te l off)) e w' := by
  have hll : l.length ≤ 9223372036854775807 := hr.2.1
  have hlb : (l.length : Int) ≤ 140737488355328 := by omega
  obtain ⟨ad, rfl, hcell⟩ := hr.at_ off (by omega) (by omega)
  obtain ⟨x, hxe⟩ : ∃ x, gb l off = x := ⟨_, rfl⟩
  have hte := te_le l _ off (Nat.le_refl _) (by omega)
  have hWD := Lib.hid hx
  obtain rfl : x = 116 := by
    have h0 := congrArg (fun r => r.getD 0 0) hx
    have hlt : off < te l off := by
      have := congrArg List.length hx
      simp only [List.length_drop, List.length_take, List.length_cons, List.length_nil] at this
      omega
    rw [← hxe]
    unfold gb
    simp only [List.getD, List.getElem?_drop, List.getElem?_take, Nat.add_zero] at h0 ⊢
    rw [if_pos hlt] at h0
    simpa using h0
  have hcell' : w.cell? (ad.add off) = some (.int .u8 116) := by rw [Int.toNat_natCast] at hcell; rw [hcell, ← hxe]; simp [rd, gb]
  have hba : Below w.heap.size w (w.alloc (.cells #[.bool false, .bool false, .int .i64 0] 80)) := (Below.refl _ _).alloc (Nat.le_refl _) _
  have hcA : (w.alloc (.cells #[.bool false, .bool false, .int .i64 0] 80)).cell? (ad.add off) = some (.int .u8 116) := by rw [hba.cell (World.block_lt_of_cell? w _ hcell')]; exact hcell'
  obtain ⟨c0, c1, c2⟩ := CfgAt.box w
  have hR := hr.below hba
  have HR := Lib.hid (And.intro hR hba)
  obtain ⟨E, hEe⟩ : ∃ E, te (l.drop off) 0 = E := ⟨_, rfl⟩
  have htd := te_drop l off _ 0 (Nat.le_refl _) (by omega)
  rw [Nat.add_zero, hEe] at htd
  have HT : Hid (Calls Tryd.prog 95 #[.slice (some (ad.add off)) (l.drop off).length (c - off)] (w.alloc (.cells #[.bool false, .bool false, .int .i64 0] 80)) fun e w' => e = .returned (.int .i64 (E : Int)) ∧ Below (w.alloc (.cells #[.bool false, .bool false, .int .i64 0] 80)).heap.size (w.alloc (.cells #[.bool false, .bool false, .int .i64 0] 80)) w') := Lib.hid (by
    have hd := hR.drop_ off (by omega) hlc
    rw [if_neg (show ¬ c = off by omega), ← List.length_drop] at hd
    have := te_c _ (c - off) (l.drop off) _ hd (by rw [List.length_drop]; omega) (by rw [List.length_drop]; omega)
    rwa [hEe] at this)
  rw [List.length_drop] at HT
  have HE := Lib.hid htd
  have hEl : off + E ≤ l.length := by omega
  clear hEe hte htd hcell hcell' hr hba hxe hR hx
  unfold cfg
  go_enter Tryd.func85, Tryd.ntmps85
  go_upto_region 23 with (go_at_call 95; (with_reducible refine HT.out.mono ?_); rintro e w2 ⟨rfl, hb2⟩)
  have hc2 : w2.cell? (ad.add off) = some (.int .u8 116) := by rw [hb2.cell (World.block_lt_of_cell? _ _ hcA)]; exact hcA
  have HB2 := Lib.hid (And.intro (HR.out.1.below hb2) (HR.out.2.trans (hb2.mono HR.out.2.size)))
  clear HT hb2 HR hcA c0 c1 c2
  have hrr := HB2.out.1.drop_ off (by omega) hlc
  rw [if_neg (show ¬ c = off by omega)] at hrr
  have hrt := hrr.take_ E (by omega)
  have hwd : (l.drop off).take E = [116, 114, 117, 101] := by
    have := hWD.out
    rw [← HE.out, List.drop_take, Nat.add_sub_cancel_left] at this
    exact this
  have hst := string_of_reads (P := Tryd.prog) (src := 57) (dst := 9) (e := 5) (c := c - off) Tryd.underlying57 Tryd.underlying5 Tryd.underlying9 hrt
  rw [hwd, show strOfNums [116, 114, 117, 101] = ⟨#[116, 114, 117, 101]⟩ from rfl] at hst
  have hst' : (convert 57 9 (.slice (some (ad.add off)) (off + E - off) (c - off))).run Tryd.prog w2 = Result.ok (.string ⟨#[116, 114, 117, 101]⟩) w2 := by
    rw [show off + E - off = E by omega]
    exact hst
  have hstE : (convert 57 9 (.slice (some (ad.add off)) E (c - off))).run Tryd.prog w2 = Result.ok (.string ⟨#[116, 114, 117, 101]⟩) w2 := hst
  have HRT := Lib.hid hrt
  clear hrr hrt hwd hst
  go_wp2
  ((try simp only [Exit.inBlock, Exit.then]); refine bodyPost_ret (res4 rfl _ _ _) rfl ?_)
  refine ⟨HB2.out.2, some (ad.add off), ?_, ?_⟩
  · rw [← HE.out]
    refine congrArg Ending.returned ?_
    simp
    try omega
  · rw [← HE.out, List.drop_take, Nat.add_sub_cancel_left]
    exact HRT.out
set_option maxHeartbeats 8000000 in
set_option maxRecDepth 100000 in
theorem gt_false (A : Option Addr) (c : Nat) (l : List Int) (off : Nat) (w : World) (hr : ReadsInt w .u8 A l.length l) (hlc : l.length ≤ c) (hlm : l.length ≤ 140737488355328)
    (hoff : off < l.length) (hx : (l.take (te l off)).drop off = [102, 97, 108, 115, 101]) :
    Calls Tryd.prog 85 #[cfg, .slice A l.length c, .int .i64 off] w fun e w' => GtPost w c l off 5 (some (te l off)) e w' := by
  have hll : l.length ≤ 9223372036854775807 := hr.2.1
  have hlb : (l.length : Int) ≤ 140737488355328 := by omega
  obtain ⟨ad, rfl, hcell⟩ := hr.at_ off (by omega) (by omega)
  obtain ⟨x, hxe⟩ : ∃ x, gb l off = x := ⟨_, rfl⟩
  have hte := te_le l _ off (Nat.le_refl _) (by omega)
  have hWD := Lib.hid hx
  obtain rfl : x = 102 := by
    have h0 := congrArg (fun r => r.getD 0 0) hx
    have hlt : off < te l off := by
      have := congrArg List.length hx
      simp only [List.length_drop, List.length_take, List.length_cons, List.length_nil] at this
      omega
    rw [← hxe]
    unfold gb
    simp only [List.getD, List.getElem?_drop, List.getElem?_take, Nat.add_zero] at h0 ⊢
    rw [if_pos hlt] at h0
    simpa using h0
  have hcell' : w.cell? (ad.add off) = some (.int .u8 102) := by rw [Int.toNat_natCast] at hcell; rw [hcell, ← hxe]; simp [rd, gb]
  have hba : Below w.heap.size w (w.alloc (.cells #[.bool false, .bool false, .int .i64 0] 80)) := (Below.refl _ _).alloc (Nat.le_refl _) _
  have hcA : (w.alloc (.cells #[.bool false, .bool false, .int .i64 0] 80)).cell? (ad.add off) = some (.int .u8 102) := by rw [hba.cell (World.block_lt_of_cell? w _ hcell')]; exact hcell'
  obtain ⟨c0, c1, c2⟩ := CfgAt.box w
  have hR := hr.below hba
  have HR := Lib.hid (And.intro hR hba)
  obtain ⟨E, hEe⟩ : ∃ E, te (l.drop off) 0 = E := ⟨_, rfl⟩
  have htd := te_drop l off _ 0 (Nat.le_refl _) (by omega)
  rw [Nat.add_zero, hEe] at htd
  have HT : Hid (Calls Tryd.prog 95 #[.slice (some (ad.add off)) (l.drop off).length (c - off)] (w.alloc (.cells #[.bool false, .bool false, .int .i64 0] 80)) fun e w' => e = .returned (.int .i64 (E : Int)) ∧ Below (w.alloc (.cells #[.bool false, .bool false, .int .i64 0] 80)).heap.size (w.alloc (.cells #[.bool false, .bool false, .int .i64 0] 80)) w') := Lib.hid (by
    have hd := hR.drop_ off (by omega) hlc
    rw [if_neg (show ¬ c = off by omega), ← List.length_drop] at hd
    have := te_c _ (c - off) (l.drop off) _ hd (by rw [List.length_drop]; omega) (by rw [List.length_drop]; omega)
    rwa [hEe] at this)
  rw [List.length_drop] at HT
  have HE := Lib.hid htd
  have hEl : off + E ≤ l.length := by omega
  clear hEe hte htd hcell hcell' hr hba hxe hR hx
  unfold cfg
  go_enter Tryd.func85, Tryd.ntmps85
  go_upto_region 23 with (go_at_call 95; (with_reducible refine HT.out.mono ?_); rintro e w2 ⟨rfl, hb2⟩)
  have hc2 : w2.cell? (ad.add off) = some (.int .u8 102) := by rw [hb2.cell (World.block_lt_of_cell? _ _ hcA)]; exact hcA
  have HB2 := Lib.hid (And.intro (HR.out.1.below hb2) (HR.out.2.trans (hb2.mono HR.out.2.size)))
  clear HT hb2 HR hcA c0 c1 c2
  have hrr := HB2.out.1.drop_ off (by omega) hlc
  rw [if_neg (show ¬ c = off by omega)] at hrr
  have hrt := hrr.take_ E (by omega)
  have hwd : (l.drop off).take E = [102, 97, 108, 115, 101] := by
    have := hWD.out
    rw [← HE.out, List.drop_take, Nat.add_sub_cancel_left] at this
    exact this
  have hst := string_of_reads (P := Tryd.prog) (src := 57) (dst := 9) (e := 5) (c := c - off) Tryd.underlying57 Tryd.underlying5 Tryd.underlying9 hrt
  rw [hwd, show strOfNums [102, 97, 108, 115, 101] = ⟨#[102, 97, 108, 115, 101]⟩ from rfl] at hst
  have hst' : (convert 57 9 (.slice (some (ad.add off)) (off + E - off) (c - off))).run Tryd.prog w2 = Result.ok (.string ⟨#[102, 97, 108, 115, 101]⟩) w2 := by
    rw [show off + E - off = E by omega]
    exact hst
  have hstE : (convert 57 9 (.slice (some (ad.add off)) E (c - off))).run Tryd.prog w2 = Result.ok (.string ⟨#[102, 97, 108, 115, 101]⟩) w2 := hst
  have HRT := Lib.hid hrt
  clear hrr hrt hwd hst
  go_wp2
  ((try simp only [Exit.inBlock, Exit.then]); refine bodyPost_ret (res4 rfl _ _ _) rfl ?_)
  refine ⟨HB2.out.2, some (ad.add off), ?_, ?_⟩
  · rw [← HE.out]
    refine congrArg Ending.returned ?_
    simp
    try omega
  · rw [← HE.out, List.drop_take, Nat.add_sub_cancel_left]
    exact HRT.out
set_option maxHeartbeats 8000000 in
set_option maxRecDepth 100000 in
theorem gt_null (A : Option Addr) (c : Nat) (l : List Int) (off : Nat) (w : World) (hr : ReadsInt w .u8 A l.length l) (hlc : l.length ≤ c) (hlm : l.length ≤ 140737488355328)
    (hoff : off < l.length) (hx : (l.take (te l off)).drop off = [110, 117, 108, 108]) :
    Calls Tryd.prog 85 #[cfg, .slice A l.length c, .int .i64 off] w fun e w' => GtPost w c l off 6 (some (te l off)) e w' := by
  have hll : l.length ≤ 9223372036854775807 := hr.2.1
  have hlb : (l.length : Int) ≤ 140737488355328 := by omega
  obtain ⟨ad, rfl, hcell⟩ := hr.at_ off (by omega) (by omega)
  obtain ⟨x, hxe⟩ : ∃ x, gb l off = x := ⟨_, rfl⟩
  have hte := te_le l _ off (Nat.le_refl _) (by omega)
  have hWD := Lib.hid hx
  obtain rfl : x = 110 := by
    have h0 := congrArg (fun r => r.getD 0 0) hx
    have hlt : off < te l off := by
      have := congrArg List.length hx
      simp only [List.length_drop, List.length_take, List.length_cons, List.length_nil] at this
      omega
    rw [← hxe]
    unfold gb
    simp only [List.getD, List.getElem?_drop, List.getElem?_take, Nat.add_zero] at h0 ⊢
    rw [if_pos hlt] at h0
    simpa using h0
  have hcell' : w.cell? (ad.add off) = some (.int .u8 110) := by rw [Int.toNat_natCast] at hcell; rw [hcell, ← hxe]; simp [rd, gb]
  have hba : Below w.heap.size w (w.alloc (.cells #[.bool false, .bool false, .int .i64 0] 80)) := (Below.refl _ _).alloc (Nat.le_refl _) _
  have hcA : (w.alloc (.cells #[.bool false, .bool false, .int .i64 0] 80)).cell? (ad.add off) = some (.int .u8 110) := by rw [hba.cell (World.block_lt_of_cell? w _ hcell')]; exact hcell'
  obtain ⟨c0, c1, c2⟩ := CfgAt.box w
  have hR := hr.below hba
  have HR := Lib.hid (And.intro hR hba)
  obtain ⟨E, hEe⟩ : ∃ E, te (l.drop off) 0 = E := ⟨_, rfl⟩
  have htd := te_drop l off _ 0 (Nat.le_refl _) (by omega)
  rw [Nat.add_zero, hEe] at htd
  have HT : Hid (Calls Tryd.prog 95 #[.slice (some (ad.add off)) (l.drop off).length (c - off)] (w.alloc (.cells #[.bool false, .bool false, .int .i64 0] 80)) fun e w' => e = .returned (.int .i64 (E : Int)) ∧ Below (w.alloc (.cells #[.bool false, .bool false, .int .i64 0] 80)).heap.size (w.alloc (.cells #[.bool false, .bool false, .int .i64 0] 80)) w') := Lib.hid (by
    have hd := hR.drop_ off (by omega) hlc
    rw [if_neg (show ¬ c = off by omega), ← List.length_drop] at hd
    have := te_c _ (c - off) (l.drop off) _ hd (by rw [List.length_drop]; omega) (by rw [List.length_drop]; omega)
    rwa [hEe] at this)
  rw [List.length_drop] at HT
  have HE := Lib.hid htd
  have hEl : off + E ≤ l.length := by omega
  clear hEe hte htd hcell hcell' hr hba hxe hR hx
  unfold cfg
  go_enter Tryd.func85, Tryd.ntmps85
  go_upto_region 23 with (go_at_call 95; (with_reducible refine HT.out.mono ?_); rintro e w2 ⟨rfl, hb2⟩)
  have hc2 : w2.cell? (ad.add off) = some (.int .u8 110) := by rw [hb2.cell (World.block_lt_of_cell? _ _ hcA)]; exact hcA
  have HB2 := Lib.hid (And.intro (HR.out.1.below hb2) (HR.out.2.trans (hb2.mono HR.out.2.size)))
  clear HT hb2 HR hcA c0 c1 c2
  have hrr := HB2.out.1.drop_ off (by omega) hlc
  rw [if_neg (show ¬ c = off by omega)] at hrr
  have hrt := hrr.take_ E (by omega)
  have hwd : (l.drop off).take E = [110, 117, 108, 108] := by
    have := hWD.out
    rw [← HE.out, List.drop_take, Nat.add_sub_cancel_left] at this
    exact this
  have hst := string_of_reads (P := Tryd.prog) (src := 57) (dst := 9) (e := 5) (c := c - off) Tryd.underlying57 Tryd.underlying5 Tryd.underlying9 hrt
  rw [hwd, show strOfNums [110, 117, 108, 108] = ⟨#[110, 117, 108, 108]⟩ from rfl] at hst
  have hst' : (convert 57 9 (.slice (some (ad.add off)) (off + E - off) (c - off))).run Tryd.prog w2 = Result.ok (.string ⟨#[110, 117, 108, 108]⟩) w2 := by
    rw [show off + E - off = E by omega]
    exact hst
  have hstE : (convert 57 9 (.slice (some (ad.add off)) E (c - off))).run Tryd.prog w2 = Result.ok (.string ⟨#[110, 117, 108, 108]⟩) w2 := hst
  have HRT := Lib.hid hrt
  clear hrr hrt hwd hst
  go_wp2
  ((try simp only [Exit.inBlock, Exit.then]); refine bodyPost_ret (res4 rfl _ _ _) rfl ?_)
  refine ⟨HB2.out.2, some (ad.add off), ?_, ?_⟩
  · rw [← HE.out]
    refine congrArg Ending.returned ?_
    simp
    try omega
  · rw [← HE.out, List.drop_take, Nat.add_sub_cancel_left]
    exact HRT.out
end Go.Proofs.YtgbliniamkpocaaDoor.Jp
/- jsonparser.getTypeConfig at every value of a JSON text; internalGetConfig behind the search for keys. -/
namespace Go.Proofs.YtgbliniamkpocaaDoor.Jp
open Go.RowKit Go.Proofs.YtgbliniamkpocaaDoorW.PrintWords Go.Proofs.YtgbliniamkpocaaDoor.Kit

theorem gt_all (A : Option Addr) (c : Nat) (l : List Int) (off : Nat) (w : World) (hr : ReadsInt w .u8 A l.length l) (hlc : l.length ≤ c) (hb : ∀ x ∈ l, 0 ≤ x ∧ x ≤ 255) (hlm : l.length ≤ 140737488355328)
    (hoff : off < l.length) (hE : Errs w) (k : Int) (e : Nat) (h : Gtv l off k e) :
    Calls Tryd.prog 85 #[cfg, .slice A l.length c, .int .i64 off] w fun e' w' => GtPost w c l off k (some e) e' w' := by
  unfold Gtv at h
  rcases h with ⟨hx, rfl, hq⟩ | ⟨hx, rfl, hq⟩ | ⟨hx, rfl, hq⟩ | ⟨hx, rfl, rfl⟩ | ⟨hx, rfl, rfl⟩ | ⟨hx, rfl, rfl⟩ | ⟨hx, rfl, rfl⟩
  · have := gt_str A c l off w hr hlc hb hlm hoff hx hE.2.2.2
    rwa [hq] at this
  · have := gt_arr A c l off w hr hlc hb hlm hoff hx hE.1
    rwa [hq] at this
  · have := gt_obj A c l off w hr hlc hb hlm hoff hx hE.2.2.1
    rwa [hq] at this
  · exact gt_num A c l off w hr hlc hlm hoff hx
  · exact gt_true A c l off w hr hlc hlm hoff hx
  · exact gt_false A c l off w hr hlc hlm hoff hx
  · exact gt_null A c l off w hr hlc hlm hoff hx
end Go.Proofs.YtgbliniamkpocaaDoor.Jp
/- jsonparser.internalGetConfig with keys, over the search for them. -/
namespace Go.Proofs.YtgbliniamkpocaaDoor.Jp
open Go.RowKit Go.Proofs.YtgbliniamkpocaaDoorW.PrintWords Go.Proofs.YtgbliniamkpocaaDoor.Kit

set_option pp.maxSteps 3000
set_option maxHeartbeats 8000000 in
set_option maxRecDepth 100000 in
theorem ig_kmiss (A K : Option Addr) (n c nk ck : Nat) (w : World) (hnk : 0 < nk) (hnm : nk ≤ 9223372036854775807) (hE : ErrAt 1 w)
    (hS : Calls Tryd.prog 60 #[cfg, .slice A n c, .slice K nk ck] (w.alloc (.cells #[.bool false, .bool false, .int .i64 0] 80)) fun e w' => e = .returned (.int .i64 (-1)) ∧ Below (w.alloc (.cells #[.bool false, .bool false, .int .i64 0] 80)).heap.size (w.alloc (.cells #[.bool false, .bool false, .int .i64 0] 80)) w') :
    Calls Tryd.prog 68 #[cfg, .slice A n c, .slice K nk ck] w fun e w' => IgPost w false e w' := by
  have hba : Below w.heap.size w (w.alloc (.cells #[.bool false, .bool false, .int .i64 0] 80)) := (Below.refl _ _).alloc (Nat.le_refl _) _
  obtain ⟨c0, c1, c2⟩ := CfgAt.box w
  have HE := Lib.hid (And.intro (hE.below hba) hba)
  have hnz : (0 : Int) < (nk : Int) := by omega
  unfold cfg at hS ⊢
  have HS := Lib.hid hS
  clear hS hba hE
  go_enter Tryd.func68, Tryd.ntmps68
  go_upto_region 4 with (go_at_call 60; (with_reducible refine HS.out.mono ?_); rintro e w2 ⟨rfl, hb2⟩)
  obtain ⟨tp, p, he⟩ := HE.out.1.below hb2
  have HB := Lib.hid (HE.out.2.trans (hb2.mono HE.out.2.size))
  clear hb2
  go_quiet (fail)
  go_wp2
  ((try simp only [Exit.inBlock, Exit.then]); refine bodyPost_ret (res5 rfl _ _ _) rfl ?_)
  exact ⟨pw_below_drewN HB.out _, _, _, _, tp, p, rfl⟩
theorem bl_drop (l : List Int) (m : Nat) : ∀ (d i : Nat), l.length - (m + i) ≤ d → m + bl (l.drop m) i = bl l (m + i) := by
  intro d
  induction d with
  | zero =>
    intro i hd
    have n1 : ¬ isBlank (gb l (m + i)) := fun h => by have := blank_in h; omega
    rw [bl_stop n1, bl_stop (by rw [gb_drop]; exact n1)]
  | succ d ih =>
    intro i hd
    by_cases h : isBlank (gb l (m + i))
    · rw [bl_go h, bl_go (l := l.drop m) (by rw [gb_drop]; exact h)]
      have := blank_in h
      exact ih (i + 1) (by omega)
    · rw [bl_stop h, bl_stop (by rw [gb_drop]; exact h)]
/-- What internalGet hands back of the value of kind k from b to e. -/
def IgV (w : World) (l : List Int) (k : Int) (b e : Nat) (e' : Ending) (w' : World) : Prop :=
  Below w.heap.size w w' ∧ ∃ A' n c', e' = .returned (.tuple #[.slice A' n c', .int .i64 k, .int .i64 b, .int .i64 e, .nilIface]) ∧
    ReadsInt w' .u8 A' n (if k = 1 then (((l.take e).drop b).drop 1).take (e - b - 1 - 1) else (l.take e).drop b)
set_option maxHeartbeats 8000000 in
set_option maxRecDepth 100000 in
theorem ig_kat (A K : Option Addr) (c nk ck : Nat) (l : List Int) (w : World) (hnk : 0 < nk) (hr : ReadsInt w .u8 A l.length l) (hlc : l.length ≤ c) (hlm : l.length ≤ 140737488355328) (hE : Errs w) (z q e : Nat) (k : Int)
    (hz : z ≤ l.length) (hbl : bl l z = z + q) (hb : z + q < l.length) (hk : (k = 1 ∧ z + q + 2 ≤ e) ∨ (k ≠ 1 ∧ z + q < e)) (hel : e ≤ l.length)
    (hS : Calls Tryd.prog 60 #[cfg, .slice A l.length c, .slice K nk ck] (w.alloc (.cells #[.bool false, .bool false, .int .i64 0] 80)) fun e w' => e = .returned (.int .i64 (z : Int)) ∧ Below (w.alloc (.cells #[.bool false, .bool false, .int .i64 0] 80)).heap.size (w.alloc (.cells #[.bool false, .bool false, .int .i64 0] 80)) w')
    (hG : ∀ W : World, ReadsInt W .u8 A l.length l → Errs W → Calls Tryd.prog 85 #[cfg, .slice A l.length c, .int .i64 ((z + q : Nat) : Int)] W fun e' w' => GtPost W c l (z + q) k (some e) e' w') :
    Calls Tryd.prog 68 #[cfg, .slice A l.length c, .slice K nk ck] w fun e' w' => IgV w l k (z + q) e e' w' := by
  have hll : l.length ≤ 9223372036854775807 := hr.2.1
  have hlb : (l.length : Int) ≤ 140737488355328 := by omega
  have hba : Below w.heap.size w (w.alloc (.cells #[.bool false, .bool false, .int .i64 0] 80)) := (Below.refl _ _).alloc (Nat.le_refl _) _
  have hcf := CfgAt.box w
  obtain ⟨c0, c1, c2⟩ := hcf
  obtain ⟨i5, hi5, hz5, hsz5, hby5⟩ : ∃ i, Tryd.prog.info? 5 = some i ∧ i.zero = some (.int .u8 0) ∧ i.size = 1 ∧ i.bytes = 1 := ⟨_, rfl, rfl, rfl, rfl⟩
  obtain ⟨A', hs1, hs2⟩ := print_cut (P := Tryd.prog) 57 5 .i64 Tryd.underlying57 hi5 hsz5 A l.length c z hz
  have hbd := bl_drop l z _ 0 (Nat.le_refl _)
  rw [Nat.add_zero, hbl] at hbd
  have hNT : Hid (∀ W : World, ReadsInt W .u8 A l.length l → Calls Tryd.prog 70 #[cfg, .slice A' (l.drop z).length (c - z)] W fun e w' => e = .returned (.int .i64 (q : Int)) ∧ Below W.heap.size W w') :=
    Lib.hid (fun W hW => (nt_c A' (c - z) (l.drop z) W (by rw [List.length_drop]; exact hs2 W .u8 l hlc hW) (by rw [List.length_drop]; omega) (by rw [List.length_drop]; omega)).mono (fun e w' h => ⟨h.1.trans (by rw [nt, if_pos (by rw [List.length_drop]; omega), show bl (l.drop z) 0 = q by omega]), h.2⟩))
  have HG := Lib.hid hG
  have HE := Lib.hid (And.intro (hr.below hba) (And.intro hba (hE.below hba)))
  have hnz : (0 : Int) < (nk : Int) := by omega
  have hez : ((z : Int) == -1) = false := by simp
  have heq : ((q : Int) == -1) = false := by simp
  rw [List.length_drop] at hNT
  unfold cfg at hS hNT HG ⊢
  push_cast at HG
  have HS := Lib.hid hS
  clear hs2 hE hr hba hi5 hz5 hsz5 hby5 hG hbl hbd hS
  go_enter Tryd.func68, Tryd.ntmps68
  go_upto_region 5 with (go_at_call 60; (with_reducible refine HS.out.mono ?_); rintro e1 w1 ⟨rfl, hb1⟩)
  have hc1 : CfgAt w.heap.size w1 := CfgAt.below ⟨c0, c1, c2⟩ hb1
  obtain ⟨b0, b1, b2⟩ := hc1
  have kpd : KpI A l w w1.drew := ⟨HE.out.1.below hb1.drew, HE.out.2.1.trans (hb1.drew.mono HE.out.2.1.size), HE.out.2.2.below hb1.drew⟩
  have hrd : ReadsInt w1.drew .u8 A l.length l := HE.out.1.below hb1.drew
  clear c0 c1 c2 hb1 HS
  go_region_held3 (fun w' => w'.cell? ⟨w.heap.size, 0, none⟩ = some (.bool false) ∧ w'.cell? ⟨w.heap.size, 1, none⟩ = some (.bool false) ∧ w'.cell? ⟨w.heap.size, 2, none⟩ = some (.int .i64 0) ∧ KpI A l w w')
    (first | exact ⟨b0, b1, b2, kpd⟩ | exact ⟨d0, d1, d2, kp2⟩)
    (first | (go_at_call 70; (with_reducible refine (hNT.out _ hrd).mono ?_); rintro e2 w2 ⟨rfl, hb2⟩; obtain ⟨d0, d1, d2, kp2⟩ := ig_step (w := w) (w1 := w1.drew) ⟨b0, b1, b2⟩ kpd hb2))
  have HK := Lib.hid kp2
  clear b0 b1 b2 kp2 kpd hrd hNT hb2 hs1
  have HG2 := Lib.hid (HG.out w2 HK.out.1 HK.out.2.2)
  clear HG
  rcases hk with ⟨rfl, hk1⟩ | ⟨hk1, hk2⟩
  · go_wp2_with (go_at_call 85; (with_reducible refine HG2.out.mono ?_); rintro e3 w3 ⟨hb3, A3, rfl, hr3⟩; have HR3 := Lib.hid hr3; clear hr3)
    all_goals (
      ((try simp only [Exit.inBlock, Exit.then]); refine bodyPost_ret (res5 rfl _ _ _) rfl ?_)
      refine ⟨HK.out.2.1.trans (hb3.mono HK.out.2.1.size), ?_⟩
      rw [if_pos rfl]
      have hr1 := HR3.out.drop_ (c := e - (z + q) + 1) 1 (by omega) (by omega)
      rw [if_neg (show ¬ e - (z + q) + 1 = 1 by omega)] at hr1
      have hr2 := hr1.take_ (e - (z + q) - 1 - 1) (by omega))
    · have h0 : e - (z + q) - 1 - 1 = 0 := by omega
      rw [h0]
      exact ⟨_, 0, 0, by push_cast; rfl, ⟨rfl, by simp, fun h => by omega⟩⟩
    · exact ⟨_, _, _, by push_cast; rfl, hr2⟩
  · have ek : (k == 1) = false := by simpa using hk1
    go_wp2_with (go_at_call 85; (with_reducible refine HG2.out.mono ?_); rintro e3 w3 ⟨hb3, A3, rfl, hr3⟩; have HR3 := Lib.hid hr3; clear hr3)
    all_goals (
      ((try simp only [Exit.inBlock, Exit.then]); refine bodyPost_ret (res5 rfl _ _ _) rfl ?_)
      refine ⟨HK.out.2.1.trans (hb3.mono HK.out.2.1.size), ?_⟩
      rw [if_neg hk1]
      exact ⟨_, _, _, by push_cast; rfl, HR3.out⟩)
end Go.Proofs.YtgbliniamkpocaaDoor.Jp
