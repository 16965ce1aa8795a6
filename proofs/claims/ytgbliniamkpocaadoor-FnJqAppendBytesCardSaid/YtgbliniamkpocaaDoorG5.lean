/- Texts of this claim, laid together. -/
import Derived.Test.YtgbliniamkpocaaDoorG4
import Derived.Deep.RegionHeld3
/- jsonparser.blockEndConfig: where an array, an object ends. -/
namespace Go.Proofs.YtgbliniamkpocaaDoor.Jp
open Go.RowKit Go.Proofs.YtgbliniamkpocaaDoorW.PrintWords Go.Proofs.YtgbliniamkpocaaDoor.Kit

/-- Block g holds the configuration. -/
def CfgAt (g : Nat) (w : World) : Prop := w.cell? ⟨g, 0, none⟩ = some (.bool false) ∧ w.cell? ⟨g, 1, none⟩ = some (.bool false) ∧ w.cell? ⟨g, 2, none⟩ = some (.int .i64 0)
theorem CfgAt.below {g : Nat} {w w1 : World} (h : CfgAt g w) (hb : Below w.heap.size w w1) : CfgAt g w1 := by
  have hlt : g < w.heap.size := World.block_lt_of_cell? w _ h.1
  exact ⟨by rw [hb.cell hlt]; exact h.1, by rw [hb.cell hlt]; exact h.2.1, by rw [hb.cell hlt]; exact h.2.2⟩
theorem CfgAt.drew {g : Nat} {w : World} (h : CfgAt g w) : CfgAt g w.drew := h
theorem CfgAt.box (w : World) : CfgAt w.heap.size (w.alloc (.cells #[.bool false, .bool false, .int .i64 0] 80)) := by
  refine ⟨?_, ?_, ?_⟩ <;> simp only [World.cell?, World.alloc, Array.getElem?_push_size] <;> rfl
theorem gb_drop (l : List Int) (m i : Nat) : gb (l.drop m) i = gb l (m + i) := by simp [gb, List.getD, List.getElem?_drop]
theorem qe_drop (l : List Int) (m : Nat) : ∀ (d i : Nat) (o : Bool), l.length - (m + i) ≤ d → qe (l.drop m) i o = (qe l (m + i) o).map (· - m) := by
  intro d
  induction d with
  | zero =>
    intro i o hd
    rw [qe_out (by rw [List.length_drop]; omega), qe_out (by omega)]
    rfl
  | succ d ih =>
    intro i o hd
    by_cases hi : m + i < l.length
    · rw [show qe l (m + i) o = (if gb l (m + i) = 34 ∧ o = false then some (m + i + 1) else qe l (m + (i + 1)) (decide (gb l (m + i) = 92) && !o)) by rw [qe, dif_pos hi]; rfl]
      rw [qe, dif_pos (by rw [List.length_drop]; omega), gb_drop]
      split
      · simp
        omega
      · exact ih (i + 1) _ (by omega)
    · rw [qe_out (by rw [List.length_drop]; omega), qe_out (by omega)]
      rfl
def KpB (A : Option Addr) (l : List Int) (w w' : World) : Prop := ReadsInt w' .u8 A l.length l ∧ Below w.heap.size w w'
theorem cfg_step {A : Option Addr} {l : List Int} {w w1 w2 : World} (h : CfgAt w.heap.size w1) (hk : KpB A l w w1) (hb : Below w1.heap.size w1 w2) :
    w2.cell? ⟨w.heap.size, 0, none⟩ = some (.bool false) ∧ w2.cell? ⟨w.heap.size, 1, none⟩ = some (.bool false) ∧ w2.cell? ⟨w.heap.size, 2, none⟩ = some (.int .i64 0) ∧ KpB A l w w2 := by
  have h2 := h.below hb
  exact ⟨h2.1, h2.2.1, h2.2.2, hk.1.below hb, hk.2.trans (hb.mono hk.2.size)⟩
/-- Where the string behind i ends, as the code has it. -/
def seI (l : List Int) (i : Nat) : Int :=
  match qe l (i + 1) false with
  | some j => (j : Int) - (i : Int) - 1
  | none => -1
theorem seR_drop (l : List Int) (i : Nat) : ∃ b, seR (l.drop (i + 1)) = .tuple #[.int .i64 (seI l i), .bool b] := by
  unfold seR seI
  rw [qe_drop l (i + 1) _ 0 false (Nat.le_refl _), Nat.add_zero]
  cases h : qe l (i + 1) false with
  | none => exact ⟨_, rfl⟩
  | some j =>
    have := qe_le l _ _ _ _ (Nat.le_refl _) h
    simp only [Option.map_some]
    rw [show ((j - (i + 1) : Nat) : Int) = (j : Int) - (i : Int) - 1 by omega]
    exact ⟨_, rfl⟩
def beI (l : List Int) (o c : Int) : Int :=
  match be l o c 0 0 with
  | some j => j
  | none => -1
theorem beI_none {l : List Int} {o c : Int} {i : Nat} {v : Int} (h : be l o c 0 0 = be l o c i v) (h2 : be l o c i v = none) : beI l o c = -1 := by
  unfold beI
  rw [h, h2]
theorem beI_some {l : List Int} {o c : Int} {i j : Nat} {v : Int} (h : be l o c 0 0 = be l o c i v) (h2 : be l o c i v = some j) : beI l o c = j := by
  unfold beI
  rw [h, h2]
def BePost (w : World) (l : List Int) (o c : Int) (e : Ending) (w' : World) : Prop := e = .returned (.int .i64 (beI l o c)) ∧ Below w.heap.size w w'
def BeA (l : List Int) (i : Nat) (v : Int) : Option Nat := be l 91 93 i v
/-- The loop's head. -/
def BeRelA (l : List Int) (w wr : World) (i : Nat) (v : Int) : Prop := BeA l 0 0 = BeA l i v ∧ Below w.heap.size w wr ∧ CfgAt w.heap.size wr
set_option pp.maxSteps 3000
set_option maxHeartbeats 8000000 in
set_option maxRecDepth 100000 in
theorem be_arr (A : Option Addr) (c : Nat) (l : List Int) (w : World) (hr : ReadsInt w .u8 A l.length l) (hlc : l.length ≤ c) (hb : ∀ x ∈ l, 0 ≤ x ∧ x ≤ 255) (hlm : l.length ≤ 140737488355328) :
    Calls Tryd.prog 72 #[cfg, .slice A l.length c, .int .u8 91, .int .u8 93] w fun e w' => BePost w l 91 93 e w' := by
  have hll : l.length ≤ 9223372036854775807 := hr.2.1
  have hlb : (l.length : Int) ≤ 140737488355328 := by omega
  have HR := Lib.hid hr
  have HB := Lib.hid hb
  obtain ⟨i5, hi5, hz5, hsz5, hby5⟩ : ∃ i, Tryd.prog.info? 5 = some i ∧ i.zero = some (.int .u8 0) ∧ i.size = 1 ∧ i.bytes = 1 := ⟨_, rfl, rfl, rfl, rfl⟩
  have HI5 := Lib.hid (And.intro hi5 hsz5)
  clear hr hb hi5 hz5 hsz5 hby5
  unfold cfg
  go_enter Tryd.func72, Tryd.ntmps72
  go_wp2
  go_loopw [9, 10] (fun vv vi wr => ∃ (i : Nat) (v : Int), i ≤ l.length ∧ -(i : Int) ≤ v ∧ v ≤ i ∧ vi = .int .i64 i ∧ vv = .int .i64 v ∧ Hid (BeRelA l w wr i v)) (fun _ vi _ => l.length - (intOf vi).toNat)
  case atStart => exact ⟨0, 0, Nat.zero_le _, by omega, by omega, rfl, rfl, Lib.hid ⟨rfl, (Below.refl _ _).alloc (Nat.le_refl _) _, CfgAt.box w⟩⟩
  case round =>
    obtain ⟨i0, v, hi0, hv0, hv1, rfl, rfl, HH⟩ := hrel
    by_cases hlt0 : i0 < l.length
    · go_upto_block 2 with (fail)
      go_cut [10, 12] from 21 to 45 (fun vi _ wx => ∃ i : Nat, i0 ≤ i ∧ i ≤ l.length ∧ vi = .int .i64 i ∧ Hid (BeRelA l w wx i v))
      case first =>
        go_wp2
        go_loop [10] (fun vi => ∃ i : Nat, i0 ≤ i ∧ i ≤ l.length ∧ vi = .int .i64 i ∧ Hid (BeRelA l w wr i v)) (fun vi => l.length - (intOf vi).toNat)
        case atStart => exact ⟨i0, Nat.le_refl _, by omega, rfl, HH⟩
        case round =>
          clear HH
          obtain ⟨i, hii, hi, rfl, HH⟩ := hrel
          by_cases hlt : i < l.length
          · obtain ⟨ad, rfl, hcell⟩ := (HR.out.below HH.out.2.1).at_ i (by omega) (by omega)
            obtain ⟨x, hx⟩ : ∃ x, gb l i = x := ⟨_, rfl⟩
            have hcell' : wr.cell? (ad.add i) = some (.int .u8 x) := by rw [Int.toNat_natCast] at hcell; rw [hcell, ← hx]; simp [rd, gb]
            clear hcell
            have HN : Hid ((x ≠ 34 ∧ x ≠ 91 ∧ x ≠ 93) → BeRelA l w wr (i + 1) v) := Lib.hid (fun h => ⟨by rw [HH.out.1]; exact be_other hlt (by rw [hx]; exact h.1) (by rw [hx]; exact h.2.1) (by rw [hx]; exact h.2.2), HH.out.2⟩)
            clear hx
            by_cases h32 : x ≤ 32
            · have HN2 := Lib.hid (HN.out (by omega))
              clear HN
              go_wp2
              go_round
              case rel => exact ⟨i + 1, by omega, by omega, by go_num, HN2⟩
              case measure => simp [intOf]; omega
            by_cases hsk : 92 < x ∧ x ≠ 91 ∧ x ≠ 93
            · obtain ⟨hs1, hs2, hs3⟩ := hsk
              have HN2 := Lib.hid (HN.out (by omega))
              have e1 : (x != 91) = true := by simpa using hs2
              have e2 : (x != 93) = true := by simpa using hs3
              clear HN
              go_wp2
              go_round
              case rel => exact ⟨i + 1, by omega, by omega, by go_num, HN2⟩
              case measure => simp [intOf]; omega
            clear HN
            by_cases hgt : 92 < x
            · have hxx : x = 91 ∨ x = 93 := by omega
              rcases hxx with rfl | rfl
              all_goals first | omega | (go_wp2; go_meet; exact ⟨i, hii, hi, rfl, HH⟩)
            · go_wp2
              go_meet
              exact ⟨i, hii, hi, rfl, HH⟩
          · go_wp2
            go_meet
            exact ⟨i, hii, hi, rfl, HH⟩
      case rest =>
        obtain ⟨i, hii, hi, rfl, HH2⟩ := hcut
        clear HH
        by_cases hlt : i < l.length
        · have HR2 := Lib.hid (HR.out.below HH2.out.2.1)
          obtain ⟨x, hx⟩ : ∃ x, gb l i = x := ⟨_, rfl⟩
          have hxb : 0 ≤ x ∧ x ≤ 255 := by rw [← hx]; exact HB.out _ (by unfold gb; rw [List.getD, List.getElem?_eq_getElem hlt]; exact List.getElem_mem hlt)
          by_cases h34 : x = 34
          · subst h34
            obtain ⟨bq, hq⟩ := seR_drop l i
            have hci : i + 1 ≤ l.length := hlt
            obtain ⟨A', hs1, hs2⟩ := print_cut (P := Tryd.prog) 57 5 .i64 Tryd.underlying57 HI5.out.1 HI5.out.2 A l.length c (i + 1) hci
            have hs1' : ∀ W : World, (Instr.slice 57 (.slice A l.length c) (some (.int .i64 ((i : Int) + 1))) none none).run Tryd.prog W = .ok (.slice A' (l.length - (i + 1)) (c - (i + 1))) W := fun W => by have := hs1 W; push_cast at this; exact this
            have hA' : Hid (∀ W, ReadsInt W .u8 A l.length l → ReadsInt W .u8 A' (l.drop (i + 1)).length (l.drop (i + 1))) := Lib.hid (fun W h => by rw [List.length_drop]; exact hs2 W .u8 l hlc h)
            clear hs1 hs2
            have HSE : Hid (∀ W : World, ReadsInt W .u8 A l.length l → Calls Tryd.prog 77 #[cfg, .slice A' (l.drop (i + 1)).length (c - (i + 1)), .int .u8 34] W fun e w' => e = .returned (.tuple #[.int .i64 (seI l i), .bool bq]) ∧ Below W.heap.size W w') :=
              Lib.hid (fun W hW => (se_c A' (c - (i + 1)) (l.drop (i + 1)) W (hA'.out W hW) (by rw [List.length_drop]; omega) (fun z hz => HB.out z (List.mem_of_mem_drop hz)) (by rw [List.length_drop]; omega)).mono (fun e w' h => ⟨h.1.trans (by rw [hq]), h.2⟩))
            clear hq
            obtain ⟨se, hse⟩ : ∃ se, seI l i = se := ⟨_, rfl⟩
            rw [hse] at HSE
            rw [List.length_drop] at HSE
            unfold cfg at HSE
            obtain ⟨ad, rfl, hcell⟩ := HR2.out.at_ i (by omega) (by omega)
            have hcell' : wc.cell? (ad.add i) = some (.int .u8 34) := by rw [Int.toNat_natCast] at hcell; rw [hcell, ← hx]; simp [rd, gb]
            clear hcell
            go_upto_region 17 with (fail)
            obtain ⟨c0, c1, c2⟩ := HH2.out.2.2
            have kp : KpB (some ad) l w wc := ⟨HR2.out, HH2.out.2.1⟩
            have kpd : KpB (some ad) l w wc.drew := ⟨HR2.out, HH2.out.2.1.drew⟩
            have hrd : ReadsInt wc.drew .u8 (some ad) l.length l := HR2.out
            have hsum : IntKind.i64.wrap ((i : Int) + 1) = (i : Int) + 1 := by rw [IntKind.wrap_i64]; omega
            go_region_held3 (fun w' => w'.cell? ⟨w.heap.size, 0, none⟩ = some (.bool false) ∧ w'.cell? ⟨w.heap.size, 1, none⟩ = some (.bool false) ∧ w'.cell? ⟨w.heap.size, 2, none⟩ = some (.int .i64 0) ∧ KpB (some ad) l w w')
              (first | exact ⟨c0, c1, c2, kpd⟩ | exact ⟨d0, d1, d2, kp2⟩)
              (first | (go_at_call 77; (with_reducible refine (HSE.out _ hrd).mono ?_); rintro e w2 ⟨rfl, hb2⟩; obtain ⟨d0, d1, d2, kp2⟩ := cfg_step (w := w) (w1 := wc.drew) ⟨c0, c1, c2⟩ kpd hb2))
            have HK := Lib.hid (And.intro (show CfgAt w.heap.size w2 from ⟨d0, d1, d2⟩) kp2.2)
            have HH3 := Lib.hid HH2.out.1
            clear c0 c1 c2 kp kpd hsum hb2 d0 d1 d2 kp2 HSE hA' hs1' hrd HH2 hcell' HR2
            cases hqe : qe l (i + 1) false with
            | none =>
              obtain rfl : se = -1 := by rw [← hse]; unfold seI; rw [hqe]
              have hr := beI_none HH3.out (be_str_no hlt hx hqe)
              have HRR := Lib.hid hr
              clear hr hqe hse hx HH3
              go_wp2
              go_ret
              exact ⟨congrArg (fun z => Ending.returned (.int .i64 z)) HRR.out.symm, HK.out.2⟩
            | some j =>
              have hj := qe_le l _ _ _ _ (Nat.le_refl _) hqe
              have hsej : se = (j : Int) - i - 1 := by rw [← hse]; unfold seI; rw [hqe]
              have HN := Lib.hid (HH3.out.trans (be_str hlt hx hqe))
              have hne : (se == -1) = false := by simp; omega
              clear hqe hse hx HH3
              go_wp2
              go_round
              case rel => exact ⟨j, v, by omega, by omega, by omega, congrArg (Value.int .i64) (by omega), rfl, Lib.hid ⟨HN.out, HK.out.2, HK.out.1⟩⟩
              case measure => simp [intOf]; omega
          · obtain ⟨ad, rfl, hcell⟩ := HR2.out.at_ i (by omega) (by omega)
            have hcell' : wc.cell? (ad.add i) = some (.int .u8 x) := by rw [Int.toNat_natCast] at hcell; rw [hcell, ← hx]; simp [rd, gb]
            clear hcell
            by_cases ho : x = 91
            · subst ho
              have HN : Hid (BeRelA l w wc (i + 1) (v + 1)) := Lib.hid ⟨HH2.out.1.trans (be_open (.inl ⟨rfl, rfl⟩) ⟨hlt, hx⟩), HH2.out.2⟩
              clear HH2 hx
              go_wp2
              go_round
              case rel => exact ⟨i + 1, v + 1, by omega, by omega, by omega, by go_num, rfl, HN⟩
              case measure => simp [intOf]; omega
            by_cases hc : x = 93
            · subst hc
              by_cases hv : v = 1
              · subst hv
                have hr := beI_some HH2.out.1 (be_end (.inl ⟨rfl, rfl⟩) ⟨hlt, hx⟩)
                have HRR := Lib.hid hr
                have HBB := Lib.hid HH2.out.2.1
                clear hr HH2 hx
                go_wp2
                go_ret
                exact ⟨congrArg (fun z => Ending.returned (.int .i64 z)) (HRR.out.trans (by omega)).symm, HBB.out⟩
              · have HN : Hid (BeRelA l w wc (i + 1) (v - 1)) := Lib.hid ⟨HH2.out.1.trans (be_close (.inl ⟨rfl, rfl⟩) ⟨hlt, hx⟩ hv), HH2.out.2⟩
                have hv1 : (v - 1 == 0) = false := by simp; omega
                clear HH2 hx
                go_wp2
                go_round
                case rel => exact ⟨i + 1, v - 1, by omega, by omega, by omega, by go_num, rfl, HN⟩
                case measure => simp [intOf]; omega
            have HN : Hid (BeRelA l w wc (i + 1) v) := Lib.hid ⟨HH2.out.1.trans (be_other hlt (by rw [hx]; exact h34) (by rw [hx]; exact ho) (by rw [hx]; exact hc)), HH2.out.2⟩
            obtain ⟨c0, c1, c2⟩ := HH2.out.2.2
            have e34 : (x == 34) = false := by simpa using h34
            have eo : (x == 91) = false := by simpa using ho
            have ec : (x == 93) = false := by simpa using hc
            clear HH2 hx
            by_cases h39 : x = 39
            · subst h39
              go_wp2
              go_round
              case rel => exact ⟨i + 1, v, by omega, by omega, by omega, by go_num, rfl, HN⟩
              case measure => simp [intOf]; omega
            · have e39 : (x == 39) = false := by simpa using h39
              go_wp2
              go_round
              case rel => exact ⟨i + 1, v, by omega, by omega, by omega, by go_num, rfl, HN⟩
              case measure => simp [intOf]; omega
        · have hr := beI_none HH2.out.1 (be_out (by omega))
          have HRR := Lib.hid hr
          clear hr
          go_wp2
          go_ret
          exact ⟨congrArg (fun z => Ending.returned (.int .i64 z)) HRR.out.symm, HH2.out.2.1⟩
    · have hr := beI_none HH.out.1 (be_out (by omega))
      have HRR := Lib.hid hr
      clear hr
      go_wp2
      go_ret
      exact ⟨congrArg (fun z => Ending.returned (.int .i64 z)) HRR.out.symm, HH.out.2.1⟩
end Go.Proofs.YtgbliniamkpocaaDoor.Jp
/- jsonparser.blockEndConfig of an object. -/
namespace Go.Proofs.YtgbliniamkpocaaDoor.Jp
open Go.RowKit Go.Proofs.YtgbliniamkpocaaDoorW.PrintWords Go.Proofs.YtgbliniamkpocaaDoor.Kit
def BeO (l : List Int) (i : Nat) (v : Int) : Option Nat := be l 123 125 i v
/-- The loop's head. -/
def BeRelO (l : List Int) (w wr : World) (i : Nat) (v : Int) : Prop := BeO l 0 0 = BeO l i v ∧ Below w.heap.size w wr ∧ CfgAt w.heap.size wr
set_option maxHeartbeats 8000000 in
set_option maxRecDepth 100000 in
theorem be_obj (A : Option Addr) (c : Nat) (l : List Int) (w : World) (hr : ReadsInt w .u8 A l.length l) (hlc : l.length ≤ c) (hb : ∀ x ∈ l, 0 ≤ x ∧ x ≤ 255) (hlm : l.length ≤ 140737488355328) :
    Calls Tryd.prog 72 #[cfg, .slice A l.length c, .int .u8 123, .int .u8 125] w fun e w' => BePost w l 123 125 e w' := by
  have hll : l.length ≤ 9223372036854775807 := hr.2.1
  have hlb : (l.length : Int) ≤ 140737488355328 := by omega
  have HR := Lib.hid hr
  have HB := Lib.hid hb
  obtain ⟨i5, hi5, hz5, hsz5, hby5⟩ : ∃ i, Tryd.prog.info? 5 = some i ∧ i.zero = some (.int .u8 0) ∧ i.size = 1 ∧ i.bytes = 1 := ⟨_, rfl, rfl, rfl, rfl⟩
  have HI5 := Lib.hid (And.intro hi5 hsz5)
  clear hr hb hi5 hz5 hsz5 hby5
  unfold cfg
  go_enter Tryd.func72, Tryd.ntmps72
  go_wp2
  go_loopw [9, 10] (fun vv vi wr => ∃ (i : Nat) (v : Int), i ≤ l.length ∧ -(i : Int) ≤ v ∧ v ≤ i ∧ vi = .int .i64 i ∧ vv = .int .i64 v ∧ Hid (BeRelO l w wr i v)) (fun _ vi _ => l.length - (intOf vi).toNat)
  case atStart => exact ⟨0, 0, Nat.zero_le _, by omega, by omega, rfl, rfl, Lib.hid ⟨rfl, (Below.refl _ _).alloc (Nat.le_refl _) _, CfgAt.box w⟩⟩
  case round =>
    obtain ⟨i0, v, hi0, hv0, hv1, rfl, rfl, HH⟩ := hrel
    by_cases hlt0 : i0 < l.length
    · go_upto_block 2 with (fail)
      go_cut [10, 12] from 21 to 45 (fun vi _ wx => ∃ i : Nat, i0 ≤ i ∧ i ≤ l.length ∧ vi = .int .i64 i ∧ Hid (BeRelO l w wx i v))
      case first =>
        go_wp2
        go_loop [10] (fun vi => ∃ i : Nat, i0 ≤ i ∧ i ≤ l.length ∧ vi = .int .i64 i ∧ Hid (BeRelO l w wr i v)) (fun vi => l.length - (intOf vi).toNat)
        case atStart => exact ⟨i0, Nat.le_refl _, by omega, rfl, HH⟩
        case round =>
          clear HH
          obtain ⟨i, hii, hi, rfl, HH⟩ := hrel
          by_cases hlt : i < l.length
          · obtain ⟨ad, rfl, hcell⟩ := (HR.out.below HH.out.2.1).at_ i (by omega) (by omega)
            obtain ⟨x, hx⟩ : ∃ x, gb l i = x := ⟨_, rfl⟩
            have hcell' : wr.cell? (ad.add i) = some (.int .u8 x) := by rw [Int.toNat_natCast] at hcell; rw [hcell, ← hx]; simp [rd, gb]
            clear hcell
            have HN : Hid ((x ≠ 34 ∧ x ≠ 123 ∧ x ≠ 125) → BeRelO l w wr (i + 1) v) := Lib.hid (fun h => ⟨by rw [HH.out.1]; exact be_other hlt (by rw [hx]; exact h.1) (by rw [hx]; exact h.2.1) (by rw [hx]; exact h.2.2), HH.out.2⟩)
            clear hx
            by_cases h32 : x ≤ 32
            · have HN2 := Lib.hid (HN.out (by omega))
              clear HN
              go_wp2
              go_round
              case rel => exact ⟨i + 1, by omega, by omega, by go_num, HN2⟩
              case measure => simp [intOf]; omega
            by_cases hsk : 92 < x ∧ x ≠ 123 ∧ x ≠ 125
            · obtain ⟨hs1, hs2, hs3⟩ := hsk
              have HN2 := Lib.hid (HN.out (by omega))
              have e1 : (x != 123) = true := by simpa using hs2
              have e2 : (x != 125) = true := by simpa using hs3
              clear HN
              go_wp2
              go_round
              case rel => exact ⟨i + 1, by omega, by omega, by go_num, HN2⟩
              case measure => simp [intOf]; omega
            clear HN
            by_cases hgt : 92 < x
            · have hxx : x = 123 ∨ x = 125 := by omega
              rcases hxx with rfl | rfl
              all_goals first | omega | (go_wp2; go_meet; exact ⟨i, hii, hi, rfl, HH⟩)
            · go_wp2
              go_meet
              exact ⟨i, hii, hi, rfl, HH⟩
          · go_wp2
            go_meet
            exact ⟨i, hii, hi, rfl, HH⟩
      case rest =>
        obtain ⟨i, hii, hi, rfl, HH2⟩ := hcut
        clear HH
        by_cases hlt : i < l.length
        · have HR2 := Lib.hid (HR.out.below HH2.out.2.1)
          obtain ⟨x, hx⟩ : ∃ x, gb l i = x := ⟨_, rfl⟩
          have hxb : 0 ≤ x ∧ x ≤ 255 := by rw [← hx]; exact HB.out _ (by unfold gb; rw [List.getD, List.getElem?_eq_getElem hlt]; exact List.getElem_mem hlt)
          by_cases h34 : x = 34
          · subst h34
            obtain ⟨bq, hq⟩ := seR_drop l i
            have hci : i + 1 ≤ l.length := hlt
            obtain ⟨A', hs1, hs2⟩ := print_cut (P := Tryd.prog) 57 5 .i64 Tryd.underlying57 HI5.out.1 HI5.out.2 A l.length c (i + 1) hci
            have hs1' : ∀ W : World, (Instr.slice 57 (.slice A l.length c) (some (.int .i64 ((i : Int) + 1))) none none).run Tryd.prog W = .ok (.slice A' (l.length - (i + 1)) (c - (i + 1))) W := fun W => by have := hs1 W; push_cast at this; exact this
            have hA' : Hid (∀ W, ReadsInt W .u8 A l.length l → ReadsInt W .u8 A' (l.drop (i + 1)).length (l.drop (i + 1))) := Lib.hid (fun W h => by rw [List.length_drop]; exact hs2 W .u8 l hlc h)
            clear hs1 hs2
            have HSE : Hid (∀ W : World, ReadsInt W .u8 A l.length l → Calls Tryd.prog 77 #[cfg, .slice A' (l.drop (i + 1)).length (c - (i + 1)), .int .u8 34] W fun e w' => e = .returned (.tuple #[.int .i64 (seI l i), .bool bq]) ∧ Below W.heap.size W w') :=
              Lib.hid (fun W hW => (se_c A' (c - (i + 1)) (l.drop (i + 1)) W (hA'.out W hW) (by rw [List.length_drop]; omega) (fun z hz => HB.out z (List.mem_of_mem_drop hz)) (by rw [List.length_drop]; omega)).mono (fun e w' h => ⟨h.1.trans (by rw [hq]), h.2⟩))
            clear hq
            obtain ⟨se, hse⟩ : ∃ se, seI l i = se := ⟨_, rfl⟩
            rw [hse] at HSE
            rw [List.length_drop] at HSE
            unfold cfg at HSE
            obtain ⟨ad, rfl, hcell⟩ := HR2.out.at_ i (by omega) (by omega)
            have hcell' : wc.cell? (ad.add i) = some (.int .u8 34) := by rw [Int.toNat_natCast] at hcell; rw [hcell, ← hx]; simp [rd, gb]
            clear hcell
            go_upto_region 17 with (fail)
            obtain ⟨c0, c1, c2⟩ := HH2.out.2.2
            have kp : KpB (some ad) l w wc := ⟨HR2.out, HH2.out.2.1⟩
            have kpd : KpB (some ad) l w wc.drew := ⟨HR2.out, HH2.out.2.1.drew⟩
            have hrd : ReadsInt wc.drew .u8 (some ad) l.length l := HR2.out
            have hsum : IntKind.i64.wrap ((i : Int) + 1) = (i : Int) + 1 := by rw [IntKind.wrap_i64]; omega
            go_region_held3 (fun w' => w'.cell? ⟨w.heap.size, 0, none⟩ = some (.bool false) ∧ w'.cell? ⟨w.heap.size, 1, none⟩ = some (.bool false) ∧ w'.cell? ⟨w.heap.size, 2, none⟩ = some (.int .i64 0) ∧ KpB (some ad) l w w')
              (first | exact ⟨c0, c1, c2, kpd⟩ | exact ⟨d0, d1, d2, kp2⟩)
              (first | (go_at_call 77; (with_reducible refine (HSE.out _ hrd).mono ?_); rintro e w2 ⟨rfl, hb2⟩; obtain ⟨d0, d1, d2, kp2⟩ := cfg_step (w := w) (w1 := wc.drew) ⟨c0, c1, c2⟩ kpd hb2))
            have HK := Lib.hid (And.intro (show CfgAt w.heap.size w2 from ⟨d0, d1, d2⟩) kp2.2)
            have HH3 := Lib.hid HH2.out.1
            clear c0 c1 c2 kp kpd hsum hb2 d0 d1 d2 kp2 HSE hA' hs1' hrd HH2 hcell' HR2
            cases hqe : qe l (i + 1) false with
            | none =>
              obtain rfl : se = -1 := by rw [← hse]; unfold seI; rw [hqe]
              have hr := beI_none HH3.out (be_str_no hlt hx hqe)
              have HRR := Lib.hid hr
              clear hr hqe hse hx HH3
              go_wp2
              go_ret
              exact ⟨congrArg (fun z => Ending.returned (.int .i64 z)) HRR.out.symm, HK.out.2⟩
            | some j =>
              have hj := qe_le l _ _ _ _ (Nat.le_refl _) hqe
              have hsej : se = (j : Int) - i - 1 := by rw [← hse]; unfold seI; rw [hqe]
              have HN := Lib.hid (HH3.out.trans (be_str hlt hx hqe))
              have hne : (se == -1) = false := by simp; omega
              clear hqe hse hx HH3
              go_wp2
              go_round
              case rel => exact ⟨j, v, by omega, by omega, by omega, congrArg (Value.int .i64) (by omega), rfl, Lib.hid ⟨HN.out, HK.out.2, HK.out.1⟩⟩
              case measure => simp [intOf]; omega
          · obtain ⟨ad, rfl, hcell⟩ := HR2.out.at_ i (by omega) (by omega)
            have hcell' : wc.cell? (ad.add i) = some (.int .u8 x) := by rw [Int.toNat_natCast] at hcell; rw [hcell, ← hx]; simp [rd, gb]
            clear hcell
            by_cases ho : x = 123
            · subst ho
              have HN : Hid (BeRelO l w wc (i + 1) (v + 1)) := Lib.hid ⟨HH2.out.1.trans (be_open (.inr ⟨rfl, rfl⟩) ⟨hlt, hx⟩), HH2.out.2⟩
              clear HH2 hx
              go_wp2
              go_round
              case rel => exact ⟨i + 1, v + 1, by omega, by omega, by omega, by go_num, rfl, HN⟩
              case measure => simp [intOf]; omega
            by_cases hc : x = 125
            · subst hc
              by_cases hv : v = 1
              · subst hv
                have hr := beI_some HH2.out.1 (be_end (.inr ⟨rfl, rfl⟩) ⟨hlt, hx⟩)
                have HRR := Lib.hid hr
                have HBB := Lib.hid HH2.out.2.1
                clear hr HH2 hx
                go_wp2
                go_ret
                exact ⟨congrArg (fun z => Ending.returned (.int .i64 z)) (HRR.out.trans (by omega)).symm, HBB.out⟩
              · have HN : Hid (BeRelO l w wc (i + 1) (v - 1)) := Lib.hid ⟨HH2.out.1.trans (be_close (.inr ⟨rfl, rfl⟩) ⟨hlt, hx⟩ hv), HH2.out.2⟩
                have hv1 : (v - 1 == 0) = false := by simp; omega
                clear HH2 hx
                go_wp2
                go_round
                case rel => exact ⟨i + 1, v - 1, by omega, by omega, by omega, by go_num, rfl, HN⟩
                case measure => simp [intOf]; omega
            have HN : Hid (BeRelO l w wc (i + 1) v) := Lib.hid ⟨HH2.out.1.trans (be_other hlt (by rw [hx]; exact h34) (by rw [hx]; exact ho) (by rw [hx]; exact hc)), HH2.out.2⟩
            obtain ⟨c0, c1, c2⟩ := HH2.out.2.2
            have e34 : (x == 34) = false := by simpa using h34
            have eo : (x == 123) = false := by simpa using ho
            have ec : (x == 125) = false := by simpa using hc
            clear HH2 hx
            by_cases h39 : x = 39
            · subst h39
              go_wp2
              go_round
              case rel => exact ⟨i + 1, v, by omega, by omega, by omega, by go_num, rfl, HN⟩
              case measure => simp [intOf]; omega
            · have e39 : (x == 39) = false := by simpa using h39
              go_wp2
              go_round
              case rel => exact ⟨i + 1, v, by omega, by omega, by omega, by go_num, rfl, HN⟩
              case measure => simp [intOf]; omega
        · have hr := beI_none HH2.out.1 (be_out (by omega))
          have HRR := Lib.hid hr
          clear hr
          go_wp2
          go_ret
          exact ⟨congrArg (fun z => Ending.returned (.int .i64 z)) HRR.out.symm, HH2.out.2.1⟩
    · have hr := beI_none HH.out.1 (be_out (by omega))
      have HRR := Lib.hid hr
      clear hr
      go_wp2
      go_ret
      exact ⟨congrArg (fun z => Ending.returned (.int .i64 z)) HRR.out.symm, HH.out.2.1⟩
end Go.Proofs.YtgbliniamkpocaaDoor.Jp
