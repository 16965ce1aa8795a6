/- jsonparser.stringEndConfig: where a string ends. -/
import Derived.Test.YtgbliniamkpocaaDoorG3
import Derived.Test.YtgbliniamkpocaaDoorJpBase
import Derived.StillTailTactics
import Derived.Deep.DeepCutAuto
import Derived.Deep.CutBlock
import Derived.Deep.CutRange
namespace Go.Proofs.YtgbliniamkpocaaDoor.Jp
open Go.RowKit Go.Proofs.YtgbliniamkpocaaDoorW.PrintWords Go.Proofs.YtgbliniamkpocaaDoor.Kit

/-- An odd number of backslashes stands ahead of i. -/
def par (l : List Int) : Nat → Bool
  | 0 => false
  | i + 1 => decide (gb l i = 92) && !par l i
/-- A backslash stands ahead of i. -/
def bsf (l : List Int) : Nat → Bool
  | 0 => false
  | i + 1 => bsf l i || decide (gb l i = 92)
theorem par_of_bsf {l : List Int} : ∀ {i : Nat}, bsf l i = false → par l i = false
  | 0, _ => rfl
  | i + 1, h => by
    simp only [bsf, Bool.or_eq_false_iff] at h
    simp [par, h.2]
theorem bsf_none {l : List Int} : ∀ {i : Nat}, (∀ k, k < i → gb l k ≠ 92) → bsf l i = false
  | 0, _ => rfl
  | i + 1, h => by
    have h1 := h i (by omega)
    have h2 : bsf l i = false := bsf_none (fun k hk => h k (by omega))
    simp [bsf, h2, h1]
theorem par_two {l : List Int} {m : Nat} (h1 : gb l (m + 1) = 92) (h2 : gb l m = 92) : par l (m + 2) = par l m := by
  simp [par, h1, h2]
theorem par_stop {l : List Int} {m : Nat} (h : m = 0 ∨ gb l (m - 1) ≠ 92) : par l m = false := by
  cases m with
  | zero => rfl
  | succ m =>
    rcases h with h | h
    · omega
    · simp only [Nat.add_sub_cancel] at h
      simp [par, h]
theorem qe_par {l : List Int} {i : Nat} (hi : i < l.length) (h : ¬ (gb l i = 34 ∧ par l i = false)) : qe l i (par l i) = qe l (i + 1) (par l (i + 1)) := by
  rw [qe, dif_pos hi, if_neg h]
  rfl
theorem qe_start {l : List Int} : ∀ {i : Nat}, i ≤ l.length → (∀ k, k < i → gb l k ≠ 34 ∧ gb l k ≠ 92) → qe l 0 false = qe l i (par l i)
  | 0, _, _ => rfl
  | i + 1, h, hk => by
    rw [qe_start (i := i) (by omega) (fun k h2 => hk k (by omega))]
    exact qe_par (by omega) (fun h2 => (hk i (by omega)).1 h2.1)
/-- What is handed back. -/
def seR (l : List Int) : Value :=
  match qe l 0 false with
  | some j => .tuple #[.int .i64 (j : Int), .bool (bsf l (j - 1))]
  | none => .tuple #[.int .i64 (-1), .bool (bsf l l.length)]
theorem seR_found {l : List Int} {i : Nat} (hi : i < l.length) (h0 : qe l 0 false = qe l i (par l i)) (h34 : gb l i = 34) (hp : par l i = false) : seR l = .tuple #[.int .i64 ((i : Int) + 1), .bool (bsf l i)] := by
  have : qe l 0 false = some (i + 1) := by
    rw [h0, qe, dif_pos hi, if_pos ⟨h34, hp⟩]
  unfold seR
  rw [this]
  rfl
theorem seR_none {l : List Int} {i : Nat} (hi : l.length ≤ i) (h0 : qe l 0 false = qe l i (par l i)) : seR l = .tuple #[.int .i64 (-1), .bool (bsf l l.length)] := by
  unfold seR
  rw [h0, qe_out hi]
theorem u64_c (A : Option Addr) (c : Nat) (l : List Int) (i : Nat) (W : World) (hr : ReadsInt W .u8 A l.length l) (h8 : i + 8 ≤ l.length) (hlc : l.length ≤ c) (hb : ∀ x ∈ l, 0 ≤ x ∧ x ≤ 255) :
    Calls Tryd.prog 91 #[.agg #[], .slice (Option.map (fun x => x.add i) A) (l.length - i) (c - i)] W fun e w' => e = .returned (.int .u64 (Lib.leZ ((l.drop i).take 8))) ∧ Below W.heap.size W w' := by
  have h2 := hr.drop_ i (by omega) hlc
  rw [if_neg (show ¬ c = i by omega)] at h2
  obtain ⟨ad, hA, _⟩ := hr.at_ 0 (by omega) (by omega)
  subst hA
  refine Tryd.binary_LE_Uint64_z _ _ _ (l.drop i) W (by omega) (by rw [List.length_drop]; omega) (fun k hk => ?_) (fun z hz => ?_)
  · obtain ⟨a2, e2, h3⟩ := h2.at_ k (by omega) (by rw [List.length_drop] at hk; omega)
    injection e2 with e2
    subst e2
    simpa [rd] using h3
  · have := hb z (List.mem_of_mem_drop hz)
    simp [Lit.wf]
    exact this
def SePost (w : World) (l : List Int) (e : Ending) (w' : World) : Prop := e = .returned (seR l) ∧ Below w.heap.size w w'
set_option pp.maxSteps 3000
set_option maxHeartbeats 8000000 in
set_option maxRecDepth 100000 in
theorem se_c (A : Option Addr) (c : Nat) (l : List Int) (w : World) (hr : ReadsInt w .u8 A l.length l) (hlc : l.length ≤ c) (hb : ∀ x ∈ l, 0 ≤ x ∧ x ≤ 255) (hlm : l.length ≤ 140737488355328) :
    Calls Tryd.prog 77 #[cfg, .slice A l.length c, .int .u8 34] w fun e w' => SePost w l e w' := by
  have hll : l.length ≤ 9223372036854775807 := hr.2.1
  have hlb : (l.length : Int) ≤ 140737488355328 := by omega
  have HR := Lib.hid hr
  have HB := Lib.hid hb
  clear hr hb
  unfold cfg
  go_enter Tryd.func77, Tryd.ntmps77
  go_upto_block 0 with (fail)
  go_cut [10, 12, 13, 14, 15, 16] from 25 to 57 (fun vi _ _ _ _ _ wr => ∃ i : Nat, i ≤ l.length ∧ vi = .int .i64 i ∧ Hid (∀ k, k < i → l.getD k 0 ≠ 34 ∧ l.getD k 0 ≠ 92) ∧ Hid (Below w.heap.size w wr))
  case first =>
    go_wp2
    go_loopw [10] (fun vi wr => ∃ i : Nat, i ≤ l.length ∧ vi = .int .i64 i ∧ Hid (∀ k, k < i → l.getD k 0 ≠ 34 ∧ l.getD k 0 ≠ 92) ∧ Hid (Below w.heap.size w wr)) (fun vi _ => l.length - (intOf vi).toNat)
    case atStart => exact ⟨0, Nat.zero_le _, rfl, Lib.hid (fun k h => by omega), Lib.hid ((Below.refl _ _).alloc (Nat.le_refl _) _)⟩
    case round =>
      obtain ⟨i, hi, rfl, HI, HBW⟩ := hrel
      have hw8 : wrap64 ((i : Int) + 8) = (i : Int) + 8 := by unfold wrap64; omega
      by_cases h8 : i + 8 ≤ l.length
      · have hd8 : decide ((i : Int) + 8 ≤ (l.length : Int)) = true := by simp; omega
        go_upto_region 6 with (fail)
        go_still_tail 4, (by kernel_rfl)
        change wpList _ _ _ _ _ wr.drew
        obtain ⟨Z, hZ⟩ : ∃ Z, Lib.leZ ((l.drop i).take 8) = Z := ⟨_, rfl⟩
        have HC := Lib.hid (u64_c A c l i wr.drew (HR.out.below (HBW.out.drew)) h8 hlc HB.out)
        have HS := Lib.hid (swar_list l i HB.out h8 Z hZ)
        unfold hitI at HS
        rw [hZ] at HC
        clear hZ
        go_wp2_with (go_at_call 91; (with_reducible refine HC.out.mono ?_); rintro e w1 ⟨rfl, hb1⟩)
        case roundEnd =>
          rename_i hz
          have hz' := eq_of_beq hz
          have HK := Lib.hid (HS.out hz')
          clear hz hz' HS
          go_round
          case rel =>
            refine ⟨i + 8, by omega, by go_num, Lib.hid (fun k hk => ?_), Lib.hid (HBW.out.drew.trans (hb1.mono HBW.out.size))⟩
            by_cases hki : k < i
            · exact HI.out k hki
            · exact HK.out k (by omega) hk
          case measure => simp [intOf]; omega
        case inr.inr =>
          go_meet
          exact ⟨i, hi, rfl, HI, Lib.hid (HBW.out.drew.trans (hb1.mono HBW.out.size))⟩
      · have hd8 : decide ((i : Int) + 8 ≤ (l.length : Int)) = false := by simp; omega
        go_wp2
        go_meet
        exact ⟨i, hi, rfl, HI, HBW⟩
  case rest =>
    obtain ⟨i0, hi0, rfl, HI, HBW⟩ := hcut
    have HR2 := Lib.hid (HR.out.below HBW.out)
    have HQ0 := Lib.hid (And.intro (qe_start hi0 HI.out) (bsf_none (l := l) (i := i0) (fun k hk => (HI.out k hk).2)))
    clear HI HR
    go_wp2
    go_loop [10, 17] (fun vi ve => ∃ i : Nat, i ≤ l.length ∧ vi = .int .i64 i ∧ ve = .bool (bsf l i) ∧ Hid (qe l 0 false = qe l i (par l i))) (fun vi _ => l.length - (intOf vi).toNat)
    case atStart => exact ⟨i0, hi0, rfl, congrArg Value.bool HQ0.out.2.symm, Lib.hid HQ0.out.1⟩
    case round =>
      clear HQ0
      obtain ⟨i, hi, rfl, rfl, HQ⟩ := hrel
      by_cases hlt : i < l.length
      · obtain ⟨ad, rfl, hcell⟩ := HR2.out.at_ i (by omega) (by omega)
        obtain ⟨x, hx⟩ : ∃ x, gb l i = x := ⟨_, rfl⟩
        have hcell' : wc.cell? (ad.add i) = some (.int .u8 x) := by rw [Int.toNat_natCast] at hcell; rw [hcell, ← hx]; simp [rd, gb]
        clear hcell
        have hxb : 0 ≤ x ∧ x ≤ 255 := by rw [← hx]; exact HB.out _ (by unfold gb; rw [List.getD, List.getElem?_eq_getElem hlt]; exact List.getElem_mem hlt)
        have HN := Lib.hid (fun h : ¬ (x = 34 ∧ par l i = false) => HQ.out.trans (qe_par hlt (by rw [hx]; exact h)))
        have HE : Hid (bsf l (i + 1) = (bsf l i || decide (x = 92))) := Lib.hid (by rw [← hx]; rfl)
        have HF := Lib.hid (fun (h : x = 34) (hp : par l i = false) => seR_found hlt HQ.out (hx.trans h) hp)
        by_cases hgt : 92 < x
        · have HE2 := Lib.hid (HE.out.trans (by rw [show decide (x = 92) = false by simp; omega, Bool.or_false]))
          go_wp2
          go_round
          case rel => exact ⟨i + 1, by omega, by go_num, congrArg Value.bool HE2.out.symm, Lib.hid (HN.out (by omega))⟩
          case measure => simp [intOf]; omega
        by_cases h34 : x = 34
        · subst h34
          cases hE : bsf l i
          · have hr := HF.out rfl (par_of_bsf hE)
            rw [hE] at hr
            have HRR := Lib.hid hr
            clear hr
            go_wp2
            go_ret2
            exact ⟨congrArg Ending.returned HRR.out.symm, HBW.out⟩
          · have hi1 : 1 ≤ i := by
              cases i with
              | zero => cases hE
              | succ n => omega
            have HN2 := Lib.hid (fun h : par l i = true => HN.out (by rw [h]; simp))
            have HF2 := Lib.hid (HF.out rfl)
            rw [hE] at HF2
            have HP1 : Hid (par l (i - 1 + 1) = par l i) := Lib.hid (by rw [Nat.sub_add_cancel hi1])
            have HE2 := Lib.hid (HE.out.trans (by rw [hE]; rfl : _ = true))
            clear HE HN HF hE HQ hx
            go_wp2
            go_loop [19] (fun vj => (vj = .int .i64 (-1) ∧ Hid (par l i = false)) ∨ ∃ m : Nat, m < i ∧ vj = .int .i64 m ∧ Hid (par l (m + 1) = par l i)) (fun vj => (intOf vj + 1).toNat)
            case atStart => exact .inr ⟨i - 1, by omega, congrArg (Value.int .i64) (by omega), HP1⟩
            case round =>
              clear HP1
              rcases hrel with ⟨rfl, HP⟩ | ⟨m, hm, rfl, HP⟩
              · have hr := HF2.out HP.out
                have HRR := Lib.hid hr
                clear hr
                go_wp2
                go_ret2
                exact ⟨congrArg Ending.returned HRR.out.symm, HBW.out⟩
              · obtain ⟨ad2, had2, hcy⟩ := HR2.out.at_ m (by omega) (by omega)
                injection had2 with had2
                subst had2
                obtain ⟨y, hy⟩ : ∃ y, gb l m = y := ⟨_, rfl⟩
                have hcy' : wc.cell? (ad.add m) = some (.int .u8 y) := by rw [Int.toNat_natCast] at hcy; rw [hcy, ← hy]; simp [rd, gb]
                clear hcy
                by_cases hy92 : y = 92
                · subst hy92
                  by_cases hm0 : m = 0
                  · have HNN := Lib.hid (HN2.out (by rw [← HP.out, hm0]; rw [hm0] at hy; simp [par, hy]))
                    clear HP hy
                    have hcy0 : wc.cell? ad = some (.int .u8 92) := by
                      rw [hm0] at hcy'
                      simpa [Addr.add] using hcy'
                    go_wp2
                    go_round
                    case rel => exact ⟨i + 1, by omega, by go_num, congrArg Value.bool HE2.out.symm, HNN⟩
                    case measure => simp [intOf]; omega
                  · obtain ⟨ad2, had2, hcz⟩ := HR2.out.at_ ((m : Int) - 1) (by omega) (by omega)
                    injection had2 with had2
                    subst had2
                    obtain ⟨z, hz⟩ : ∃ z, gb l (m - 1) = z := ⟨_, rfl⟩
                    have hcz' : wc.cell? (ad.add (m - 1)) = some (.int .u8 z) := by
                      rw [show ((m : Int) - 1).toNat = m - 1 by omega] at hcz
                      rw [hcz, ← hz]
                      simp only [rd, gb]
                      rw [show ((m : Int) - 1).toNat = m - 1 by omega]
                    clear hcz
                    have hpm : par l (m + 1) = !(decide (z = 92) && !par l (m - 1)) := by
                      obtain ⟨m1, rfl⟩ : ∃ m1, m = m1 + 1 := ⟨m - 1, by omega⟩
                      simp only [Nat.add_sub_cancel] at hz ⊢
                      simp [par, hy, hz]
                    by_cases hz92 : z = 92
                    · subst hz92
                      have HP2 : Hid (par l (m - 1) = par l i) := Lib.hid (by rw [← HP.out, hpm]; simp)
                      clear HP hy hz hpm
                      go_wp2
                      go_round
                      case rel =>
                        by_cases hm1 : m = 1
                        · refine .inl ⟨by rw [hm1]; rfl, Lib.hid ?_⟩
                          rw [← HP2.out, hm1]
                          rfl
                        · exact .inr ⟨m - 2, by omega, congrArg (Value.int .i64) (by omega), Lib.hid (by rw [← HP2.out]; congr 1; omega)⟩
                      case measure => simp [intOf]; omega
                    · have HNN := Lib.hid (HN2.out (by rw [← HP.out, hpm]; simp [hz92]))
                      have ez : (z != 92) = true := by simpa using hz92
                      clear HP hy hz hpm
                      go_wp2
                      go_round
                      case rel => exact ⟨i + 1, by omega, by go_num, congrArg Value.bool HE2.out.symm, HNN⟩
                      case measure => simp [intOf]; omega
                · have hr := HF2.out (by rw [← HP.out]; simp [par, hy, hy92])
                  have HRR := Lib.hid hr
                  have ey : (y != 92) = true := by simpa using hy92
                  clear hr HP hy
                  go_wp2
                  go_ret2
                  exact ⟨congrArg Ending.returned HRR.out.symm, HBW.out⟩
        by_cases h92 : x = 92
        · subst h92
          have HE2 : Hid (bsf l (i + 1) = true) := Lib.hid (HE.out.trans (by simp))
          go_wp2
          go_round
          case rel => exact ⟨i + 1, by omega, by go_num, congrArg Value.bool HE2.out.symm, Lib.hid (HN.out (by omega))⟩
          case measure => simp [intOf]; omega
        · have e34 : (x == 34) = false := by simpa using h34
          have e92 : (x == 92) = false := by simpa using h92
          have HE2 := Lib.hid (HE.out.trans (by rw [show decide (x = 92) = false by simpa using h92, Bool.or_false]))
          go_wp2
          go_round
          case rel => exact ⟨i + 1, by omega, by go_num, congrArg Value.bool HE2.out.symm, Lib.hid (HN.out (by omega))⟩
          case measure => simp [intOf]; omega
      · have hr := seR_none (by omega) HQ.out
        obtain rfl : i = l.length := by omega
        have HRR := Lib.hid hr
        clear hr
        go_wp2
        go_ret2
        exact ⟨congrArg Ending.returned HRR.out.symm, HBW.out⟩
end Go.Proofs.YtgbliniamkpocaaDoor.Jp
