/- Small functions of jsonparser, walked by hand: what stands behind \u, blanks, the end of a token. -/
import Derived.Test.YtgbliniamkpocaaDoorProg
import Derived.Test.YtgbliniamkpocaaDoorG0
import Derived.LoopTactic
import Derived.Deep.QuietTactic
import Derived.BigQuiet
import Derived.Lib.Hide
import Derived.Lib.RuneBytes
namespace Go.Proofs.YtgbliniamkpocaaDoor.Jp
open Go.RowKit Go.Proofs.YtgbliniamkpocaaDoorW.PrintWords Go.Proofs.YtgbliniamkpocaaDoor.Kit

def hx (c : Int) : Int := if 48 ≤ c ∧ c ≤ 57 then c - 48 else if 65 ≤ c ∧ c ≤ 70 then c - 55 else if 97 ≤ c ∧ c ≤ 102 then c - 87 else -1
theorem hx_range (c : Int) : hx c = -1 ∨ (0 ≤ hx c ∧ hx c ≤ 15) := by unfold hx; repeat' split <;> omega
set_option maxHeartbeats 4000000 in
set_option maxRecDepth 100000 in
theorem h2I_c (c : Int) (w : World) : Calls Tryd.prog 96 #[.int .u8 c] w fun e w' => e = .returned (.int .i64 (hx c)) ∧ w' = w := by
  by_cases h1 : 48 ≤ c ∧ c ≤ 57
  · have e : hx c = c - 48 := by unfold hx; rw [if_pos h1]
    rw [e]
    obtain ⟨h2, h3⟩ := h1
    have hw : IntKind.u8.wrap (c - 48) = c - 48 := by simp only [IntKind.wrap_u8]; omega
    have hw2 : IntKind.i64.wrap (c - 48) = c - 48 := by rw [IntKind.wrap_i64]; omega
    clear e
    go_enter Tryd.func96, Tryd.ntmps96
    go_wp2
    go_ret
    exact ⟨rfl, rfl⟩
  by_cases h2 : 65 ≤ c ∧ c ≤ 70
  · have e : hx c = c - 65 + 10 := by unfold hx; rw [if_neg h1, if_pos h2]; omega
    rw [e]
    obtain ⟨h3, h4⟩ := h2
    have hw : IntKind.u8.wrap (c - 65) = c - 65 := by simp only [IntKind.wrap_u8]; omega
    have hw2 : IntKind.i64.wrap (c - 65) = c - 65 := by rw [IntKind.wrap_i64]; omega
    have hw3 : IntKind.i64.wrap (c - 65 + 10) = c - 65 + 10 := by rw [IntKind.wrap_i64]; omega
    clear e h1
    go_enter Tryd.func96, Tryd.ntmps96
    go_wp2
    go_ret
    exact ⟨rfl, rfl⟩
  by_cases h3 : 97 ≤ c ∧ c ≤ 102
  · have e : hx c = c - 97 + 10 := by unfold hx; rw [if_neg h1, if_neg h2, if_pos h3]; omega
    rw [e]
    obtain ⟨h4, h5⟩ := h3
    have hw : IntKind.u8.wrap (c - 97) = c - 97 := by simp only [IntKind.wrap_u8]; omega
    have hw2 : IntKind.i64.wrap (c - 97) = c - 97 := by rw [IntKind.wrap_i64]; omega
    have hw3 : IntKind.i64.wrap (c - 97 + 10) = c - 97 + 10 := by rw [IntKind.wrap_i64]; omega
    clear e h1 h2
    go_enter Tryd.func96, Tryd.ntmps96
    go_wp2
    go_ret
    exact ⟨rfl, rfl⟩
  · have e : hx c = -1 := by unfold hx; rw [if_neg h1, if_neg h2, if_neg h3]
    rw [e]
    clear e
    by_cases a1 : 48 ≤ c <;> by_cases a2 : c ≤ 57 <;> by_cases a3 : 65 ≤ c <;> by_cases a4 : c ≤ 70 <;> by_cases a5 : 97 ≤ c <;> by_cases a6 : c ≤ 102
    all_goals first
      | omega
      | (clear h1 h2 h3; go_enter Tryd.func96, Tryd.ntmps96; go_wp2; go_ret; exact ⟨rfl, rfl⟩)
/-- The first byte that is no blank. -/
def nt (l : List Int) : Int := if bl l 0 < l.length then (bl l 0 : Int) else -1
theorem bl_stop {l : List Int} {i : Nat} (h : ¬ isBlank (gb l i)) : bl l i = i := by rw [bl, dif_neg h]
theorem bl_go {l : List Int} {i : Nat} (h : isBlank (gb l i)) : bl l i = bl l (i + 1) := by rw [bl, dif_pos h]
set_option maxHeartbeats 4000000 in
set_option maxRecDepth 100000 in
theorem nt_h (A : Option Addr) (c : Nat) (l : List Int) (w : World) (hr : ReadsInt w .u8 A l.length l) (hc : l.length ≤ c) (hl : l.length ≤ 140737488355328) :
    Calls Tryd.prog 70 #[.agg #[.bool false, .bool false, .int .i64 0], .slice A l.length c] w fun e w' => e = .returned (.int .i64 (nt l)) ∧ Below w.heap.size w w' := by
  have hlb : (l.length : Int) ≤ 140737488355328 := by omega
  have hba : Below w.heap.size w (w.alloc (.cells #[.bool false, .bool false, .int .i64 0] 80)) := (Below.refl _ _).alloc (Nat.le_refl _) _
  have HR := Lib.hid (And.intro (hr.below hba) (And.intro hba hc))
  clear hr hba hc
  go_enter Tryd.func70, Tryd.ntmps70
  go_wp2
  go_loop [9] (fun vi => ∃ i : Nat, i ≤ l.length ∧ vi = .int .i64 i ∧ Hid (bl l 0 = bl l i)) (fun vi => l.length - (intOf vi).toNat)
  case atStart => exact ⟨0, Nat.zero_le _, rfl, Lib.hid rfl⟩
  case round =>
    obtain ⟨i, hi, rfl, HH⟩ := hrel
    by_cases hlt : i < l.length
    · obtain ⟨ad, rfl, hcell⟩ := HR.out.1.at_ i (by omega) (by omega)
      obtain ⟨x, hx⟩ : ∃ x, gb l i = x := ⟨_, rfl⟩
      have hcell' : (w.alloc (.cells #[.bool false, .bool false, .int .i64 0] 80)).cell? (ad.add i) = some (.int .u8 x) := by rw [Int.toNat_natCast] at hcell; rw [hcell, ← hx]; simp [rd, gb]
      clear hcell
      by_cases hb : isBlank x
      · have HN : Hid (bl l 0 = bl l (i + 1)) := Lib.hid (by rw [HH.out]; exact bl_go (by rw [hx]; exact hb))
        clear HH hx
        unfold isBlank at hb
        rcases hb with rfl | rfl | rfl | rfl
        all_goals (
          go_wp2
          go_round
          case rel => exact ⟨i + 1, by omega, by go_num, HN⟩
          case measure => simp [intOf]; omega)
      · have HN : Hid (nt l = i) := Lib.hid (by rw [nt, HH.out, bl_stop (by rw [hx]; exact hb), if_pos hlt])
        clear HH hx
        unfold isBlank at hb
        have e1 : (x == 32) = false := beq_eq_false_iff_ne.2 (by omega)
        have e2 : (x == 10) = false := beq_eq_false_iff_ne.2 (by omega)
        have e3 : (x == 13) = false := beq_eq_false_iff_ne.2 (by omega)
        have e4 : (x == 9) = false := beq_eq_false_iff_ne.2 (by omega)
        clear hb
        go_wp2
        go_ret
        exact ⟨congrArg (fun z => Ending.returned (.int .i64 z)) HN.out.symm, HR.out.2.1⟩
    · have HN : Hid (nt l = -1) := Lib.hid (by
        have hn : ¬ isBlank (gb l i) := fun h => by have := blank_in h; omega
        rw [nt, HH.out, bl_stop hn, if_neg (by omega)])
      clear HH
      go_wp2
      go_ret
      exact ⟨congrArg (fun z => Ending.returned (.int .i64 z)) HN.out.symm, HR.out.2.1⟩
set_option maxHeartbeats 4000000 in
set_option maxRecDepth 100000 in
theorem te_c (A : Option Addr) (c : Nat) (l : List Int) (w : World) (hr : ReadsInt w .u8 A l.length l) (hc : l.length ≤ c) (hl : l.length ≤ 140737488355328) :
    Calls Tryd.prog 95 #[.slice A l.length c] w fun e w' => e = .returned (.int .i64 ((te l 0 : Nat) : Int)) ∧ Below w.heap.size w w' := by
  have hlb : (l.length : Int) ≤ 140737488355328 := by omega
  have HR := Lib.hid (And.intro hr hc)
  clear hr hc
  go_enter Tryd.func95, Tryd.ntmps95
  go_wp2
  go_loop [7] (fun vi => ∃ i : Nat, i ≤ l.length ∧ vi = .int .i64 i ∧ Hid (te l 0 = te l i)) (fun vi => l.length - (intOf vi).toNat)
  case atStart => exact ⟨0, Nat.zero_le _, rfl, Lib.hid rfl⟩
  case round =>
    obtain ⟨i, hi, rfl, HH⟩ := hrel
    by_cases hlt : i < l.length
    · obtain ⟨ad, rfl, hcell⟩ := HR.out.1.at_ i (by omega) (by omega)
      obtain ⟨x, hx⟩ : ∃ x, gb l i = x := ⟨_, rfl⟩
      have hcell' : w.cell? (ad.add i) = some (.int .u8 x) := by rw [Int.toNat_natCast] at hcell; rw [hcell, ← hx]; simp [rd, gb]
      clear hcell
      by_cases hb : isDl x
      · have HN : Hid (te l 0 = i) := Lib.hid (by rw [HH.out, te_stop (.inr (by rw [hx]; exact hb))])
        clear HH hx
        unfold isDl at hb
        rcases hb with rfl | rfl | rfl | rfl | rfl | rfl | rfl
        all_goals (
          go_wp2
          go_ret
          exact ⟨congrArg (fun z : Nat => Ending.returned (.int .i64 (z : Int))) HN.out.symm, Below.refl _ _⟩)
      · have HN : Hid (te l 0 = te l (i + 1)) := Lib.hid (by rw [HH.out, te_go hlt (by rw [hx]; exact hb)])
        clear HH hx
        unfold isDl at hb
        have e1 : (x != 32) = true := by simp; omega
        have e2 : (x != 10) = true := by simp; omega
        have e3 : (x != 13) = true := by simp; omega
        have e4 : (x != 9) = true := by simp; omega
        have e5 : (x != 44) = true := by simp; omega
        have e6 : (x != 125) = true := by simp; omega
        have e7 : (x != 93) = true := by simp; omega
        clear hb
        go_wp2
        go_round
        case rel => exact ⟨i + 1, by omega, by go_num, HN⟩
        case measure => simp [intOf]; omega
    · have HN : Hid (te l 0 = l.length) := Lib.hid (by rw [HH.out, te_stop (.inl (by omega))]; omega)
      clear HH
      go_wp2
      go_ret
      exact ⟨congrArg (fun z : Nat => Ending.returned (.int .i64 (z : Int))) HN.out.symm, Below.refl _ _⟩
/-- Four hexadecimal digits behind \u. -/
def sg (l : List Int) : Int × Bool :=
  if l.length < 6 then (65533, false)
  else if hx (l.getD 2 0) = -1 ∨ hx (l.getD 3 0) = -1 ∨ hx (l.getD 4 0) = -1 ∨ hx (l.getD 5 0) = -1 then (65533, false)
  else (hx (l.getD 2 0) * 4096 + hx (l.getD 3 0) * 256 + hx (l.getD 4 0) * 16 + hx (l.getD 5 0), true)
theorem sg_range (l : List Int) : 0 ≤ (sg l).1 ∧ (sg l).1 ≤ 65535 := by
  unfold sg
  have h2 := hx_range (l.getD 2 0)
  have h3 := hx_range (l.getD 3 0)
  have h4 := hx_range (l.getD 4 0)
  have h5 := hx_range (l.getD 5 0)
  split
  · simp
  · split
    · simp
    · simp only
      omega
set_option maxHeartbeats 4000000 in
set_option maxRecDepth 100000 in
theorem sg_c (A : Option Addr) (c : Nat) (l : List Int) (w : World) (hr : ReadsInt w .u8 A l.length l) :
    Calls Tryd.prog 87 #[.slice A l.length c] w fun e w' => e = .returned (.tuple #[.int .i32 (sg l).1, .bool (sg l).2]) ∧ Drawn0 w w' := by
  have hll : l.length ≤ 9223372036854775807 := hr.2.1
  by_cases hl : l.length < 6
  · have hs : sg l = (65533, false) := by unfold sg; rw [if_pos hl]
    rw [hs]
    have hl' : (l.length : Int) < 6 := by omega
    clear hr hs
    go_enter Tryd.func87, Tryd.ntmps87
    go_wp2
    go_ret2
    exact ⟨rfl, Drawn0.refl _⟩
  · obtain ⟨ad, rfl, hc⟩ := hr.2.2 (by omega)
    have c2 := hc 2 (by omega)
    have c3 := hc 3 (by omega)
    have c4 := hc 4 (by omega)
    have c5 := hc 5 (by omega)
    simp only [Go.Addr.add, Nat.reduceEqDiff, ↓reduceIte] at c2 c3 c4 c5
    have r2 := hx_range (l.getD 2 0)
    have r3 := hx_range (l.getD 3 0)
    have r4 := hx_range (l.getD 4 0)
    have r5 := hx_range (l.getD 5 0)
    have hs : sg l = if hx (l.getD 2 0) = -1 ∨ hx (l.getD 3 0) = -1 ∨ hx (l.getD 4 0) = -1 ∨ hx (l.getD 5 0) = -1 then (65533, false) else (hx (l.getD 2 0) * 4096 + hx (l.getD 3 0) * 256 + hx (l.getD 4 0) * 16 + hx (l.getD 5 0), true) := by
      unfold sg
      rw [if_neg hl]
    rw [hs]
    clear hc hr hs
    generalize l.getD 2 0 = x2 at *
    generalize l.getD 3 0 = x3 at *
    generalize l.getD 4 0 = x4 at *
    generalize l.getD 5 0 = x5 at *
    have HX := Lib.hid (fun (x : Int) (W : World) => h2I_c x W)
    generalize hh2 : hx x2 = h2 at *
    generalize hh3 : hx x3 = h3 at *
    generalize hh4 : hx x4 = h4 at *
    generalize hh5 : hx x5 = h5 at *
    have K2 : Hid (∀ W : World, Calls Tryd.prog 96 #[.int .u8 x2] W fun e w' => e = .returned (.int .i64 h2) ∧ w' = W) := Lib.hid (fun W => by rw [← hh2]; exact HX.out x2 W)
    have K3 : Hid (∀ W : World, Calls Tryd.prog 96 #[.int .u8 x3] W fun e w' => e = .returned (.int .i64 h3) ∧ w' = W) := Lib.hid (fun W => by rw [← hh3]; exact HX.out x3 W)
    have K4 : Hid (∀ W : World, Calls Tryd.prog 96 #[.int .u8 x4] W fun e w' => e = .returned (.int .i64 h4) ∧ w' = W) := Lib.hid (fun W => by rw [← hh4]; exact HX.out x4 W)
    have K5 : Hid (∀ W : World, Calls Tryd.prog 96 #[.int .u8 x5] W fun e w' => e = .returned (.int .i64 h5) ∧ w' = W) := Lib.hid (fun W => by rw [← hh5]; exact HX.out x5 W)
    clear HX hh2 hh3 hh4 hh5
    have hl' : ¬ (l.length : Int) < 6 := by omega
    by_cases a2 : h2 = -1
    · subst a2
      rw [if_pos (.inl rfl)]
      go_enter Tryd.func87, Tryd.ntmps87
      go_upto_region 3 with (fail)
      go_quiet (first | (go_at_call 96; (with_reducible refine (K2.out _).mono ?_); rintro e1 w1 ⟨rfl, rfl⟩; (try first | exact ⟨rfl, _, rfl⟩ | exact ⟨rfl, 0, rfl⟩)) | (go_at_call 96; (with_reducible refine (K3.out _).mono ?_); rintro e1 w1 ⟨rfl, rfl⟩; (try first | exact ⟨rfl, _, rfl⟩ | exact ⟨rfl, 0, rfl⟩)) | (go_at_call 96; (with_reducible refine (K4.out _).mono ?_); rintro e1 w1 ⟨rfl, rfl⟩; (try first | exact ⟨rfl, _, rfl⟩ | exact ⟨rfl, 0, rfl⟩)) | (go_at_call 96; (with_reducible refine (K5.out _).mono ?_); rintro e1 w1 ⟨rfl, rfl⟩; (try first | exact ⟨rfl, _, rfl⟩ | exact ⟨rfl, 0, rfl⟩)))
      go_wp2
      go_ret2
      exact ⟨rfl, nq, rfl⟩
    by_cases a3 : h3 = -1
    · subst a3
      rw [if_pos (.inr (.inl rfl))]
      have e2 : (h2 == -1) = false := by simpa using a2
      go_enter Tryd.func87, Tryd.ntmps87
      go_upto_region 3 with (fail)
      go_quiet (first | (go_at_call 96; (with_reducible refine (K2.out _).mono ?_); rintro e1 w1 ⟨rfl, rfl⟩; (try first | exact ⟨rfl, _, rfl⟩ | exact ⟨rfl, 0, rfl⟩)) | (go_at_call 96; (with_reducible refine (K3.out _).mono ?_); rintro e1 w1 ⟨rfl, rfl⟩; (try first | exact ⟨rfl, _, rfl⟩ | exact ⟨rfl, 0, rfl⟩)) | (go_at_call 96; (with_reducible refine (K4.out _).mono ?_); rintro e1 w1 ⟨rfl, rfl⟩; (try first | exact ⟨rfl, _, rfl⟩ | exact ⟨rfl, 0, rfl⟩)) | (go_at_call 96; (with_reducible refine (K5.out _).mono ?_); rintro e1 w1 ⟨rfl, rfl⟩; (try first | exact ⟨rfl, _, rfl⟩ | exact ⟨rfl, 0, rfl⟩)))
      go_wp2
      go_ret2
      exact ⟨rfl, nq, rfl⟩
    by_cases a4 : h4 = -1
    · subst a4
      rw [if_pos (.inr (.inr (.inl rfl)))]
      have e2 : (h2 == -1) = false := by simpa using a2
      have e3 : (h3 == -1) = false := by simpa using a3
      go_enter Tryd.func87, Tryd.ntmps87
      go_upto_region 3 with (fail)
      go_quiet (first | (go_at_call 96; (with_reducible refine (K2.out _).mono ?_); rintro e1 w1 ⟨rfl, rfl⟩; (try first | exact ⟨rfl, _, rfl⟩ | exact ⟨rfl, 0, rfl⟩)) | (go_at_call 96; (with_reducible refine (K3.out _).mono ?_); rintro e1 w1 ⟨rfl, rfl⟩; (try first | exact ⟨rfl, _, rfl⟩ | exact ⟨rfl, 0, rfl⟩)) | (go_at_call 96; (with_reducible refine (K4.out _).mono ?_); rintro e1 w1 ⟨rfl, rfl⟩; (try first | exact ⟨rfl, _, rfl⟩ | exact ⟨rfl, 0, rfl⟩)) | (go_at_call 96; (with_reducible refine (K5.out _).mono ?_); rintro e1 w1 ⟨rfl, rfl⟩; (try first | exact ⟨rfl, _, rfl⟩ | exact ⟨rfl, 0, rfl⟩)))
      go_wp2
      go_ret2
      exact ⟨rfl, nq, rfl⟩
    by_cases a5 : h5 = -1
    · subst a5
      rw [if_pos (.inr (.inr (.inr rfl)))]
      have e2 : (h2 == -1) = false := by simpa using a2
      have e3 : (h3 == -1) = false := by simpa using a3
      have e4 : (h4 == -1) = false := by simpa using a4
      go_enter Tryd.func87, Tryd.ntmps87
      go_upto_region 3 with (fail)
      go_quiet (first | (go_at_call 96; (with_reducible refine (K2.out _).mono ?_); rintro e1 w1 ⟨rfl, rfl⟩; (try first | exact ⟨rfl, _, rfl⟩ | exact ⟨rfl, 0, rfl⟩)) | (go_at_call 96; (with_reducible refine (K3.out _).mono ?_); rintro e1 w1 ⟨rfl, rfl⟩; (try first | exact ⟨rfl, _, rfl⟩ | exact ⟨rfl, 0, rfl⟩)) | (go_at_call 96; (with_reducible refine (K4.out _).mono ?_); rintro e1 w1 ⟨rfl, rfl⟩; (try first | exact ⟨rfl, _, rfl⟩ | exact ⟨rfl, 0, rfl⟩)) | (go_at_call 96; (with_reducible refine (K5.out _).mono ?_); rintro e1 w1 ⟨rfl, rfl⟩; (try first | exact ⟨rfl, _, rfl⟩ | exact ⟨rfl, 0, rfl⟩)))
      go_wp2
      go_ret2
      exact ⟨rfl, nq, rfl⟩
    rw [if_neg (by omega)]
    have e2 : (h2 == -1) = false := by simpa using a2
    have e3 : (h3 == -1) = false := by simpa using a3
    have e4 : (h4 == -1) = false := by simpa using a4
    have e5 : (h5 == -1) = false := by simpa using a5
    have hs : IntKind.i32.wrap (h2 * 4096 + h3 * 256 + h4 * 16 + h5) = h2 * 4096 + h3 * 256 + h4 * 16 + h5 := by simp only [IntKind.wrap_i32]; omega
    go_enter Tryd.func87, Tryd.ntmps87
    go_upto_region 3 with (fail)
    go_quiet (first | (go_at_call 96; (with_reducible refine (K2.out _).mono ?_); rintro e1 w1 ⟨rfl, rfl⟩; (try first | exact ⟨rfl, _, rfl⟩ | exact ⟨rfl, 0, rfl⟩)) | (go_at_call 96; (with_reducible refine (K3.out _).mono ?_); rintro e1 w1 ⟨rfl, rfl⟩; (try first | exact ⟨rfl, _, rfl⟩ | exact ⟨rfl, 0, rfl⟩)) | (go_at_call 96; (with_reducible refine (K4.out _).mono ?_); rintro e1 w1 ⟨rfl, rfl⟩; (try first | exact ⟨rfl, _, rfl⟩ | exact ⟨rfl, 0, rfl⟩)) | (go_at_call 96; (with_reducible refine (K5.out _).mono ?_); rintro e1 w1 ⟨rfl, rfl⟩; (try first | exact ⟨rfl, _, rfl⟩ | exact ⟨rfl, 0, rfl⟩)))
    go_wp2
    go_ret2
    exact ⟨rfl, nq, rfl⟩
/-- What \uXXXX stands for, and how many bytes it takes; -1: none. -/
def dec (l : List Int) : Int × Int :=
  if (sg l).2 = false then (65533, -1)
  else if ¬ (55296 ≤ (sg l).1 ∧ (sg l).1 ≤ 57343) then ((sg l).1, 6)
  else if 56320 ≤ (sg l).1 then (65533, 6)
  else if l.length < 8 ∨ l.getD 6 0 ≠ 92 ∨ l.getD 7 0 ≠ 117 then (65533, 6)
  else if (sg (l.drop 6)).2 = false then (65533, -1)
  else if (sg (l.drop 6)).1 < 56320 ∨ 57343 < (sg (l.drop 6)).1 then (65533, 6)
  else (65536 + ((sg l).1 - 55296) * 1024 + ((sg (l.drop 6)).1 - 56320), 12)
theorem sg_len {l : List Int} (h : (sg l).2 = true) : 6 ≤ l.length := by
  unfold sg at h
  split at h
  · cases h
  · omega
theorem dec_range (l : List Int) : 0 ≤ (dec l).1 ∧ (dec l).1 ≤ 1114111 ∧ ((dec l).2 = -1 ∨ ((dec l).2 = 6 ∧ 6 ≤ l.length ∧ (dec l).1 ≤ 65535) ∨ ((dec l).2 = 12 ∧ 12 ≤ l.length)) := by
  have h1 := sg_range l
  have h2 := sg_range (l.drop 6)
  unfold dec
  cases hs : (sg l).2 with
  | false => simp
  | true =>
    have hl := sg_len hs
    rw [if_neg (by simp)]
    split
    · exact ⟨h1.1, Int.le_trans h1.2 (by decide), .inr (.inl ⟨rfl, hl, h1.2⟩)⟩
    · split
      · exact ⟨by decide, by decide, .inr (.inl ⟨rfl, hl, by decide⟩)⟩
      · split
        · exact ⟨by decide, by decide, .inr (.inl ⟨rfl, hl, by decide⟩)⟩
        · cases hs2 : (sg (l.drop 6)).2 with
          | false => simp
          | true =>
            have hl2 := sg_len hs2
            rw [List.length_drop] at hl2
            rw [if_neg (by simp)]
            split
            · exact ⟨by decide, by decide, .inr (.inl ⟨rfl, hl, by decide⟩)⟩
            · rename_i g1 g2 _ g3
              have g1' : 55296 ≤ (sg l).1 ∧ (sg l).1 ≤ 57343 := Decidable.not_not.1 g1
              refine ⟨?_, ?_, .inr (.inr ⟨rfl, by omega⟩)⟩ <;> (show _ ≤ _; dsimp only; omega)
set_option maxHeartbeats 4000000 in
set_option maxRecDepth 100000 in
theorem is16_c (x : Int) (w : World) : Calls Tryd.prog 88 #[.int .i32 x] w fun e w' => e = .returned (.bool (decide (55296 ≤ x ∧ x ≤ 57343))) ∧ w' = w := by
  by_cases h1 : 55296 ≤ x
  · by_cases h2 : x ≤ 57343
    · rw [decide_eq_true ⟨h1, h2⟩]
      go_enter Tryd.func88, Tryd.ntmps88
      go_wp2
      go_ret
      exact ⟨rfl, rfl⟩
    · rw [decide_eq_false (fun h => h2 h.2)]
      go_enter Tryd.func88, Tryd.ntmps88
      go_wp2
      go_ret
      exact ⟨rfl, rfl⟩
  · rw [decide_eq_false (fun h => h1 h.1)]
    go_enter Tryd.func88, Tryd.ntmps88
    go_wp2
    go_ret
    exact ⟨rfl, rfl⟩
set_option maxHeartbeats 4000000 in
set_option maxRecDepth 100000 in
theorem comb_c (a b : Int) (w : World) (h1 : 55296 ≤ a) (h2 : a < 56320) (h3 : 56320 ≤ b) (h4 : b ≤ 57343) : Calls Tryd.prog 89 #[.int .i32 a, .int .i32 b] w fun e w' => e = .returned (.int .i32 (65536 + (a - 55296) * 1024 + (b - 56320))) ∧ w' = w := by
  have w1 : IntKind.i32.wrap (a - 55296) = a - 55296 := by simp only [IntKind.wrap_i32]; omega
  have w2 : IntKind.i32.wrap ((a - 55296) * 1024) = (a - 55296) * 1024 := by simp only [IntKind.wrap_i32]; omega
  have w3 : IntKind.i32.wrap (65536 + (a - 55296) * 1024) = 65536 + (a - 55296) * 1024 := by simp only [IntKind.wrap_i32]; omega
  have w4 : IntKind.i32.wrap (b - 56320) = b - 56320 := by simp only [IntKind.wrap_i32]; omega
  have w5 : IntKind.i32.wrap (65536 + (a - 55296) * 1024 + (b - 56320)) = 65536 + (a - 55296) * 1024 + (b - 56320) := by simp only [IntKind.wrap_i32]; omega
  go_enter Tryd.func89, Tryd.ntmps89
  go_wp2
  go_ret
  exact ⟨rfl, rfl⟩
set_option maxHeartbeats 8000000 in
set_option maxRecDepth 100000 in
theorem dec_calls (A : Option Addr) (c : Nat) (l : List Int) (w : World) (hr : ReadsInt w .u8 A l.length l) (hlc : l.length ≤ c) :
    Calls Tryd.prog 75 #[.slice A l.length c] w fun e w' => e = .returned (.tuple #[.int .i32 (dec l).1, .int .i64 (dec l).2]) ∧ Drawn0 w w' := by
  have hll : l.length ≤ 9223372036854775807 := hr.2.1
  have HS : Hid (∀ n, Calls Tryd.prog 87 #[.slice A l.length c] (w.drewN n) fun e w' => e = .returned (.tuple #[.int .i32 (sg l).1, .bool (sg l).2]) ∧ Drawn0 (w.drewN n) w') := Lib.hid (fun n => sg_c A c l _ hr)
  have H0 : Hid (Calls Tryd.prog 87 #[.slice A l.length c] w fun e w' => e = .returned (.tuple #[.int .i32 (sg l).1, .bool (sg l).2]) ∧ Drawn0 w w') := Lib.hid (sg_c A c l _ hr)
  have hrange := sg_range l
  obtain ⟨s1, hs1⟩ : ∃ s1, (sg l).1 = s1 := ⟨_, rfl⟩
  obtain ⟨s2, hs2⟩ : ∃ s2, (sg l).2 = s2 := ⟨_, rfl⟩
  obtain ⟨d, hd⟩ : ∃ d, dec l = d := ⟨_, rfl⟩
  rw [hd]
  unfold dec at hd
  rw [hs1] at hrange
  rw [hs1, hs2] at H0 hd
  cases s2 with
  | false =>
    rw [if_pos rfl] at hd
    obtain rfl : ((65533 : Int), (-1 : Int)) = d := hd
    clear hs1 hs2 hr hrange
    go_enter Tryd.func75, Tryd.ntmps75
    go_wp2_with (first | (go_at_call 87; (with_reducible refine H0.out.mono ?_); rintro e1 w1 ⟨rfl, ⟨⟨n, rfl⟩⟩⟩) | (go_at_call 88; (with_reducible refine (is16_c _ _).mono ?_); rintro e1 w1 ⟨rfl, rfl⟩))
    go_ret2
    exact ⟨rfl, ⟨_, rfl⟩⟩
  | true =>
    rw [if_neg (by simp)] at hd
    by_cases h16 : 55296 ≤ s1 ∧ s1 ≤ 57343
    · rw [if_neg (by simpa using h16)] at hd
      have e16 : decide (55296 ≤ s1 ∧ s1 ≤ 57343) = true := decide_eq_true h16
      by_cases hhi : 56320 ≤ s1
      · rw [if_pos hhi] at hd
        obtain rfl : ((65533 : Int), (6 : Int)) = d := hd
        clear hs1 hs2 hr
        go_enter Tryd.func75, Tryd.ntmps75
        go_wp2_with (first | (go_at_call 87; (with_reducible refine H0.out.mono ?_); rintro e1 w1 ⟨rfl, ⟨⟨n, rfl⟩⟩⟩) | (go_at_call 88; (with_reducible refine (is16_c _ _).mono ?_); rintro e1 w1 ⟨rfl, rfl⟩))
        go_ret2
        exact ⟨rfl, ⟨_, rfl⟩⟩
      rw [if_neg hhi] at hd
      by_cases h8 : l.length < 8
      · rw [if_pos (.inl h8)] at hd
        have h8' : (l.length : Int) < 8 := by omega
        obtain rfl : ((65533 : Int), (6 : Int)) = d := hd
        clear hs1 hs2 hr
        go_enter Tryd.func75, Tryd.ntmps75
        go_wp2_with (first | (go_at_call 87; (with_reducible refine H0.out.mono ?_); rintro e1 w1 ⟨rfl, ⟨⟨n, rfl⟩⟩⟩) | (go_at_call 88; (with_reducible refine (is16_c _ _).mono ?_); rintro e1 w1 ⟨rfl, rfl⟩))
        go_ret2
        exact ⟨rfl, ⟨_, rfl⟩⟩
      obtain ⟨ad, rfl, hc⟩ := hr.2.2 (by omega)
      have c6 := hc 6 (by omega)
      have c7 := hc 7 (by omega)
      simp only [Go.Addr.add, Nat.reduceEqDiff, ↓reduceIte] at c6 c7
      have h8' : ¬ (l.length : Int) < 8 := by omega
      have HR := Lib.hid hr
      clear hc hr
      by_cases x6 : l.getD 6 0 = 92
      · by_cases x7 : l.getD 7 0 = 117
        · rw [if_neg (by rw [x6, x7]; omega)] at hd
          rw [x6] at c6
          rw [x7] at c7
          have hrange2 := sg_range (l.drop 6)
          obtain ⟨i5, hi5, hsz5⟩ : ∃ i, Tryd.prog.info? 5 = some i ∧ i.size = 1 := ⟨_, rfl, rfl⟩
          obtain ⟨A', hk1, hk2⟩ := print_cut (P := Tryd.prog) 57 5 .i64 Tryd.underlying57 hi5 hsz5 (some ad) l.length c 6 (by omega)
          have hk1' : ∀ W : World, (Instr.slice 57 (.slice (some ad) l.length c) (some (.int .i64 6)) none none).run Tryd.prog W = .ok (.slice A' (l.length - 6) (c - 6)) W := fun W => hk1 W
          have H2 : Hid (∀ n, Calls Tryd.prog 87 #[.slice A' (l.length - 6) (c - 6)] (w.drewN n) fun e w' => e = .returned (.tuple #[.int .i32 (sg (l.drop 6)).1, .bool (sg (l.drop 6)).2]) ∧ Drawn0 (w.drewN n) w') := Lib.hid (fun n => by
            have hl6 : (l.drop 6).length = l.length - 6 := List.length_drop
            have := sg_c A' (c - 6) (l.drop 6) (w.drewN n) (by rw [hl6]; exact hk2 (w.drewN n) .u8 l hlc HR.out)
            rw [hl6] at this
            exact this)
          obtain ⟨t1, ht1⟩ : ∃ t1, (sg (l.drop 6)).1 = t1 := ⟨_, rfl⟩
          obtain ⟨t2, ht2⟩ : ∃ t2, (sg (l.drop 6)).2 = t2 := ⟨_, rfl⟩
          rw [ht1] at hrange2
          rw [ht1, ht2] at H2 hd
          clear hs1 hs2 ht1 ht2 hk1 hk2 x6 x7 hi5 hsz5
          cases t2 with
          | false =>
            rw [if_pos rfl] at hd
            obtain rfl : ((65533 : Int), (-1 : Int)) = d := hd
            go_enter Tryd.func75, Tryd.ntmps75
            go_wp2_with (first | (go_at_call 87; (with_reducible refine H0.out.mono ?_); rintro e1 w1 ⟨rfl, ⟨⟨n, rfl⟩⟩⟩) | (go_at_call 87; (with_reducible refine (H2.out _).mono ?_); rintro e1 w1 ⟨rfl, ⟨⟨n2, rfl⟩⟩⟩) | (go_at_call 88; (with_reducible refine (is16_c _ _).mono ?_); rintro e1 w1 ⟨rfl, rfl⟩) | (go_at_call 89; (with_reducible refine (comb_c _ _ _ (by omega) (by omega) (by omega) (by omega)).mono ?_); rintro e1 w1 ⟨rfl, rfl⟩))
            go_ret2
            exact ⟨rfl, ⟨_, rfl⟩⟩
          | true =>
            rw [if_neg (by simp)] at hd
            by_cases hlo : t1 < 56320
            · rw [if_pos (.inl hlo)] at hd
              obtain rfl : ((65533 : Int), (6 : Int)) = d := hd
              go_enter Tryd.func75, Tryd.ntmps75
              go_wp2_with (first | (go_at_call 87; (with_reducible refine H0.out.mono ?_); rintro e1 w1 ⟨rfl, ⟨⟨n, rfl⟩⟩⟩) | (go_at_call 87; (with_reducible refine (H2.out _).mono ?_); rintro e1 w1 ⟨rfl, ⟨⟨n2, rfl⟩⟩⟩) | (go_at_call 88; (with_reducible refine (is16_c _ _).mono ?_); rintro e1 w1 ⟨rfl, rfl⟩) | (go_at_call 89; (with_reducible refine (comb_c _ _ _ (by omega) (by omega) (by omega) (by omega)).mono ?_); rintro e1 w1 ⟨rfl, rfl⟩))
              go_ret2
              exact ⟨rfl, ⟨_, rfl⟩⟩
            by_cases hgt : 57343 < t1
            · rw [if_pos (.inr hgt)] at hd
              obtain rfl : ((65533 : Int), (6 : Int)) = d := hd
              go_enter Tryd.func75, Tryd.ntmps75
              go_wp2_with (first | (go_at_call 87; (with_reducible refine H0.out.mono ?_); rintro e1 w1 ⟨rfl, ⟨⟨n, rfl⟩⟩⟩) | (go_at_call 87; (with_reducible refine (H2.out _).mono ?_); rintro e1 w1 ⟨rfl, ⟨⟨n2, rfl⟩⟩⟩) | (go_at_call 88; (with_reducible refine (is16_c _ _).mono ?_); rintro e1 w1 ⟨rfl, rfl⟩) | (go_at_call 89; (with_reducible refine (comb_c _ _ _ (by omega) (by omega) (by omega) (by omega)).mono ?_); rintro e1 w1 ⟨rfl, rfl⟩))
              go_ret2
              exact ⟨rfl, ⟨_, rfl⟩⟩
            · rw [if_neg (by omega)] at hd
              obtain rfl : ((65536 + (s1 - 55296) * 1024 + (t1 - 56320) : Int), (12 : Int)) = d := hd
              go_enter Tryd.func75, Tryd.ntmps75
              go_wp2_with (first | (go_at_call 87; (with_reducible refine H0.out.mono ?_); rintro e1 w1 ⟨rfl, ⟨⟨n, rfl⟩⟩⟩) | (go_at_call 87; (with_reducible refine (H2.out _).mono ?_); rintro e1 w1 ⟨rfl, ⟨⟨n2, rfl⟩⟩⟩) | (go_at_call 88; (with_reducible refine (is16_c _ _).mono ?_); rintro e1 w1 ⟨rfl, rfl⟩) | (go_at_call 89; (with_reducible refine (comb_c _ _ _ (by omega) (by omega) (by omega) (by omega)).mono ?_); rintro e1 w1 ⟨rfl, rfl⟩))
              go_ret2
              exact ⟨rfl, ⟨_, rfl⟩⟩
        · rw [if_pos (.inr (.inr x7))] at hd
          rw [x6] at c6
          obtain ⟨y, hy⟩ : ∃ y, l.getD 7 0 = y := ⟨_, rfl⟩
          rw [hy] at c7 x7
          have e7 : (y != 117) = true := by simpa using x7
          obtain rfl : ((65533 : Int), (6 : Int)) = d := hd
          clear hy x7 hs1 hs2
          go_enter Tryd.func75, Tryd.ntmps75
          go_wp2_with (first | (go_at_call 87; (with_reducible refine H0.out.mono ?_); rintro e1 w1 ⟨rfl, ⟨⟨n, rfl⟩⟩⟩) | (go_at_call 88; (with_reducible refine (is16_c _ _).mono ?_); rintro e1 w1 ⟨rfl, rfl⟩))
          go_ret2
          exact ⟨rfl, ⟨_, rfl⟩⟩
      · rw [if_pos (.inr (.inl x6))] at hd
        obtain ⟨y, hy⟩ : ∃ y, l.getD 6 0 = y := ⟨_, rfl⟩
        rw [hy] at c6 x6
        have e6 : (y != 92) = true := by simpa using x6
        obtain rfl : ((65533 : Int), (6 : Int)) = d := hd
        clear hy x6 hs1 hs2
        go_enter Tryd.func75, Tryd.ntmps75
        go_wp2_with (first | (go_at_call 87; (with_reducible refine H0.out.mono ?_); rintro e1 w1 ⟨rfl, ⟨⟨n, rfl⟩⟩⟩) | (go_at_call 88; (with_reducible refine (is16_c _ _).mono ?_); rintro e1 w1 ⟨rfl, rfl⟩))
        go_ret2
        exact ⟨rfl, ⟨_, rfl⟩⟩
    · rw [if_pos h16] at hd
      have e16 : decide (55296 ≤ s1 ∧ s1 ≤ 57343) = false := decide_eq_false h16
      clear h16
      obtain rfl : ((s1 : Int), (6 : Int)) = d := hd
      clear hs1 hs2 hr
      go_enter Tryd.func75, Tryd.ntmps75
      go_wp2_with (first | (go_at_call 87; (with_reducible refine H0.out.mono ?_); rintro e1 w1 ⟨rfl, ⟨⟨n, rfl⟩⟩⟩) | (go_at_call 88; (with_reducible refine (is16_c _ _).mono ?_); rintro e1 w1 ⟨rfl, rfl⟩))
      go_ret2
      exact ⟨rfl, ⟨_, rfl⟩⟩
end Go.Proofs.YtgbliniamkpocaaDoor.Jp
