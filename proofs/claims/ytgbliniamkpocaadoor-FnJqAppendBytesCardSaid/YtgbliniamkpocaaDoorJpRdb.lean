/- The reference's reader of JSON texts, walked by hand: digits, an escape, a string, a number. -/
import Derived.Test.YtgbliniamkpocaaDoorG2
import Derived.Test.YtgbliniamkpocaaDoorG10
namespace Go.Proofs.YtgbliniamkpocaaDoor.Jp
open Go.RowKit Go.Proofs.YtgbliniamkpocaaDoorW.PrintWords Go.Proofs.YtgbliniamkpocaaDoor.Kit Go.Proofs.YtgbliniamkpocaaDoor.Pure

theorem rAt_inc {g i n : Nat} {s : ByteArray} {w w1 : World} (h : Went g s w w1 i) : rAt ((w1.drewN n).setCell ⟨g, 1, none⟩ (.int .i64 ((i : Int) + 1))) g = i + 1 := rAt_of (h.drewN n).inc.rd
set_option maxHeartbeats 4000000 in
set_option maxRecDepth 100000 in
theorem digits_c {g i : Nat} {s : ByteArray} {w : World} (hR : Rdr w g s i) (hi : i ≤ s.size) (hs : s.size ≤ 140737488355000) : Calls Tryd.prog 84 #[.pointer (some ⟨g, 0, none⟩)] w fun e w' => e = .returned (.bool (decide (i < dg (Kit.nums s) i))) ∧ Went g s w w' (dg (Kit.nums s) i) := by
  obtain ⟨b, hb⟩ : ∃ b, decide (i < dg (Kit.nums s) i) = b := ⟨_, rfl⟩
  rw [hb]
  have HQ := Lib.hid hb
  clear hb
  have HR := Lib.hid hR
  have c0 := hR.c0
  have c1 := hR.c1
  clear hR
  go_enter Tryd.func84, Tryd.ntmps84
  go_wp2_with (go_at_call 62; (with_reducible refine (here_c HR.out).mono ?_); rintro e1 w1 ⟨rfl, hw1⟩; have HW1 := Lib.hid hw1; clear hw1)
  go_loopw [4] (fun v wc => ∃ j : Nat, i ≤ j ∧ j ≤ s.size ∧ v = .int .u8 (gb (Kit.nums s) j) ∧ Hid (Went g s w wc j) ∧ Hid (dg (Kit.nums s) j = dg (Kit.nums s) i)) (fun _ wc => s.size - rAt wc g)
  case atStart => exact ⟨i, Nat.le_refl _, hi, rfl, HW1, Lib.hid rfl⟩
  case round =>
    obtain ⟨j, hij, hj, rfl, HW, HE⟩ := hrel
    have c1' := HW.out.1.c1
    have f1' := HW.out.1.f1
    obtain ⟨c, hc⟩ : ∃ c, gb (Kit.nums s) j = c := ⟨_, rfl⟩
    by_cases hd : 48 ≤ c ∧ c ≤ 57
    · have hlt : j < s.size := by
        have := dig_in (L := Kit.nums s) (i := j) (by rw [hc]; exact hd)
        rwa [nums_len] at this
      have HE2 : Hid (dg (Kit.nums s) (j + 1) = dg (Kit.nums s) i) := Lib.hid (by rw [← HE.out]; exact (Eq.symm (by rw [dg, dif_pos (by rw [hc]; exact hd)])))
      obtain ⟨d1, d2⟩ := hd
      rw [hc]
      clear hc HE
      go_wp2_with (go_at_call 62; (with_reducible refine (here_c HW.out.1.inc).mono ?_); rintro e2 w2 ⟨rfl, hw2⟩; have HW2 := Lib.hid (HW.out.inc.trans hw2); clear hw2)
      go_round
      case rel => exact ⟨j + 1, by omega, hlt, rfl, HW2, HE2⟩
      case measure =>
        have e1 := rAt_of HW.out.1
        have e2 := rAt_of HW2.out.1
        omega
    · have HE2 : Hid (dg (Kit.nums s) i = j) := Lib.hid (by rw [← HE.out, dg, dif_neg (by rw [hc]; exact hd)])
      have HB : Hid (decide (i < j) = b) := Lib.hid (by rw [← HQ.out, HE2.out])
      rw [hc]
      clear hc HE
      by_cases d1 : 48 ≤ c
      · have d2 : ¬ c ≤ 57 := fun h => hd ⟨d1, h⟩
        clear hd
        go_wp2
        go_ret
        exact ⟨congrArg (fun z => Ending.returned (.bool z)) HB.out, by rw [HE2.out]; exact HW.out⟩
      · clear hd
        go_wp2
        go_ret
        exact ⟨congrArg (fun z => Ending.returned (.bool z)) HB.out, by rw [HE2.out]; exact HW.out⟩
theorem hx_is (c : Int) : hx c ≠ -1 ↔ isHex c := by
  unfold hx isHex
  by_cases h1 : 48 ≤ c ∧ c ≤ 57
  · rw [if_pos h1]; omega
  by_cases h2 : 65 ≤ c ∧ c ≤ 70
  · rw [if_neg h1, if_pos h2]; omega
  by_cases h3 : 97 ≤ c ∧ c ≤ 102
  · rw [if_neg h1, if_neg h2, if_pos h3]; omega
  · rw [if_neg h1, if_neg h2, if_neg h3]; omega
theorem hexd_c (c : Int) (w : World) : Calls Tryd.prog 69 #[.int .u8 c] w fun e w' => ∃ v, e = .returned (.tuple #[.int .i64 v, .bool (decide (isHex c))]) ∧ w' = w := by
  refine (hex_c c w).mono fun e w' r => ⟨if hx c = -1 then 0 else hx c, ?_, r.2⟩
  have := r.1
  rwa [decide_eq_decide.2 (hx_is c)] at this
set_option maxHeartbeats 16000000 in
set_option maxRecDepth 100000 in
theorem escape_c {g i : Nat} {s : ByteArray} {w : World} (hR : Rdr w g s i) (hi : i ≤ s.size) (hs : s.size ≤ 140737488355000) : Calls Tryd.prog 83 #[.pointer (some ⟨g, 0, none⟩)] w fun e w' => (∃ j, e = .returned (.bool true) ∧ Went g s w w' j ∧ escE (Kit.nums s) i = some j) ∨ (∃ j, e = .returned (.bool false) ∧ Went g s w w' j) := by
  have HR := Lib.hid hR
  clear hR
  obtain ⟨c, hc⟩ : ∃ c, gb (Kit.nums s) i = c := ⟨_, rfl⟩
  have HH : Hid (∀ w1, Rdr w1 g s i → Calls Tryd.prog 62 #[.pointer (some ⟨g, 0, none⟩)] w1 fun e w' => e = .returned (.int .u8 c) ∧ Went g s w1 w' i) := Lib.hid (fun w1 h => by have := here_c h; rw [hc] at this; exact this)
  by_cases hsh : isShort c
  · have HE : Hid (escE (Kit.nums s) i = some (i + 1)) := Lib.hid (by unfold escE; rw [hc, if_pos hsh])
    unfold isShort at hsh
    clear hc
    rcases hsh with rfl | rfl | rfl | rfl | rfl | rfl | rfl | rfl
    all_goals
      go_enter Tryd.func83, Tryd.ntmps83
      go_wp2_with (go_at_call 62; (with_reducible refine (HH.out _ HR.out).mono ?_); rintro e1 w1 ⟨rfl, hw1⟩; have c1 := hw1.rd.c1; have f1 := hw1.rd.f1; have HW1 := Lib.hid hw1; clear hw1)
      go_ret
      exact .inl ⟨i + 1, rfl, HW1.out.inc, HE.out⟩
  by_cases hu : c = 117
  · subst hu
    have HL : Hid (i < s.size) := Lib.hid (by have := gb_in (L := Kit.nums s) (i := i) (by omega); rwa [nums_len] at this)
    have HE : Hid (escE (Kit.nums s) i = if isHex (gb (Kit.nums s) (i + 1)) ∧ isHex (gb (Kit.nums s) (i + 2)) ∧ isHex (gb (Kit.nums s) (i + 3)) ∧ isHex (gb (Kit.nums s) (i + 4)) then some (i + 5) else none) := Lib.hid (by unfold escE; rw [hc, if_neg hsh, if_pos rfl])
    clear hc hsh
    go_enter Tryd.func83, Tryd.ntmps83
    go_wp2_with (go_at_call 62; (with_reducible refine (HH.out _ HR.out).mono ?_); rintro e1 w1 ⟨rfl, hw1⟩; have c1 := hw1.rd.c1; have f1 := hw1.rd.f1; have HW1 := Lib.hid hw1; clear hw1)
    clear c1 f1
    go_loopw [3] (fun v wc => ∃ m : Nat, m ≤ 4 ∧ v = .int .i64 m ∧ Hid (Went g s w wc (i + 1 + m) ∧ ∀ q, q < m → isHex (gb (Kit.nums s) (i + 1 + q)))) (fun v _ => 4 - (intOf v).toNat)
    case atStart => exact ⟨0, by omega, rfl, Lib.hid ⟨HW1.out.inc, fun q hq => by omega⟩⟩
    case round =>
      obtain ⟨m, hm, rfl, HK⟩ := hrel
      have c1 := HK.out.1.rd.c1
      have f1 := HK.out.1.rd.f1
      by_cases h4 : m < 4
      · obtain ⟨d, hd⟩ : ∃ d, gb (Kit.nums s) (i + 1 + m) = d := ⟨_, rfl⟩
        have HH2 : Hid (Calls Tryd.prog 62 #[.pointer (some ⟨g, 0, none⟩)] wr fun e w' => e = .returned (.int .u8 d) ∧ Went g s wr w' (i + 1 + m)) := Lib.hid (by have := here_c HK.out.1.rd; rw [hd] at this; exact this)
        by_cases hx : isHex d
        · have HX : Hid (∀ w : World, Calls Tryd.prog 69 #[.int .u8 d] w fun e w' => ∃ v, e = .returned (.tuple #[.int .i64 v, .bool true]) ∧ w' = w) := Lib.hid (fun w => by have := hexd_c d w; rw [decide_eq_true hx] at this; exact this)
          have HN : Hid (∀ q, q < m + 1 → isHex (gb (Kit.nums s) (i + 1 + q))) := Lib.hid (fun q hq => by
            by_cases e : q = m
            · subst e
              rw [hd]
              exact hx
            · exact HK.out.2 q (by omega))
          clear hd hx c1 f1
          go_wp2_with (first | (go_at_call 62; (with_reducible refine HH2.out.mono ?_); rintro e1 w1 ⟨rfl, hw1⟩; have c1 := hw1.rd.c1; have f1 := hw1.rd.f1; have HW2 := Lib.hid (HK.out.1.trans hw1); clear hw1) | (go_at_call 69; (with_reducible refine (HX.out _).mono ?_); rintro e2 w2 ⟨v2, rfl, rfl⟩))
          go_round
          case rel => exact ⟨m + 1, by omega, by go_num, Lib.hid ⟨by have := HW2.out.inc; rw [show i + 1 + m + 1 = i + 1 + (m + 1) by omega] at this; exact this, HN.out⟩⟩
          case measure => simp [intOf]; omega
        · have HX : Hid (∀ w : World, Calls Tryd.prog 69 #[.int .u8 d] w fun e w' => ∃ v, e = .returned (.tuple #[.int .i64 v, .bool false]) ∧ w' = w) := Lib.hid (fun w => by have := hexd_c d w; rw [decide_eq_false hx] at this; exact this)
          clear hd hx c1 f1
          go_wp2_with (first | (go_at_call 62; (with_reducible refine HH2.out.mono ?_); rintro e1 w1 ⟨rfl, hw1⟩; have HW2 := Lib.hid (HK.out.1.trans hw1); clear hw1) | (go_at_call 69; (with_reducible refine (HX.out _).mono ?_); rintro e2 w2 ⟨v2, rfl, rfl⟩))
          go_ret
          exact .inr ⟨_, rfl, HW2.out⟩
      · have hm4 : m = 4 := by omega
        subst hm4
        go_wp2
        go_ret
        refine .inl ⟨i + 5, rfl, HK.out.1, ?_⟩
        rw [HE.out, if_pos ⟨HK.out.2 0 (by omega), HK.out.2 1 (by omega), HK.out.2 2 (by omega), HK.out.2 3 (by omega)⟩]
  · have g1 : ∀ k, isShort k → (c == k) = false := fun k hk => by rw [beq_eq_false_iff_ne]; rintro rfl; exact hsh hk
    have g34 := g1 34 (by decide)
    have g92 := g1 92 (by decide)
    have g47 := g1 47 (by decide)
    have g98 := g1 98 (by decide)
    have g102 := g1 102 (by decide)
    have g110 := g1 110 (by decide)
    have g114 := g1 114 (by decide)
    have g116 := g1 116 (by decide)
    have g117 : (c == 117) = false := by simpa using hu
    clear g1 hc hsh hu
    go_enter Tryd.func83, Tryd.ntmps83
    go_wp2_with (go_at_call 62; (with_reducible refine (HH.out _ HR.out).mono ?_); rintro e1 w1 ⟨rfl, hw1⟩; have HW1 := Lib.hid hw1; clear hw1)
    go_ret
    exact .inr ⟨i, rfl, HW1.out⟩
/-- A string, from its first quotation mark on. -/
theorem st_esc_no {L : List Int} {i : Nat} (h : i < L.length) (e : gb L i = 92) {j : Nat} (he : escE L (i + 1) = some j) : st L i = st L j := by
  rw [st, dif_pos h, if_neg (by omega), if_neg (by omega), if_pos e]
  split
  · rename_i h2
    rw [he] at h2
    cases h2
  · rename_i j2 h2
    rw [he] at h2
    injection h2 with h2
    rw [h2]
set_option maxHeartbeats 8000000 in
set_option maxRecDepth 100000 in
theorem quoted_c {g i : Nat} {s : ByteArray} {w : World} (hR : Rdr w g s i) (hi : i < s.size) (hs : s.size ≤ 140737488355000) : Calls Tryd.prog 65 #[.pointer (some ⟨g, 0, none⟩)] w fun e w' => (∃ j, e = .returned (.bool true) ∧ Went g s w w' j ∧ st (Kit.nums s) (i + 1) = some j) ∨ (∃ j, e = .returned (.bool false) ∧ Went g s w w' j) := by
  have HR := Lib.hid hR
  have c1 := hR.c1
  have f1 := hR.f1
  clear hR
  go_enter Tryd.func65, Tryd.ntmps65
  go_wp2
  clear c1 f1
  go_loopw [] (fun wc => ∃ j : Nat, j ≤ s.size ∧ Hid (Went g s w wc j ∧ st (Kit.nums s) (i + 1) = st (Kit.nums s) j)) (fun wc => s.size - rAt wc g)
  case atStart => exact ⟨i + 1, hi, Lib.hid ⟨(Went.refl HR.out).inc, rfl⟩⟩
  case round =>
    obtain ⟨j, hj, HK⟩ := hrel
    have c0 := HK.out.1.rd.c0
    have c1 := HK.out.1.rd.c1
    have f1 := HK.out.1.rd.f1
    have HM := Lib.hid (rAt_of HK.out.1.rd)
    by_cases h : j < s.size
    · have hgb := gb_at h
      have hl : j < (Kit.nums s).length := by rw [nums_len]; exact h
      obtain ⟨c, hc⟩ : ∃ c, (s[j].toNat : Int) = c := ⟨_, rfl⟩
      rw [hc] at hgb
      by_cases h34 : c = 34
      · have HE : Hid (st (Kit.nums s) (i + 1) = some (j + 1)) := Lib.hid (by rw [HK.out.2, st, dif_pos hl, if_pos (by omega)])
        have a0 : (c == 34) = true := by simpa using h34
        clear h34 hgb
        go_wp2
        repeat (go_quiet (fail); try go_wp2)
        go_ret
        exact .inl ⟨j + 1, rfl, by repeat (first | exact HK.out.1 | apply Went.drewN | apply Went.inc), HE.out⟩
      have a34 : (c == 34) = false := by simpa using h34
      by_cases h32 : c < 32
      · have HW := Lib.hid HK.out.1
        clear hgb h34 HK
        go_wp2
        repeat (go_quiet (fail); try go_wp2)
        go_ret
        exact .inr ⟨j + 1, rfl, by repeat (first | exact HW.out | apply Went.drewN | apply Went.inc)⟩
      by_cases h92 : c = 92
      · subst h92
        have HS : Hid (∀ k, escE (Kit.nums s) (j + 1) = some k → st (Kit.nums s) (i + 1) = st (Kit.nums s) k) := Lib.hid (fun k hk => by rw [HK.out.2]; exact st_esc_no hl hgb hk)
        have HEs : Hid (∀ w1, Rdr w1 g s (j + 1) → Calls Tryd.prog 83 #[.pointer (some ⟨g, 0, none⟩)] w1 fun e w' => (∃ k, e = .returned (.bool true) ∧ Went g s w1 w' k ∧ escE (Kit.nums s) (j + 1) = some k) ∨ (∃ k, e = .returned (.bool false) ∧ Went g s w1 w' k)) := Lib.hid (fun w1 h1 => escape_c h1 h hs)
        have HW := Lib.hid HK.out.1
        clear hgb h34 a34 HK
        go_wp2_with fail
        repeat (go_quiet (fail); try go_wp2_with fail)
        refine (HEs.out _ (by repeat (first | exact HW.out.rd | apply Rdr.inc))).mono ?_
        rintro e1 w1 (⟨k, rfl, hw1, hk⟩ | ⟨k, rfl, hw1⟩)
        · have HW2 : Hid (Went g s w w1 k) := Lib.hid (((Went.inc ((HW.out).drewN _))).trans hw1)
          have HE2 : Hid (st (Kit.nums s) (i + 1) = st (Kit.nums s) k) := Lib.hid (HS.out k hk)
          have hkb := escE_le hk
          rw [nums_len] at hkb
          clear hw1 hk HS HEs
          go_wp2
          go_round
          case rel => exact ⟨k, hkb.2, Lib.hid ⟨HW2.out, HE2.out⟩⟩
          case measure =>
            have := HM.out
            have := rAt_of HW2.out.rd
            omega
        · have HW2 : Hid (Went g s w w1 k) := Lib.hid (((Went.inc ((HW.out).drewN _))).trans hw1)
          clear hw1 HS HEs
          go_wp2
          go_ret
          exact .inr ⟨k, rfl, HW2.out⟩
      · have a92 : (c == 92) = false := by simpa using h92
        have HE2 : Hid (st (Kit.nums s) (i + 1) = st (Kit.nums s) (j + 1)) := Lib.hid (by rw [HK.out.2, st, dif_pos hl, if_neg (by omega), if_neg (by omega), if_neg (by omega)])
        have HW := Lib.hid HK.out.1
        clear hgb h34 h92 HK
        go_wp2
        repeat (go_quiet (fail); try go_wp2)
        go_round
        case rel => exact ⟨j + 1, h, Lib.hid ⟨by repeat (first | exact HW.out | apply Went.drewN | apply Went.inc), HE2.out⟩⟩
        case measure =>
          have := HM.out
          rw [rAt_inc HW.out]
          omega
    · have HW := Lib.hid HK.out.1
      clear HK
      go_wp2
      repeat (go_quiet (fail); try go_wp2)
      go_ret
      exact .inr ⟨j, rfl, by repeat (first | exact HW.out | apply Went.drewN)⟩
set_option maxHeartbeats 16000000 in
set_option maxRecDepth 100000 in
theorem number_c {g i : Nat} {s : ByteArray} {w : World} (hR : Rdr w g s i) (hi : i ≤ s.size) (hs : s.size ≤ 140737488355000) : Calls Tryd.prog 66 #[.pointer (some ⟨g, 0, none⟩)] w fun e w' => (∃ j, e = .returned (.bool true) ∧ Went g s w w' j ∧ numE (Kit.nums s) i = some j) ∨ (∃ j, e = .returned (.bool false) ∧ Went g s w w' j) := by
  have HT : Hid (∀ (c : Int) (w1 : World) (j : Nat), Rdr w1 g s j → Calls Tryd.prog 82 #[.pointer (some ⟨g, 0, none⟩), .int .u8 c] w1 fun e w' => ∃ b k, e = .returned (.bool b) ∧ Went g s w1 w' k ∧ (b = true ∧ at_ (Kit.nums s) j c ∧ k = j + 1 ∨ b = false ∧ ¬ at_ (Kit.nums s) j c ∧ k = j)) := Lib.hid (fun c w1 j h => take_c c h hs)
  have HD : Hid (∀ (w1 : World) (j : Nat), j ≤ s.size → Rdr w1 g s j → Calls Tryd.prog 84 #[.pointer (some ⟨g, 0, none⟩)] w1 fun e w' => e = .returned (.bool (decide (j < dg (Kit.nums s) j))) ∧ Went g s w1 w' (dg (Kit.nums s) j)) := Lib.hid (fun w1 j h1 h2 => digits_c h2 h1 hs)
  obtain ⟨L, hL⟩ : ∃ L, Kit.nums s = L := ⟨_, rfl⟩
  have hlen : L.length = s.size := by rw [← hL, nums_len]
  rw [hL] at HT HD ⊢
  have HB : Hid (∀ j, j ≤ s.size → dg L j ≤ s.size) := Lib.hid (fun j h => by rw [← hlen] at h ⊢; exact (dg_le L j h).2)
  have HA : Hid (∀ j c, at_ L j c → j < s.size) := Lib.hid (fun j c h => by have := h.1; omega)
  clear hL
  go_enter Tryd.func66, Tryd.ntmps66
  go_wp2_with fail
  refine (HT.out 45 _ _ hR).mono ?_
  rintro e1 w1 ⟨b1, j1, rfl, hw1, h1⟩
  have hj1 : j1 = minusE L i ∧ j1 ≤ s.size := by
    unfold minusE
    rcases h1 with ⟨_, h, e⟩ | ⟨_, h, e⟩
    · have := HA.out _ _ h
      rw [if_pos h, e]
      omega
    · rw [if_neg h, e]
      omega
  have HN : Hid (numE L i = if at_ L j1 48 then fracE L (j1 + 1) else if j1 < dg L j1 then fracE L (dg L j1) else none) := Lib.hid (by unfold numE; rw [hj1.1])
  have HW := Lib.hid hw1
  have hj := hj1.2
  clear h1 hw1 hj1 hR
  go_wp2_with fail
  refine (HT.out 48 _ _ HW.out.rd).mono ?_
  rintro e2 w2 ⟨b2, j2, rfl, hw2, (⟨rfl, h2, rfl⟩ | ⟨rfl, h2, rfl⟩)⟩
  rotate_left
  focus
    have HW2 := Lib.hid (HW.out.trans hw2)
    have HN2 : Hid (numE L i = if j2 < dg L j2 then fracE L (dg L j2) else none) := Lib.hid (by rw [HN.out, if_neg h2])
    clear h2 hw2 HW HN
    go_wp2_with fail
    refine (HD.out _ _ hj HW2.out.rd).mono ?_
    rintro e3 w3 ⟨rfl, hw3⟩
    by_cases hd : j2 < dg L j2
    rotate_left
    · rw [decide_eq_false hd]
      have HW3 := Lib.hid (HW2.out.trans hw3)
      clear hw3 HW2 HN2 hd
      go_wp2_with fail
      go_ret
      exact .inr ⟨_, rfl, HW3.out⟩
    rw [decide_eq_true hd]
    have HW3 := Lib.hid (HW2.out.trans hw3)
    have HN3 : Hid (numE L i = fracE L (dg L j2)) := Lib.hid (by rw [HN2.out, if_pos hd])
    have hj3 := HB.out _ hj
    clear hw3 hd HW2 HN2 hj
    generalize dg L j2 = j3 at HW3 HN3 hj3
    go_wp2_with fail
  rotate_left
  focus
    have HW3 := Lib.hid (HW.out.trans hw2)
    have HN3 : Hid (numE L i = fracE L (j1 + 1)) := Lib.hid (by rw [HN.out, if_pos h2])
    have hj3 : j1 + 1 ≤ s.size := HA.out _ _ h2
    clear h2 hw2 HW HN hj
    generalize j1 + 1 = j3 at HW3 HN3 hj3
    go_wp2_with fail
  all_goals
    refine (HT.out 46 _ _ HW3.out.rd).mono ?_
    rintro e4 w4 ⟨b4, j4, rfl, hw4, (⟨rfl, h4, rfl⟩ | ⟨rfl, h4, rfl⟩)⟩
    focus
      have HW4 := Lib.hid (HW3.out.trans hw4)
      have HN4 : Hid (numE L i = if j3 + 1 < dg L (j3 + 1) then expE L (dg L (j3 + 1)) else none) := Lib.hid (by rw [HN3.out]; unfold fracE; rw [if_pos h4])
      have hj4 : j3 + 1 ≤ s.size := HA.out _ _ h4
      clear h4 hw4 HW3 HN3 hj3
      generalize j3 + 1 = j4 at HW4 HN4 hj4
      go_wp2_with fail
      refine (HD.out _ _ hj4 HW4.out.rd).mono ?_
      rintro e5 w5 ⟨rfl, hw5⟩
      by_cases hd : j4 < dg L j4
      rotate_left
      · rw [decide_eq_false hd]
        have HW5 := Lib.hid (HW4.out.trans hw5)
        clear hw5 HW4 HN4 hd
        go_wp2_with fail
        go_ret
        exact .inr ⟨_, rfl, HW5.out⟩
      rw [decide_eq_true hd]
      have HW5 := Lib.hid (HW4.out.trans hw5)
      have HN5 : Hid (numE L i = expE L (dg L j4)) := Lib.hid (by rw [HN4.out, if_pos hd])
      have hj5 := HB.out _ hj4
      clear hw5 hd HW4 HN4 hj4
      generalize dg L j4 = j5 at HW5 HN5 hj5
      go_wp2_with fail
    rotate_left
    focus
      have HW5 := Lib.hid (HW3.out.trans hw4)
      have HN5 : Hid (numE L i = expE L j4) := Lib.hid (by rw [HN3.out]; unfold fracE; rw [if_neg h4])
      clear h4 hw4 HW3 HN3
      generalize j4 = j5 at HW5 HN5 hj3
      have hj5 := hj3
      clear hj3
      go_wp2_with fail
  all_goals
    refine (HT.out 101 _ _ HW5.out.rd).mono ?_
    rintro e6 w6 ⟨b6, j6, rfl, hw6, (⟨rfl, h6, rfl⟩ | ⟨rfl, h6, rfl⟩)⟩
    focus
      have HW6 := Lib.hid (HW5.out.trans hw6)
      have HN6 : Hid (numE L i = if signE L (j5 + 1) < dg L (signE L (j5 + 1)) then some (dg L (signE L (j5 + 1))) else none) := Lib.hid (by rw [HN5.out]; unfold expE; rw [if_pos (.inl h6)])
      have hj6 : j5 + 1 ≤ s.size := HA.out _ _ h6
      clear h6 hw6 HW5 HN5 hj5
      generalize j5 + 1 = j6 at HW6 HN6 hj6
      go_wp2_with fail
    rotate_left
    focus
      have HW6 := Lib.hid (HW5.out.trans hw6)
      clear hw6 HW5
      go_wp2_with fail
      refine (HT.out 69 _ _ HW6.out.rd).mono ?_
      rintro e7 w7 ⟨b7, j7, rfl, hw7, (⟨rfl, h7, rfl⟩ | ⟨rfl, h7, rfl⟩)⟩
      focus
        have HW7 := Lib.hid (HW6.out.trans hw7)
        have HN6 : Hid (numE L i = if signE L (j6 + 1) < dg L (signE L (j6 + 1)) then some (dg L (signE L (j6 + 1))) else none) := Lib.hid (by rw [HN5.out]; unfold expE; rw [if_pos (.inr h7)])
        have hj6 : j6 + 1 ≤ s.size := HA.out _ _ h7
        clear h6 h7 hw7 HN5 hj5 HW6
        have HW6 := HW7
        clear HW7
        generalize j6 + 1 = j6 at HW6 HN6 hj6
        go_wp2_with fail
      rotate_left
      · have HW7 := Lib.hid (HW6.out.trans hw7)
        have HN7 : Hid (numE L i = some j7) := Lib.hid (by rw [HN5.out]; unfold expE; rw [if_neg (fun h => h.elim h6 h7)])
        clear h6 h7 hw7 HN5 hj5 HW6
        go_wp2_with fail
        go_ret
        exact .inl ⟨_, rfl, HW7.out, HN7.out⟩
  all_goals
    refine (HT.out 43 _ _ HW6.out.rd).mono ?_
    rintro e8 w8 ⟨b8, j8, rfl, hw8, (⟨rfl, h8, rfl⟩ | ⟨rfl, h8, rfl⟩)⟩
    focus
      have HW8 := Lib.hid (HW6.out.trans hw8)
      have HE : Hid (signE L j6 = j6 + 1) := Lib.hid (by unfold signE; rw [if_pos (.inl h8)])
      have hj8 : j6 + 1 ≤ s.size := HA.out _ _ h8
      clear h8 hw8 HW6 hj6
      generalize j6 + 1 = j8 at HW8 HE hj8
      go_wp2_with fail
    rotate_left
    focus
      have HW7 := Lib.hid (HW6.out.trans hw8)
      clear hw8 HW6
      go_wp2_with fail
      refine (HT.out 45 _ _ HW7.out.rd).mono ?_
      rintro e9 w9 ⟨b9, j9, rfl, hw9, h9⟩
      have HW8 := Lib.hid (HW7.out.trans hw9)
      have HE : Hid (signE L j8 = j9) := Lib.hid (by
        unfold signE
        rcases h9 with ⟨_, h9, e⟩ | ⟨_, h9, e⟩
        · rw [if_pos (.inr h9), e]
        · rw [if_neg (fun h => h.elim h8 h9), e])
      have hj8 : j9 ≤ s.size := by
        rcases h9 with ⟨_, h9, e⟩ | ⟨_, h9, e⟩
        · rw [e]
          exact HA.out _ _ h9
        · rw [e]
          exact hj6
      clear h8 h9 hw9 hj6 HW7
      go_wp2_with fail
  all_goals
    refine (HD.out _ _ hj8 HW8.out.rd).mono ?_
    rintro ea wa ⟨rfl, hwa⟩
    have HWa := Lib.hid (HW8.out.trans hwa)
    have HNa := HN6.out
    rw [HE.out] at HNa
    clear hwa HW8 HE HN6
    split at HNa
    · rename_i hd
      rw [decide_eq_true hd]
      have HNb := Lib.hid HNa
      clear hd HNa
      go_wp2_with fail
      go_ret
      exact .inl ⟨_, rfl, HWa.out, HNb.out⟩
    · rename_i hd
      rw [decide_eq_false hd]
      clear hd HNa
      go_wp2_with fail
      go_ret
      exact .inr ⟨_, rfl, HWa.out⟩
end Go.Proofs.YtgbliniamkpocaaDoor.Jp
