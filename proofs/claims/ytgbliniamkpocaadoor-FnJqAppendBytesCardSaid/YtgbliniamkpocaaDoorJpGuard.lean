/- The guards of the jsonparser statements, walked by hand: zzFits1, jpIndex, spec.Index, spec.Bracket. -/
import Derived.Test.YtgbliniamkpocaaDoorG9
namespace Go.Proofs.YtgbliniamkpocaaDoor.Jp
open Go.RowKit Go.Proofs.YtgbliniamkpocaaDoorW.PrintWords Go.Proofs.YtgbliniamkpocaaDoor.Kit

def zf (ks : List ByteArray) : Bool := decide (ks.length ≤ 2147483647) && ks.all (fun s => decide (s.size ≤ 2147483647))
set_option maxHeartbeats 4000000 in
set_option maxRecDepth 100000 in
theorem zf_c (K : Option Addr) (ck : Nat) (ks : List ByteArray) (w : World) (hK : KeysR w K ks) : Calls Tryd.prog 12 #[.slice K ks.length ck] w fun e w' => e = .returned (.bool (zf ks)) ∧ w' = w := by
  have hkl : ks.length ≤ 9223372036854775807 := hK.2.1
  by_cases h0 : (2147483647 : Int) < ks.length
  · clear hK
    go_enter Tryd.func12, Tryd.ntmps12
    go_wp2
    go_ret
    exact ⟨congrArg (fun b => Ending.returned (.bool b)) (by unfold zf; rw [decide_eq_false (by omega)]; rfl), rfl⟩
  · have HK := Lib.hid hK
    clear hK
    go_enter Tryd.func12, Tryd.ntmps12
    go_wp2
    go_loop [10] (fun vi => ∃ i : Nat, i ≤ ks.length ∧ vi = .int .i64 i ∧ Hid (∀ j, j < i → (rdOf ByteArray.empty ks (j : Int)).size ≤ 2147483647)) (fun vi => ks.length - (intOf vi).toNat)
    case atStart => exact ⟨0, Nat.zero_le _, rfl, Lib.hid (fun j hj => by omega)⟩
    case round =>
      obtain ⟨i, hi, rfl, HH⟩ := hrel
      by_cases hlt : i < ks.length
      · obtain ⟨kad, rfl, hcell⟩ := HK.out.at_ (i : Int) (by omega) (by omega)
        obtain ⟨s, hs⟩ : ∃ s, rdOf ByteArray.empty ks (i : Int) = s := ⟨_, rfl⟩
        rw [hs, Int.toNat_natCast] at hcell
        by_cases hsz : (2147483647 : Int) < s.size
        · have HS := Lib.hid hs
          clear HH hs
          go_wp2
          go_ret
          refine ⟨congrArg (fun b => Ending.returned (.bool b)) ?_, rfl⟩
          have h3 := HS.out
          simp [rdOf, hlt] at h3
          have h4 : ks.all (fun s => decide (s.size ≤ 2147483647)) = false := by
            rw [List.all_eq_false]
            exact ⟨ks[i], List.getElem_mem hlt, by rw [h3]; simp; omega⟩
          unfold zf
          rw [h4, Bool.and_false]
        · have HN : Hid (∀ j, j < i + 1 → (rdOf ByteArray.empty ks (j : Int)).size ≤ 2147483647) := Lib.hid (fun j hj => by
            by_cases e : j = i
            · subst e
              rw [hs]
              omega
            · exact HH.out j (by omega))
          clear HH hs
          go_wp2
          go_round
          case rel => exact ⟨i + 1, by omega, by go_num, HN⟩
          case measure => simp [intOf]; omega
      · go_wp2
        go_ret
        refine ⟨congrArg (fun b => Ending.returned (.bool b)) ?_, rfl⟩
        have h4 : ks.all (fun s => decide (s.size ≤ 2147483647)) = true := by
          rw [List.all_eq_true]
          intro s hs
          obtain ⟨j, hj, rfl⟩ := List.getElem_of_mem hs
          have := HH.out j (by omega)
          simp [rdOf, hj] at this
          simpa using this
        unfold zf
        rw [h4, decide_eq_true (by omega)]
        rfl
set_option maxHeartbeats 4000000 in
set_option maxRecDepth 100000 in
theorem jpi_c (s : ByteArray) (w : World) : Calls Tryd.prog 18 #[.string s] w fun e w' => e = .returned (.bool (decide (gb (Kit.nums s) 0 = 91))) ∧ w' = w := by
  by_cases h0 : 0 < s.size
  · have e0 : gb (Kit.nums s) 0 = (s[0].toNat : Int) := nums_get s 0 h0
    have hne : s.toList ≠ [] := by
      rw [ByteArray.toList_eq]
      intro h
      have h2 : s.data.toList.length = 0 := by rw [h]; rfl
      have h3 : s.data.toList.length = s.size := by rw [Array.length_toList]; rfl
      omega
    have he : s.toList.isEmpty = false := by rw [List.isEmpty_eq_false_iff]; exact hne
    clear hne
    rw [e0]
    by_cases h : (s[0].toNat : Int) = 91
    · rw [decide_eq_true h]
      have e1 : ((s[0].toNat : Int) == 91) = true := by simpa using h
      clear e0 h
      go_enter Tryd.func18, Tryd.ntmps18
      go_wp2
      go_ret
      exact ⟨congrArg (fun b => Ending.returned (.bool b)) (by first | rfl | (rw [he]; rfl)), rfl⟩
    · rw [decide_eq_false h]
      have e1 : ((s[0].toNat : Int) == 91) = false := by simpa using h
      clear e0 h
      go_enter Tryd.func18, Tryd.ntmps18
      go_wp2
      go_ret
      exact ⟨congrArg (fun b => Ending.returned (.bool b)) (by first | rfl | (rw [he]; rfl)), rfl⟩
  · have e0 : gb (Kit.nums s) 0 = 0 := gb_out (by rw [nums_len]; omega)
    rw [e0]
    have hne : s.toList = [] := by
      rw [ByteArray.toList_eq]
      apply List.eq_nil_of_length_eq_zero
      have h3 : s.data.toList.length = s.size := by rw [Array.length_toList]; rfl
      omega
    have he : s.toList.isEmpty = true := by rw [hne]; rfl
    clear e0 hne
    go_enter Tryd.func18, Tryd.ntmps18
    go_wp2
    go_ret
    exact ⟨congrArg (fun b => Ending.returned (.bool b)) (by first | rfl | (rw [he]; rfl)), rfl⟩
/-- spec.Index: a number in digits, without a needless zero; a great one stays great. -/
def ixF : List Int → Int → Option Int
  | [], n => some n
  | c :: r, n => if c < 48 ∨ 57 < c then none else ixF r (if n < 288230376151711744 then n * 10 + (c - 48) else 4611686018427387904)
def ixR (l : List Int) : Option Int := if l.length = 0 ∨ (1 < l.length ∧ gb l 0 = 48) then none else ixF l 0
def ixP (o : Option Int) : Value := match o with | some n => .tuple #[.int .i64 n, .bool true] | none => .tuple #[.int .i64 0, .bool false]
theorem ixF_drop {s : ByteArray} {i : Nat} (h : i < s.size) (n : Int) : ixF ((Kit.nums s).drop i) n = if (s[i].toNat : Int) < 48 ∨ 57 < (s[i].toNat : Int) then none else ixF ((Kit.nums s).drop (i + 1)) (if n < 288230376151711744 then n * 10 + ((s[i].toNat : Int) - 48) else 4611686018427387904) := by
  have hl : i < (Kit.nums s).length := by rw [nums_len]; exact h
  rw [List.drop_eq_getElem_cons hl]
  have e : (Kit.nums s)[i] = (s[i].toNat : Int) := by
    have := nums_get s i h
    rw [List.getD, List.getElem?_eq_getElem hl] at this
    exact this
  rw [e]
  rfl
theorem size_list {s : ByteArray} : s.data.toList.length = s.size := by rw [Array.length_toList]; rfl
theorem empty_no {s : ByteArray} (h : 0 < s.size) : s.toList.isEmpty = false := by
  rw [List.isEmpty_eq_false_iff, ByteArray.toList_eq]
  intro h2
  have h3 := size_list (s := s)
  rw [h2] at h3
  simp at h3
  omega
theorem empty_yes {s : ByteArray} (h : s.size = 0) : s.toList.isEmpty = true := by
  rw [ByteArray.toList_eq, List.isEmpty_iff]
  exact List.eq_nil_of_length_eq_zero (by rw [size_list]; exact h)
set_option maxHeartbeats 8000000 in
set_option maxRecDepth 100000 in
theorem ixr_c (s : ByteArray) (w : World) (hsz : s.size ≤ 9223372036854775807) : Calls Tryd.prog 45 #[.string s] w fun e w' => e = .returned (ixP (ixR (Kit.nums s))) ∧ w' = w := by
  by_cases h0 : s.size = 0
  · have hr : ixR (Kit.nums s) = none := by unfold ixR; rw [if_pos (.inl (by rw [nums_len]; exact h0))]
    rw [hr]
    have he := empty_yes h0
    clear hr
    go_enter Tryd.func45, Tryd.ntmps45
    go_wp2
    go_ret2
    exact ⟨rfl, rfl⟩
  have hp : 0 < s.size := by omega
  have he := empty_no hp
  have e0 : gb (Kit.nums s) 0 = (s[0].toNat : Int) := nums_get s 0 hp
  by_cases h48 : 1 < s.size ∧ (s[0].toNat : Int) = 48
  · have hr : ixR (Kit.nums s) = none := by unfold ixR; rw [if_pos (.inr ⟨by rw [nums_len]; exact h48.1, by rw [e0]; exact h48.2⟩)]
    rw [hr]
    obtain ⟨g1, g2⟩ := h48
    have g1' : (1 : Int) < s.size := by omega
    have e48 : ((s[0].toNat : Int) == 48) = true := by simpa using g2
    clear hr e0 g2
    go_enter Tryd.func45, Tryd.ntmps45
    go_wp2
    go_ret2
    exact ⟨rfl, rfl⟩
  have hr : ixR (Kit.nums s) = ixF (Kit.nums s) 0 := by
    unfold ixR
    rw [if_neg (by rw [nums_len, e0]; exact fun h => h.elim h0 h48)]
  rw [hr]
  have hcase : (s.size = 1) ∨ (1 < s.size ∧ (s[0].toNat : Int) ≠ 48) := by
    by_cases h1 : 1 < s.size
    · exact .inr ⟨h1, fun h => h48 ⟨h1, h⟩⟩
    · exact .inl (by omega)
  clear hr h48 e0
  obtain ⟨L, hL⟩ : ∃ L, ixF (Kit.nums s) 0 = L := ⟨_, rfl⟩
  rw [hL]
  have HL := Lib.hid hL
  clear hL
  rcases hcase with h1 | ⟨h1, h2⟩
  · have g1' : ¬ (1 : Int) < s.size := by omega
    clear h1
    go_enter Tryd.func45, Tryd.ntmps45
    go_wp2
    go_loop [4, 5] (fun vn vi => ∃ (i : Nat) (n : Int), i ≤ s.size ∧ 0 ≤ n ∧ n ≤ 4611686018427387904 ∧ vn = .int .i64 n ∧ vi = .int .i64 i ∧ Hid (L = ixF ((Kit.nums s).drop i) n)) (fun _ vi => s.size - (intOf vi).toNat)
    case atStart => exact ⟨0, 0, Nat.zero_le _, by omega, by omega, rfl, rfl, Lib.hid HL.out.symm⟩
    case round =>
      obtain ⟨i, n, hi, hn0, hn1, rfl, rfl, HH⟩ := hrel
      by_cases hlt : i < s.size
      · have HX := Lib.hid (HH.out.trans (ixF_drop hlt n))
        obtain ⟨x, hx⟩ : ∃ x, (s[i].toNat : Int) = x := ⟨_, rfl⟩
        by_cases h48 : (s[i].toNat : Int) < 48
        · have HR := Lib.hid (HX.out.trans (if_pos (.inl h48)))
          clear HH HX
          go_wp2
          go_ret2
          exact ⟨congrArg (fun z => Ending.returned (ixP z)) HR.out.symm, rfl⟩
        by_cases h57 : 57 < (s[i].toNat : Int)
        · have HR := Lib.hid (HX.out.trans (if_pos (.inr h57)))
          clear HH HX
          go_wp2
          go_ret2
          exact ⟨congrArg (fun z => Ending.returned (ixP z)) HR.out.symm, rfl⟩
        have HY := Lib.hid (HX.out.trans (if_neg (by omega)))
        by_cases hbig : n < 288230376151711744
        · have hY := HY.out
          rw [if_pos hbig] at hY
          have HZ := Lib.hid hY
          have w1 : IntKind.i64.wrap (n * 10) = n * 10 := by rw [IntKind.wrap_i64]; omega
          have w2 : IntKind.u8.wrap ((s[i].toNat : Int) - 48) = (s[i].toNat : Int) - 48 := by simp only [IntKind.wrap_u8]; omega
          have w3 : IntKind.i64.wrap ((s[i].toNat : Int) - 48) = (s[i].toNat : Int) - 48 := by rw [IntKind.wrap_i64]; omega
          have w4 : IntKind.i64.wrap (n * 10 + ((s[i].toNat : Int) - 48)) = n * 10 + ((s[i].toNat : Int) - 48) := by rw [IntKind.wrap_i64]; omega
          clear HH HX HY hY hx
          go_wp2
          go_round
          case rel => exact ⟨i + 1, n * 10 + ((s[i].toNat : Int) - 48), by omega, by omega, by omega, rfl, by go_num, HZ⟩
          case measure => simp [intOf]; omega
        · have hY := HY.out
          rw [if_neg hbig] at hY
          have HZ := Lib.hid hY
          clear HH HX HY hY hx
          go_wp2
          go_round
          case rel => exact ⟨i + 1, 4611686018427387904, by omega, by omega, by omega, rfl, by go_num, HZ⟩
          case measure => simp [intOf]; omega
      · have HR : Hid (L = some n) := Lib.hid (by
          rw [HH.out, List.drop_eq_nil_of_le (by rw [nums_len]; omega)]
          rfl)
        clear HH
        go_wp2
        go_ret2
        exact ⟨congrArg (fun z => Ending.returned (ixP z)) HR.out.symm, rfl⟩
  · have g1' : (1 : Int) < s.size := by omega
    have e48 : ((s[0].toNat : Int) == 48) = false := by simpa using h2
    clear h2
    go_enter Tryd.func45, Tryd.ntmps45
    go_wp2
    go_loop [4, 5] (fun vn vi => ∃ (i : Nat) (n : Int), i ≤ s.size ∧ 0 ≤ n ∧ n ≤ 4611686018427387904 ∧ vn = .int .i64 n ∧ vi = .int .i64 i ∧ Hid (L = ixF ((Kit.nums s).drop i) n)) (fun _ vi => s.size - (intOf vi).toNat)
    case atStart => exact ⟨0, 0, Nat.zero_le _, by omega, by omega, rfl, rfl, Lib.hid HL.out.symm⟩
    case round =>
      obtain ⟨i, n, hi, hn0, hn1, rfl, rfl, HH⟩ := hrel
      by_cases hlt : i < s.size
      · have HX := Lib.hid (HH.out.trans (ixF_drop hlt n))
        obtain ⟨x, hx⟩ : ∃ x, (s[i].toNat : Int) = x := ⟨_, rfl⟩
        by_cases h48 : (s[i].toNat : Int) < 48
        · have HR := Lib.hid (HX.out.trans (if_pos (.inl h48)))
          clear HH HX
          go_wp2
          go_ret2
          exact ⟨congrArg (fun z => Ending.returned (ixP z)) HR.out.symm, rfl⟩
        by_cases h57 : 57 < (s[i].toNat : Int)
        · have HR := Lib.hid (HX.out.trans (if_pos (.inr h57)))
          clear HH HX
          go_wp2
          go_ret2
          exact ⟨congrArg (fun z => Ending.returned (ixP z)) HR.out.symm, rfl⟩
        have HY := Lib.hid (HX.out.trans (if_neg (by omega)))
        by_cases hbig : n < 288230376151711744
        · have hY := HY.out
          rw [if_pos hbig] at hY
          have HZ := Lib.hid hY
          have w1 : IntKind.i64.wrap (n * 10) = n * 10 := by rw [IntKind.wrap_i64]; omega
          have w2 : IntKind.u8.wrap ((s[i].toNat : Int) - 48) = (s[i].toNat : Int) - 48 := by simp only [IntKind.wrap_u8]; omega
          have w3 : IntKind.i64.wrap ((s[i].toNat : Int) - 48) = (s[i].toNat : Int) - 48 := by rw [IntKind.wrap_i64]; omega
          have w4 : IntKind.i64.wrap (n * 10 + ((s[i].toNat : Int) - 48)) = n * 10 + ((s[i].toNat : Int) - 48) := by rw [IntKind.wrap_i64]; omega
          clear HH HX HY hY hx
          go_wp2
          go_round
          case rel => exact ⟨i + 1, n * 10 + ((s[i].toNat : Int) - 48), by omega, by omega, by omega, rfl, by go_num, HZ⟩
          case measure => simp [intOf]; omega
        · have hY := HY.out
          rw [if_neg hbig] at hY
          have HZ := Lib.hid hY
          clear HH HX HY hY hx
          go_wp2
          go_round
          case rel => exact ⟨i + 1, 4611686018427387904, by omega, by omega, by omega, rfl, by go_num, HZ⟩
          case measure => simp [intOf]; omega
      · have HR : Hid (L = some n) := Lib.hid (by
          rw [HH.out, List.drop_eq_nil_of_le (by rw [nums_len]; omega)]
          rfl)
        clear HH
        go_wp2
        go_ret2
        exact ⟨congrArg (fun z => Ending.returned (ixP z)) HR.out.symm, rfl⟩
/-- spec.Bracket. -/
def brkR (s : ByteArray) : Option Int :=
  if 3 ≤ s.size ∧ gb (Kit.nums s) 0 = 91 ∧ gb (Kit.nums s) (s.size - 1) = 93 then ixR (Kit.nums (s.extract 1 (s.size - 1))) else none
set_option maxHeartbeats 8000000 in
set_option maxRecDepth 100000 in
theorem brk_c (s : ByteArray) (w : World) (hsz : s.size ≤ 9223372036854775807) : Calls Tryd.prog 30 #[.string s] w fun e w' => e = .returned (ixP (brkR s)) ∧ w' = w := by
  by_cases h3 : s.size < 3
  · have hr : brkR s = none := by unfold brkR; rw [if_neg (fun h => by have := h.1; omega)]
    rw [hr]
    have h3' : (s.size : Int) < 3 := by omega
    clear hr
    go_enter Tryd.func30, Tryd.ntmps30
    go_wp2
    go_ret2
    exact ⟨rfl, rfl⟩
  have h3' : ¬ (s.size : Int) < 3 := by omega
  have hp : 0 < s.size := by omega
  have hp1 : s.size - 1 < s.size := by omega
  have e0 : gb (Kit.nums s) 0 = (s[0].toNat : Int) := nums_get s 0 hp
  have e1 : gb (Kit.nums s) (s.size - 1) = (s[s.size - 1].toNat : Int) := nums_get s _ hp1
  have hext : (s.extract 1 (s.size - 1)).size ≤ 9223372036854775807 := by simp; omega
  have HI := Lib.hid (ixr_c (s.extract 1 (s.size - 1)) w hext)
  by_cases h91 : (s[0].toNat : Int) = 91
  · by_cases h93 : (s[s.size - 1].toNat : Int) = 93
    · have hr : brkR s = ixR (Kit.nums (s.extract 1 (s.size - 1))) := by unfold brkR; rw [if_pos ⟨by omega, by rw [e0]; exact h91, by rw [e1]; exact h93⟩]
      rw [hr]
      have a1 : ((s[0].toNat : Int) != 91) = false := by simp [h91]
      have a2 : ((s[s.size - 1].toNat : Int) != 93) = false := by simp [h93]
      clear hr e0 e1 h91 h93 hext
      cases hi : ixR (Kit.nums (s.extract 1 (s.size - 1))) with
      | none =>
        have H2 : Hid (Calls Tryd.prog 45 #[.string (s.extract 1 (s.size - 1))] w fun e w' => e = .returned (.tuple #[.int .i64 0, .bool false]) ∧ w' = w) := Lib.hid (by have := HI.out; rw [hi] at this; exact this)
        clear HI hi
        go_enter Tryd.func30, Tryd.ntmps30
        go_wp2_with (go_at_call 45; (with_reducible refine H2.out.mono ?_); rintro ea wa ⟨rfl, rfl⟩)
        go_ret2
        exact ⟨rfl, rfl⟩
      | some m =>
        have H2 : Hid (Calls Tryd.prog 45 #[.string (s.extract 1 (s.size - 1))] w fun e w' => e = .returned (.tuple #[.int .i64 m, .bool true]) ∧ w' = w) := Lib.hid (by have := HI.out; rw [hi] at this; exact this)
        clear HI hi
        go_enter Tryd.func30, Tryd.ntmps30
        go_wp2_with (go_at_call 45; (with_reducible refine H2.out.mono ?_); rintro ea wa ⟨rfl, rfl⟩)
        go_ret2
        exact ⟨rfl, rfl⟩
    · have hr : brkR s = none := by unfold brkR; rw [if_neg (fun h => h93 (by rw [← e1]; exact h.2.2))]
      rw [hr]
      have a1 : ((s[0].toNat : Int) != 91) = false := by simp [h91]
      have a2 : ((s[s.size - 1].toNat : Int) != 93) = true := by simpa using h93
      clear hr e0 e1 h91 h93 HI hext
      go_enter Tryd.func30, Tryd.ntmps30
      go_wp2
      go_ret2
      exact ⟨rfl, rfl⟩
  · have hr : brkR s = none := by unfold brkR; rw [if_neg (fun h => h91 (by rw [← e0]; exact h.2.1))]
    rw [hr]
    have a1 : ((s[0].toNat : Int) != 91) = true := by simpa using h91
    clear hr e0 e1 h91 HI hext
    go_enter Tryd.func30, Tryd.ntmps30
    go_wp2
    go_ret2
    exact ⟨rfl, rfl⟩
end Go.Proofs.YtgbliniamkpocaaDoor.Jp
