/- Texts of this claim, laid together. -/
import Derived.Test.YtgbliniamkpocaaDoorJpGuard
import Derived.Test.YtgbliniamkpocaaDoorG0
import Derived.Test.YtgbliniamkpocaaDoorG2
/- The reference's reader of strings, walked by hand: hexDigit, short, high, low, unit. -/
namespace Go.Proofs.YtgbliniamkpocaaDoor.Jp
open Go.RowKit Go.Proofs.YtgbliniamkpocaaDoorW.PrintWords Go.Proofs.YtgbliniamkpocaaDoor.Kit

set_option maxHeartbeats 4000000 in
set_option maxRecDepth 100000 in
theorem hex_c (c : Int) (w : World) : Calls Tryd.prog 69 #[.int .u8 c] w fun e w' => e = .returned (.tuple #[.int .i64 (if hx c = -1 then 0 else hx c), .bool (decide (hx c ≠ -1))]) ∧ w' = w := by
  by_cases h1 : 48 ≤ c ∧ c ≤ 57
  · have e : hx c = c - 48 := by unfold hx; rw [if_pos h1]
    rw [e]
    obtain ⟨h2, h3⟩ := h1
    rw [if_neg (by omega), decide_eq_true (show c - 48 ≠ -1 by omega)]
    have hw : IntKind.u8.wrap (c - 48) = c - 48 := by simp only [IntKind.wrap_u8]; omega
    have hw2 : IntKind.i64.wrap (c - 48) = c - 48 := by rw [IntKind.wrap_i64]; omega
    clear e
    go_enter Tryd.func69, Tryd.ntmps69
    go_wp2
    go_ret2
    exact ⟨rfl, rfl⟩
  by_cases h2 : 65 ≤ c ∧ c ≤ 70
  · have e : hx c = c - 65 + 10 := by unfold hx; rw [if_neg h1, if_pos h2]; omega
    rw [e]
    obtain ⟨h3, h4⟩ := h2
    rw [if_neg (by omega), decide_eq_true (show c - 65 + 10 ≠ -1 by omega)]
    have h97 : ¬ (97 : Int) ≤ c := by omega
    have hw : IntKind.u8.wrap (c - 65) = c - 65 := by simp only [IntKind.wrap_u8]; omega
    have hw2 : IntKind.i64.wrap (c - 65) = c - 65 := by rw [IntKind.wrap_i64]; omega
    have hw3 : IntKind.i64.wrap (c - 65 + 10) = c - 65 + 10 := by rw [IntKind.wrap_i64]; omega
    have h57 : ¬ c ≤ (57 : Int) := by omega
    have h48 : (48 : Int) ≤ c := by omega
    clear e h1
    go_enter Tryd.func69, Tryd.ntmps69
    go_wp2
    go_ret2
    exact ⟨rfl, rfl⟩
  by_cases h3 : 97 ≤ c ∧ c ≤ 102
  · have e : hx c = c - 97 + 10 := by unfold hx; rw [if_neg h1, if_neg h2, if_pos h3]; omega
    rw [e]
    obtain ⟨h4, h5⟩ := h3
    rw [if_neg (by omega), decide_eq_true (show c - 97 + 10 ≠ -1 by omega)]
    have hw : IntKind.u8.wrap (c - 97) = c - 97 := by simp only [IntKind.wrap_u8]; omega
    have hw2 : IntKind.i64.wrap (c - 97) = c - 97 := by rw [IntKind.wrap_i64]; omega
    have hw3 : IntKind.i64.wrap (c - 97 + 10) = c - 97 + 10 := by rw [IntKind.wrap_i64]; omega
    have h57 : ¬ c ≤ (57 : Int) := by omega
    have h48 : (48 : Int) ≤ c := by omega
    clear e h1 h2
    go_enter Tryd.func69, Tryd.ntmps69
    go_wp2
    go_ret2
    exact ⟨rfl, rfl⟩
  · have e : hx c = -1 := by unfold hx; rw [if_neg h1, if_neg h2, if_neg h3]
    rw [e, if_pos rfl]
    clear e
    by_cases a1 : 48 ≤ c <;> by_cases a2 : c ≤ 57 <;> by_cases a3 : 65 ≤ c <;> by_cases a4 : c ≤ 70 <;> by_cases a5 : 97 ≤ c <;> by_cases a6 : c ≤ 102
    all_goals first
      | omega
      | (clear h1 h2 h3; go_enter Tryd.func69, Tryd.ntmps69; go_wp2; go_ret2; exact ⟨rfl, rfl⟩)
set_option maxHeartbeats 4000000 in
set_option maxRecDepth 100000 in
theorem sh_c (c : Int) (w : World) : Calls Tryd.prog 51 #[.int .u8 c] w fun e w' => e = .returned (.int .u8 (sh c)) ∧ w' = w := by
  have HS : Hid (sh c = sh c) := Lib.hid rfl
  by_cases h1 : c = 98
  · subst h1; clear HS; go_enter Tryd.func51, Tryd.ntmps51; go_wp2; go_ret; exact ⟨rfl, rfl⟩
  by_cases h2 : c = 102
  · subst h2; clear HS; go_enter Tryd.func51, Tryd.ntmps51; go_wp2; go_ret; exact ⟨rfl, rfl⟩
  by_cases h3 : c = 110
  · subst h3; clear HS; go_enter Tryd.func51, Tryd.ntmps51; go_wp2; go_ret; exact ⟨rfl, rfl⟩
  by_cases h4 : c = 114
  · subst h4; clear HS; go_enter Tryd.func51, Tryd.ntmps51; go_wp2; go_ret; exact ⟨rfl, rfl⟩
  by_cases h5 : c = 116
  · subst h5; clear HS; go_enter Tryd.func51, Tryd.ntmps51; go_wp2; go_ret; exact ⟨rfl, rfl⟩
  have e : sh c = c := by unfold sh; rw [if_neg h1, if_neg h2, if_neg h3, if_neg h4, if_neg h5]
  rw [e]
  have g1 : (c == 98) = false := by simpa using h1
  have g2 : (c == 102) = false := by simpa using h2
  have g3 : (c == 110) = false := by simpa using h3
  have g4 : (c == 114) = false := by simpa using h4
  have g5 : (c == 116) = false := by simpa using h5
  clear e HS h1 h2 h3 h4 h5
  go_enter Tryd.func51, Tryd.ntmps51
  go_wp2
  go_ret
  exact ⟨rfl, rfl⟩
set_option maxHeartbeats 4000000 in
theorem high_c (n : Int) (w : World) : Calls Tryd.prog 52 #[.int .i64 n] w fun e w' => e = .returned (.bool (decide (55296 ≤ n ∧ n ≤ 56319))) ∧ w' = w := by
  by_cases h1 : 55296 ≤ n
  · by_cases h2 : n ≤ 56319
    · rw [decide_eq_true (⟨h1, h2⟩ : 55296 ≤ n ∧ n ≤ 56319)]; go_enter Tryd.func52, Tryd.ntmps52; go_wp2; go_ret; exact ⟨rfl, rfl⟩
    · rw [decide_eq_false (fun h => h2 h.2)]; go_enter Tryd.func52, Tryd.ntmps52; go_wp2; go_ret; exact ⟨rfl, rfl⟩
  · rw [decide_eq_false (fun h => h1 h.1)]; go_enter Tryd.func52, Tryd.ntmps52; go_wp2; go_ret; exact ⟨rfl, rfl⟩
set_option maxHeartbeats 4000000 in
theorem low_c (n : Int) (w : World) : Calls Tryd.prog 53 #[.int .i64 n] w fun e w' => e = .returned (.bool (decide (56320 ≤ n ∧ n ≤ 57343))) ∧ w' = w := by
  by_cases h1 : 56320 ≤ n
  · by_cases h2 : n ≤ 57343
    · rw [decide_eq_true (⟨h1, h2⟩ : 56320 ≤ n ∧ n ≤ 57343)]; go_enter Tryd.func53, Tryd.ntmps53; go_wp2; go_ret; exact ⟨rfl, rfl⟩
    · rw [decide_eq_false (fun h => h2 h.2)]; go_enter Tryd.func53, Tryd.ntmps53; go_wp2; go_ret; exact ⟨rfl, rfl⟩
  · rw [decide_eq_false (fun h => h1 h.1)]; go_enter Tryd.func53, Tryd.ntmps53; go_wp2; go_ret; exact ⟨rfl, rfl⟩
def uV (L : List Int) (i : Nat) : Nat → Int
  | 0 => 0
  | j + 1 => uV L i j * 16 + hx (gb L (i + 2 + j))
def uni (L : List Int) (i : Nat) : Int × Bool :=
  if i + 6 ≤ L.length ∧ gb L i = 92 ∧ gb L (i + 1) = 117 ∧ (sg (L.drop i)).2 = true then ((sg (L.drop i)).1, true) else (0, false)
theorem drop_gb {L : List Int} {i k : Nat} : (L.drop i).getD k 0 = gb L (i + k) := by
  unfold gb
  simp [List.getD, List.getElem?_drop]
theorem sg_of {L : List Int} {i : Nat} (h : i + 6 ≤ L.length) : sg (L.drop i) = if hx (gb L (i + 2)) = -1 ∨ hx (gb L (i + 3)) = -1 ∨ hx (gb L (i + 4)) = -1 ∨ hx (gb L (i + 5)) = -1 then (65533, false) else (uV L i 4, true) := by
  unfold sg
  simp only [drop_gb, uV]
  rw [if_neg (by rw [List.length_drop]; omega)]
  split
  · rfl
  · congr 1
    simp only [Nat.add_zero, show i + 2 + 1 = i + 3 from rfl, show i + 2 + 2 = i + 4 from rfl, show i + 2 + 3 = i + 5 from rfl]
    omega
set_option maxHeartbeats 8000000 in
set_option maxRecDepth 100000 in
theorem unit_c (s : ByteArray) (i : Nat) (w : World) (hi : i ≤ s.size) (hsz : s.size ≤ 4611686018427387904) : Calls Tryd.prog 50 #[.string s, .int .i64 i] w fun e w' => e = .returned (.tuple #[.int .i64 (uni (Kit.nums s) i).1, .bool (uni (Kit.nums s) i).2]) ∧ Drawn0 w w' := by
  have wd : IntKind.i64.wrap ((s.size : Int) - i) = (s.size : Int) - i := by rw [IntKind.wrap_i64]; omega
  obtain ⟨L, hL⟩ : ∃ L, Kit.nums s = L := ⟨_, rfl⟩
  rw [hL]
  have hlen : L.length = s.size := by rw [← hL, nums_len]
  by_cases h6 : s.size - i < 6
  · have e : uni L i = (0, false) := by unfold uni; rw [if_neg (fun h => by have := h.1; omega)]
    rw [e]
    have h6' : (s.size : Int) - i < 6 := by omega
    clear e hL
    go_enter Tryd.func50, Tryd.ntmps50
    go_wp2
    go_ret2
    exact ⟨rfl, Drawn0.refl _⟩
  have h6' : ¬ (s.size : Int) - i < 6 := by omega
  have hi0 : i < s.size := by omega
  have hi1 : i + 1 < s.size := by omega
  have e0 : gb L i = (s[i].toNat : Int) := by rw [← hL]; exact nums_get s i hi0
  have e1 : gb L (i + 1) = (s[i + 1].toNat : Int) := by rw [← hL]; exact nums_get s (i + 1) hi1
  by_cases h92 : (s[i].toNat : Int) = 92
  · by_cases h117 : (s[i + 1].toNat : Int) = 117
    · have a0 : ((s[i].toNat : Int) != 92) = false := by simp [h92]
      have a1 : ((s[i + 1].toNat : Int) != 117) = false := by simp [h117]
      obtain ⟨k0, hk0⟩ : ∃ k0, k0 = i + 2 := ⟨_, rfl⟩
      obtain ⟨k6, hk6⟩ : ∃ k6, k6 = i + 6 := ⟨_, rfl⟩
      have w2 : IntKind.i64.wrap ((i : Int) + 2) = (k0 : Int) := by rw [IntKind.wrap_i64]; omega
      have w6 : IntKind.i64.wrap ((i : Int) + 6) = (k6 : Int) := by rw [IntKind.wrap_i64]; omega
      have HA := Lib.hid (And.intro hL (And.intro e0 (And.intro e1 (And.intro h92 (And.intro h117 (And.intro hk0 hk6))))))
      clear e0 e1 h92 h117 hL hk0 hk6
      go_enter Tryd.func50, Tryd.ntmps50
      go_wp2
      go_loopw [6, 7] (fun vn vk wc => ∃ (j k : Nat) (n : Int), vn = .int .i64 n ∧ vk = .int .i64 k ∧ Hid (j ≤ 4 ∧ k = i + 2 + j ∧ n = uV L i j ∧ (∀ m, m < j → hx (gb L (i + 2 + m)) ≠ -1) ∧ 0 ≤ n ∧ (j = 0 → n = 0) ∧ (j = 1 → n ≤ 15) ∧ (j = 2 → n ≤ 255) ∧ (j = 3 → n ≤ 4095) ∧ (j = 4 → n ≤ 65535)) ∧ Drawn0 w wc) (fun _ vk _ => i + 6 - (intOf vk).toNat)
      case atStart => exact ⟨0, k0, 0, rfl, rfl, Lib.hid ⟨by omega, by have := HA.out; omega, rfl, fun m hm => by omega, by omega, by omega⟩, Drawn0.refl _⟩
      case round =>
        obtain ⟨j, k, n, rfl, rfl, HR, hd⟩ := hrel
        have HD := Lib.hid hd
        clear hd
        have hkk : k6 = i + 6 := HA.out.2.2.2.2.2.2
        have hk2 : k = i + 2 + j := HR.out.2.1
        have hn0 : 0 ≤ n := HR.out.2.2.2.2.1
        have hn1 : j < 4 → n ≤ 4095 := fun h => by have := HR.out.2.2.2.2.2; omega
        by_cases hk : k < k6
        · have hks : k < s.size := by omega
          have hg : gb L k = (s[k].toNat : Int) := by rw [← HA.out.1]; exact nums_get s k hks
          have hn2 := hn1 (by omega)
          have hxr := hx_range (s[k].toNat : Int)
          by_cases hh : hx (s[k].toNat : Int) = -1
          · have H2 : Hid (∀ w : World, Calls Tryd.prog 69 #[.int .u8 (s[k].toNat : Int)] w fun e w' => e = .returned (.tuple #[.int .i64 0, .bool false]) ∧ w' = w) := Lib.hid (fun w => by have := hex_c (s[k].toNat : Int) w; rw [hh] at this; exact this)
            have e : Hid (uni L i = (0, false)) := Lib.hid (by
              unfold uni
              rw [if_neg]
              intro h
              have h2 := h.2.2.2
              rw [sg_of h.1, if_pos (by
                rw [← hg, hk2] at hh
                have hj : j = 0 ∨ j = 1 ∨ j = 2 ∨ j = 3 := by omega
                rcases hj with rfl | rfl | rfl | rfl
                · exact .inl hh
                · exact .inr (.inl hh)
                · exact .inr (.inr (.inl hh))
                · exact .inr (.inr (.inr hh)))] at h2
              cases h2)
            clear hg hh hxr hn2 hn1 hn0 hk2 hkk
            go_wp2_with (go_at_call 69; (with_reducible refine (H2.out _).mono ?_); rintro e1 w1 ⟨rfl, rfl⟩)
            go_ret2
            exact ⟨by rw [e.out]; rfl, HD.out⟩
          · have H2 : Hid (∀ w : World, Calls Tryd.prog 69 #[.int .u8 (s[k].toNat : Int)] w fun e w' => e = .returned (.tuple #[.int .i64 (hx (s[k].toNat : Int)), .bool true]) ∧ w' = w) := Lib.hid (fun w => by have := hex_c (s[k].toNat : Int) w; rw [if_neg hh, decide_eq_true hh] at this; exact this)
            have HN : Hid (∀ m, m < j + 1 → hx (gb L (i + 2 + m)) ≠ -1) := Lib.hid (fun m hm => by
              by_cases e : m = j
              · subst e
                rw [← hk2, hg]
                exact hh
              · exact HR.out.2.2.2.1 m (by omega))
            have HV : Hid (n * 16 + hx (s[k].toNat : Int) = uV L i (j + 1)) := Lib.hid (by rw [uV, ← HR.out.2.2.1, ← hk2, hg])
            obtain ⟨x, hx'⟩ : ∃ x, hx (s[k].toNat : Int) = x := ⟨_, rfl⟩
            rw [hx'] at H2 HV hxr hh
            have v1 : IntKind.i64.wrap (n * 16) = n * 16 := by rw [IntKind.wrap_i64]; omega
            have v2 : IntKind.i64.wrap (n * 16 + x) = n * 16 + x := by rw [IntKind.wrap_i64]; omega
            have HB : Hid (0 ≤ n * 16 + x ∧ (j + 1 = 0 → n * 16 + x = 0) ∧ (j + 1 = 1 → n * 16 + x ≤ 15) ∧ (j + 1 = 2 → n * 16 + x ≤ 255) ∧ (j + 1 = 3 → n * 16 + x ≤ 4095) ∧ (j + 1 = 4 → n * 16 + x ≤ 65535)) := Lib.hid (by have := HR.out.2.2.2.2.2; omega)
            have hj4 : Hid (j + 1 ≤ 4 ∧ k + 1 = i + 2 + (j + 1)) := Lib.hid (by omega)
            clear hg hh hxr hn2 hn1 hn0 hk2 hkk hx'
            go_wp2_with (go_at_call 69; (with_reducible refine (H2.out _).mono ?_); rintro e1 w1 ⟨rfl, rfl⟩)
            go_round
            case rel => exact ⟨j + 1, k + 1, n * 16 + x, rfl, by go_num, Lib.hid ⟨hj4.out.1, hj4.out.2, HV.out, HN.out, HB.out⟩, HD.out⟩
            case measure => have := hj4.out; simp [intOf]; omega
        · have hj : j = 4 := by have := HR.out.1; omega
          have e : Hid (uni L i = (n, true)) := Lib.hid (by
            have hA := HR.out.2.2.2.1
            have a2 := hA 0 (by omega)
            have a3 := hA 1 (by omega)
            have a4 := hA 2 (by omega)
            have a5 := hA 3 (by omega)
            have hs : sg (L.drop i) = (uV L i 4, true) := by
              rw [sg_of (by omega), if_neg]
              rintro (h | h | h | h)
              · exact a2 h
              · exact a3 h
              · exact a4 h
              · exact a5 h
            unfold uni
            rw [if_pos ⟨by omega, by rw [HA.out.2.1]; exact HA.out.2.2.2.1, by rw [HA.out.2.2.1]; exact HA.out.2.2.2.2.1, by rw [hs]⟩, hs, HR.out.2.2.1, hj])
          clear hn1 hn0 hk2 hkk
          go_wp2
          go_ret2
          exact ⟨by rw [e.out]; rfl, HD.out⟩
    · have e : uni L i = (0, false) := by unfold uni; rw [if_neg (fun h => h117 (by rw [← e1]; exact h.2.2.1))]
      rw [e]
      have a0 : ((s[i].toNat : Int) != 92) = false := by simp [h92]
      have a1 : ((s[i + 1].toNat : Int) != 117) = true := by simpa using h117
      clear e0 e1 h92 h117 e hL
      go_enter Tryd.func50, Tryd.ntmps50
      go_wp2
      go_ret2
      exact ⟨rfl, Drawn0.refl _⟩
  · have e : uni L i = (0, false) := by unfold uni; rw [if_neg (fun h => h92 (by rw [← e0]; exact h.2.1))]
    rw [e]
    have a0 : ((s[i].toNat : Int) != 92) = true := by simpa using h92
    clear e0 e1 h92 e hL
    go_enter Tryd.func50, Tryd.ntmps50
    go_wp2
    go_ret2
    exact ⟨rfl, Drawn0.refl _⟩
end Go.Proofs.YtgbliniamkpocaaDoor.Jp
/- A reader of JSON texts in plain words: values, members, elements. -/
namespace Go.Proofs.YtgbliniamkpocaaDoor.Pure
open Go.RowKit Go.Proofs.YtgbliniamkpocaaDoor.PPl Go.Proofs.YtgbliniamkpocaaDoor.Jp
/-! ### A value, the members of an object, the elements of an array -/
mutual
/-- The value that begins at i, and where it ends. -/
def val (L : List Int) : Nat → Nat → Option (S35 × Nat)
  | 0, _ => none
  | n + 1, i =>
    if at_ L i 123 then (mem0 L n i).map fun r => (⟨6, (i : Int), (r.2.2 : Int), r.1, r.2.1⟩, r.2.2)
    else if at_ L i 91 then (elt0 L n i).map fun r => (⟨5, (i : Int), (r.2 : Int), [], r.1⟩, r.2)
    else if at_ L i 34 then (st L (i + 1)).map fun (j : Nat) => (⟨4, (i : Int), (j : Int), [], []⟩, j)
    else if at_ L i 45 ∨ isDig (gb L i) then (numE L i).map fun (j : Nat) => (⟨3, (i : Int), (j : Int), [], []⟩, j)
    else if wordE L i [110, 117, 108, 108] then some (⟨0, (i : Int), ((i + 4 : Nat) : Int), [], []⟩, i + 4)
    else if wordE L i [102, 97, 108, 115, 101] then some (⟨1, (i : Int), ((i + 5 : Nat) : Int), [], []⟩, i + 5)
    else if wordE L i [116, 114, 117, 101] then some (⟨2, (i : Int), ((i + 4 : Nat) : Int), [], []⟩, i + 4)
    else none
/-- Behind the bracket that opens an object. -/
def mem0 (L : List Int) : Nat → Nat → Option (List S72 × List S35 × Nat)
  | 0, _ => none
  | n + 1, i => if at_ L (bl L (i + 1)) 125 then some ([], [], bl L (i + 1) + 1) else mems L n (bl L (i + 1)) [] []
def mems (L : List Int) : Nat → Nat → List S72 → List S35 → Option (List S72 × List S35 × Nat)
  | 0, _, _, _ => none
  | n + 1, i, ns, ks =>
    if at_ L i 34 then
      match st L (i + 1) with
      | none => none
      | some j =>
        if at_ L (bl L j) 58 then
          match val L n (bl L (bl L j + 1)) with
          | none => none
          | some (p, e) =>
            if at_ L (bl L e) 125 then some (ns ++ [⟨(i : Int), (j : Int)⟩], ks ++ [p], bl L e + 1)
            else if at_ L (bl L e) 44 then mems L n (bl L (bl L e + 1)) (ns ++ [⟨(i : Int), (j : Int)⟩]) (ks ++ [p])
            else none
        else none
    else none
/-- Behind the bracket that opens an array. -/
def elt0 (L : List Int) : Nat → Nat → Option (List S35 × Nat)
  | 0, _ => none
  | n + 1, i => if at_ L (bl L (i + 1)) 93 then some ([], bl L (i + 1) + 1) else elts L n (bl L (i + 1)) []
def elts (L : List Int) : Nat → Nat → List S35 → Option (List S35 × Nat)
  | 0, _, _ => none
  | n + 1, i, ks =>
    match val L n i with
    | none => none
    | some (p, e) =>
      if at_ L (bl L e) 93 then some (ks ++ [p], bl L e + 1)
      else if at_ L (bl L e) 44 then elts L n (bl L (bl L e + 1)) (ks ++ [p])
      else none
end
/-- The value of a whole text. -/
def places (L : List Int) : Option S35 :=
  match val L (3 * L.length + 3) (bl L 0) with
  | none => none
  | some (p, e) => if bl L e = L.length then some p else none

/-! ### Where the parts end -/
theorem bl_le (L : List Int) (i : Nat) (h : i ≤ L.length) : i ≤ bl L i ∧ bl L i ≤ L.length := by
  induction hd : L.length - i generalizing i with
  | zero =>
    rw [bl]
    split
    · rename_i h1
      have := blank_in h1
      omega
    · omega
  | succ d ih =>
    rw [bl]
    split
    · rename_i h1
      have := blank_in h1
      have := ih (i + 1) (by omega) (by omega)
      omega
    · omega
theorem dg_le (L : List Int) (i : Nat) (h : i ≤ L.length) : i ≤ dg L i ∧ dg L i ≤ L.length := by
  induction hd : L.length - i generalizing i with
  | zero =>
    rw [dg]
    split
    · rename_i h1
      have := dig_in h1
      omega
    · omega
  | succ d ih =>
    rw [dg]
    split
    · rename_i h1
      have := dig_in h1
      have := ih (i + 1) (by omega) (by omega)
      omega
    · omega
theorem st_le (L : List Int) : ∀ (d i j : Nat), L.length - i ≤ d → st L i = some j → i < j ∧ j ≤ L.length := by
  intro d
  induction d with
  | zero =>
    intro i j hd h
    rw [st, dif_neg (by omega)] at h
    cases h
  | succ d ih =>
    intro i j hd h
    rw [st] at h
    split at h
    · split at h
      · injection h with h
        omega
      · split at h
        · cases h
        · split at h
          · split at h
            · cases h
            · rename_i k hk
              have := escE_le hk
              have := ih k j (by omega) h
              omega
          · have := ih (i + 1) j (by omega) h
            omega
    · cases h
theorem signE_le {L : List Int} {i : Nat} (h : i ≤ L.length) : i ≤ signE L i ∧ signE L i ≤ L.length := by
  unfold signE
  by_cases h1 : at_ L i 43 ∨ at_ L i 45
  · rw [if_pos h1]
    unfold at_ at h1
    omega
  · rw [if_neg h1]
    omega
theorem minusE_le {L : List Int} {i : Nat} (h : i ≤ L.length) : i ≤ minusE L i ∧ minusE L i ≤ L.length := by
  unfold minusE
  by_cases h1 : at_ L i 45
  · rw [if_pos h1]
    unfold at_ at h1
    omega
  · rw [if_neg h1]
    omega
theorem expE_le {L : List Int} {i j : Nat} (hi : i ≤ L.length) (h : expE L i = some j) : i ≤ j ∧ j ≤ L.length := by
  unfold expE at h
  split at h
  · rename_i h1
    unfold at_ at h1
    have h2 := signE_le (L := L) (i := i + 1) (by omega)
    have h3 := dg_le L (signE L (i + 1)) h2.2
    split at h
    · injection h with h
      omega
    · cases h
  · injection h with h
    omega
theorem fracE_le {L : List Int} {i j : Nat} (hi : i ≤ L.length) (h : fracE L i = some j) : i ≤ j ∧ j ≤ L.length := by
  unfold fracE at h
  split at h
  · rename_i h1
    unfold at_ at h1
    split at h
    · have h3 := dg_le L (i + 1) (by omega)
      have := expE_le h3.2 h
      omega
    · cases h
  · exact expE_le hi h
theorem numE_le {L : List Int} {i j : Nat} (hi : i ≤ L.length) (h : numE L i = some j) : i < j ∧ j ≤ L.length := by
  unfold numE at h
  have h0 := minusE_le hi
  split at h
  · rename_i h1
    unfold at_ at h1
    have := fracE_le (by omega) h
    omega
  · split at h
    · have h3 := dg_le L (minusE L i) h0.2
      have := fracE_le h3.2 h
      omega
    · cases h
theorem wordE_le {L w : List Int} {i : Nat} (h : wordE L i w) (hi : i ≤ L.length) : i + w.length ≤ L.length := by
  have := congrArg List.length h
  rw [List.length_take, List.length_drop] at this
  omega
/-- More rounds change nothing. -/
theorem v_mono {L : List Int} : ∀ n : Nat,
    (∀ i r, val L n i = some r → val L (n + 1) i = some r) ∧ (∀ i r, mem0 L n i = some r → mem0 L (n + 1) i = some r) ∧ (∀ i ns ks r, mems L n i ns ks = some r → mems L (n + 1) i ns ks = some r) ∧
    (∀ i r, elt0 L n i = some r → elt0 L (n + 1) i = some r) ∧ (∀ i ks r, elts L n i ks = some r → elts L (n + 1) i ks = some r) := by
  intro n
  induction n with
  | zero => refine ⟨fun _ _ h => ?_, fun _ _ h => ?_, fun _ _ _ _ h => ?_, fun _ _ h => ?_, fun _ _ _ h => ?_⟩ <;> simp [val, mem0, mems, elt0, elts] at h
  | succ n ih =>
    obtain ⟨i1, i2, i3, i4, i5⟩ := ih
    refine ⟨fun i r h => ?_, fun i r h => ?_, fun i ns ks r h => ?_, fun i r h => ?_, fun i ks r h => ?_⟩
    · rw [val] at h ⊢
      split
      · rename_i c
        rw [if_pos c] at h
        obtain ⟨a, h1, h2⟩ := Option.map_eq_some_iff.1 h
        rw [i2 i a h1]
        exact congrArg some h2
      rename_i c
      rw [if_neg c] at h
      split
      · rename_i c
        rw [if_pos c] at h
        obtain ⟨a, h1, h2⟩ := Option.map_eq_some_iff.1 h
        rw [i4 i a h1]
        exact congrArg some h2
      rename_i c
      rw [if_neg c] at h
      exact h
    · rw [mem0] at h ⊢
      split
      · rename_i c
        rw [if_pos c] at h
        exact h
      rename_i c
      rw [if_neg c] at h
      exact i3 _ _ _ _ h
    · rw [mems] at h ⊢
      split
      · rename_i c
        rw [if_pos c] at h
        cases hs : st L (i + 1) with
        | none =>
          rw [hs] at h
          cases h
        | some j =>
          rw [hs] at h
          simp only at h ⊢
          split
          · rename_i c
            rw [if_pos c] at h
            cases hv : val L n (bl L (bl L j + 1)) with
            | none =>
              rw [hv] at h
              cases h
            | some pe =>
              rw [hv] at h
              rw [i1 _ _ hv]
              simp only at h ⊢
              split
              · rename_i c
                rw [if_pos c] at h
                exact h
              rename_i c
              rw [if_neg c] at h
              split
              · rename_i c
                rw [if_pos c] at h
                exact i3 _ _ _ _ h
              · rename_i c
                rw [if_neg c] at h
                exact h
          · rename_i c
            rw [if_neg c] at h
            exact h
      · rename_i c
        rw [if_neg c] at h
        exact h
    · rw [elt0] at h ⊢
      split
      · rename_i c
        rw [if_pos c] at h
        exact h
      rename_i c
      rw [if_neg c] at h
      exact i5 _ _ _ h
    · rw [elts] at h ⊢
      cases hv : val L n i with
      | none =>
        rw [hv] at h
        cases h
      | some pe =>
        rw [hv] at h
        rw [i1 _ _ hv]
        simp only at h ⊢
        split
        · rename_i c
          rw [if_pos c] at h
          exact h
        rename_i c
        rw [if_neg c] at h
        split
        · rename_i c
          rw [if_pos c] at h
          exact i5 _ _ _ h
        · rename_i c
          rw [if_neg c] at h
          exact h
theorem val_up {L : List Int} {n m i : Nat} {r : S35 × Nat} (h : val L n i = some r) (hm : n ≤ m) : val L m i = some r := by
  obtain ⟨k, rfl⟩ := Nat.exists_eq_add_of_le hm
  clear hm
  induction k with
  | zero => exact h
  | succ k ih => exact (v_mono (n + k)).1 _ _ ih
theorem mems_up {L : List Int} {n m i : Nat} {ns : List S72} {ks : List S35} {r : List S72 × List S35 × Nat} (h : mems L n i ns ks = some r) (hm : n ≤ m) : mems L m i ns ks = some r := by
  obtain ⟨k, rfl⟩ := Nat.exists_eq_add_of_le hm
  clear hm
  induction k with
  | zero => exact h
  | succ k ih => exact (v_mono (n + k)).2.2.1 _ _ _ _ ih
theorem elts_up {L : List Int} {n m i : Nat} {ks : List S35} {r : List S35 × Nat} (h : elts L n i ks = some r) (hm : n ≤ m) : elts L m i ks = some r := by
  obtain ⟨k, rfl⟩ := Nat.exists_eq_add_of_le hm
  clear hm
  induction k with
  | zero => exact h
  | succ k ih => exact (v_mono (n + k)).2.2.2.2 _ _ _ ih
theorem v_lt {L : List Int} : ∀ n : Nat,
    (∀ i p e, i ≤ L.length → val L n i = some (p, e) → i < e ∧ e ≤ L.length) ∧
    (∀ i r, i < L.length → mem0 L n i = some r → i < r.2.2 ∧ r.2.2 ≤ L.length) ∧
    (∀ i ns ks r, i ≤ L.length → mems L n i ns ks = some r → i < r.2.2 ∧ r.2.2 ≤ L.length) ∧
    (∀ i r, i < L.length → elt0 L n i = some r → i < r.2 ∧ r.2 ≤ L.length) ∧
    (∀ i ks r, i ≤ L.length → elts L n i ks = some r → i < r.2 ∧ r.2 ≤ L.length) := by
  intro n
  induction n with
  | zero =>
    refine ⟨fun i p e _ h => ?_, fun i r _ h => ?_, fun i ns ks r _ h => ?_, fun i r _ h => ?_, fun i ks r _ h => ?_⟩
    · simp [val] at h
    · simp [mem0] at h
    · simp [mems] at h
    · simp [elt0] at h
    · simp [elts] at h
  | succ n ih =>
    obtain ⟨ihv, ihm0, ihm, ihe0, ihe⟩ := ih
    refine ⟨fun i p e hi h => ?_, fun i r hi h => ?_, fun i ns ks r hi h => ?_, fun i r hi h => ?_, fun i ks r hi h => ?_⟩
    · rw [val] at h
      split at h
      · rename_i h1
        obtain ⟨r, hr, h⟩ := Option.map_eq_some_iff.mp h
        simp only [Prod.mk.injEq] at h
        obtain ⟨rfl, rfl⟩ := h
        exact ihm0 _ _ h1.1 hr
      split at h
      · rename_i h1
        obtain ⟨r, hr, h⟩ := Option.map_eq_some_iff.mp h
        simp only [Prod.mk.injEq] at h
        obtain ⟨rfl, rfl⟩ := h
        exact ihe0 _ _ h1.1 hr
      split at h
      · obtain ⟨r, hr, h⟩ := Option.map_eq_some_iff.mp h
        simp only [Prod.mk.injEq] at h
        obtain ⟨rfl, rfl⟩ := h
        have := st_le L _ _ _ (Nat.le_refl _) hr
        omega
      split at h
      · obtain ⟨r, hr, h⟩ := Option.map_eq_some_iff.mp h
        simp only [Prod.mk.injEq] at h
        obtain ⟨rfl, rfl⟩ := h
        exact numE_le hi hr
      split at h
      · rename_i hw
        have := wordE_le hw hi
        simp only [List.length_cons, List.length_nil] at this
        simp only [Option.some.injEq, Prod.mk.injEq] at h
        omega
      split at h
      · rename_i hw
        have := wordE_le hw hi
        simp only [List.length_cons, List.length_nil] at this
        simp only [Option.some.injEq, Prod.mk.injEq] at h
        omega
      split at h
      · rename_i hw
        have := wordE_le hw hi
        simp only [List.length_cons, List.length_nil] at this
        simp only [Option.some.injEq, Prod.mk.injEq] at h
        omega
      · cases h
    · rw [mem0] at h
      have hb := bl_le L (i + 1) (by omega)
      split at h
      · rename_i h1
        have := h1.1
        injection h with h
        subst h
        simp only
        omega
      · have := ihm _ _ _ _ hb.2 h
        omega
    · rw [mems] at h
      split at h
      · rename_i h1
        have h1l := h1.1
        split at h
        · cases h
        · rename_i j hj
          have hjl := st_le L _ _ _ (Nat.le_refl _) hj
          have hb1 := bl_le L j hjl.2
          split at h
          · rename_i h2
            have h2l := h2.1
            have hb2 := bl_le L (bl L j + 1) (by omega)
            split at h
            · cases h
            · rename_i p e hv
              have hve := ihv _ _ _ hb2.2 hv
              have hb3 := bl_le L e hve.2
              split at h
              · rename_i h3
                have := h3.1
                injection h with h
                subst h
                simp only
                omega
              · split at h
                · rename_i h3
                  have := h3.1
                  have hb4 := bl_le L (bl L e + 1) (by omega)
                  have := ihm _ _ _ _ hb4.2 h
                  omega
                · cases h
          · cases h
      · cases h
    · rw [elt0] at h
      have hb := bl_le L (i + 1) (by omega)
      split at h
      · rename_i h1
        have := h1.1
        injection h with h
        subst h
        simp only
        omega
      · have := ihe _ _ _ hb.2 h
        omega
    · rw [elts] at h
      split at h
      · cases h
      · rename_i p e hv
        have hve := ihv _ _ _ hi hv
        have hb3 := bl_le L e hve.2
        split at h
        · rename_i h3
          have := h3.1
          injection h with h
          subst h
          simp only
          omega
        · split at h
          · rename_i h3
            have := h3.1
            have hb4 := bl_le L (bl L e + 1) (by omega)
            have := ihe _ _ _ hb4.2 h
            omega
          · cases h
/-- The place of a JSON text. -/
def Doc (L : List Int) (p : S35) : Prop := ∃ n e, val L n (bl L 0) = some (p, e) ∧ bl L e = L.length
end Go.Proofs.YtgbliniamkpocaaDoor.Pure
