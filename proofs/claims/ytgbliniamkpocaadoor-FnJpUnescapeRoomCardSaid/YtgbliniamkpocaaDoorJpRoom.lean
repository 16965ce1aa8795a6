/- Whatever room the buffer handed in has, Unescape gives the same bytes, and an error just if it does with none; a text without a backslash it gives as it is. -/
import Derived.Test.YtgbliniamkpocaaDoorJpVars
import Derived.Test.YtgbliniamkpocaaDoorWMore
import Derived.Lib.ConvBytes
namespace Go.Proofs.YtgbliniamkpocaaDoor.Jp
open Go.RowKit Go.Proofs.YtgbliniamkpocaaDoorW.PrintWords Go.Proofs.YtgbliniamkpocaaDoorW.PrintMore Go.Proofs.YtgbliniamkpocaaDoor.Kit

theorem unc_c (A : Option Addr) (c : Nat) (l : List Int) (w : World) (hr : ReadsInt w .u8 A l.length l) (hlc : l.length ≤ c) (hA0 : A = none → c = 0) (hb : ∀ x ∈ l, 0 ≤ x ∧ x ≤ 255)
    (g n : Nat) (hB : BO w g n []) (hg3 : g ≠ 3) (hg4 : g ≠ 4) (hA : ∀ a, A = some a → a.block ≠ g) (hlim : l.length ≤ 140737488351232) (hT : Tab w) (hE : Err3 w) :
    Calls Tryd.prog 44 #[cfg, .slice A l.length c, .slice (some ⟨g, 0, none⟩) n n] w fun e w' => UnPost w g l e w' := by
  by_cases hp : bs0 l = l.length
  · exact unc_plain A c l w hr hlc hA0 hb hp _ g
  · by_cases hcap : n < l.length
    · exact unc_make A c l w hr hlc hb hp g _ n n hcap hlim hT hE
    · exact unc_reuse A c l w hr hlc hb hp g n n (by omega) hB hg3 hg4 hA hT hE
set_option maxHeartbeats 4000000 in
set_option maxRecDepth 100000 in
theorem unescape_c (A : Option Addr) (c : Nat) (l : List Int) (w : World) (hr : ReadsInt w .u8 A l.length l) (hlc : l.length ≤ c) (hA0 : A = none → c = 0) (hb : ∀ x ∈ l, 0 ≤ x ∧ x ≤ 255)
    (g n : Nat) (hB : BO w g n []) (hg3 : g ≠ 3) (hg4 : g ≠ 4) (hA : ∀ a, A = some a → a.block ≠ g) (hlim : l.length ≤ 140737488351232) (hV : Vars w) :
    Calls Tryd.prog 27 #[.slice A l.length c, .slice (some ⟨g, 0, none⟩) n n] w fun e w' => UnPost w g l e w' := by
  have HU := Lib.hid (unc_c A c l w hr hlc hA0 hb g n hB hg3 hg4 hA hlim hV.2.1 hV.2.2)
  obtain ⟨h0, h1, h2⟩ := hV.1
  unfold cfg at HU
  cases hu : un l with
  | none =>
    have HN := Lib.hid hu
    clear hr hA0 hb hB hg3 hg4 hA hV hu
    go_enter Tryd.func27, Tryd.ntmps27
    go_wp2_with (go_at_call 44; refine (HU.out).mono ?_; intro e w1 hp; unfold UnPost at hp; rw [HN.out] at hp; obtain ⟨⟨tp, p, rfl⟩, hg⟩ := hp)
    go_ret2
    unfold UnPost
    rw [HN.out]
    exact ⟨⟨tp, p, rfl⟩, hg⟩
  | some r =>
    have HN := Lib.hid hu
    clear hr hA0 hb hB hg3 hg4 hA hV hu
    go_enter Tryd.func27, Tryd.ntmps27
    go_wp2_with (go_at_call 44; refine (HU.out).mono ?_; intro e w1 hp; unfold UnPost at hp; rw [HN.out] at hp; obtain ⟨A', c', rfl, hr', hc', hg⟩ := hp)
    go_ret2
    unfold UnPost
    rw [HN.out]
    exact ⟨A', c', rfl, hr', hc', hg⟩
theorem nums_byte (s : ByteArray) : ∀ x ∈ Kit.nums s, 0 ≤ x ∧ x ≤ 255 := by
  intro x hx
  simp only [Kit.nums, List.mem_map] at hx
  obtain ⟨c, _, rfl⟩ := hx
  have := c.toNat_lt
  omega
theorem after_make {w w1 w2 : World} {n cap : Nat} {l : List Int} {xs : List Value} (hown : w2.ownsRow 0 5 1 (.slice (some ⟨w1.heap.size, 0, none⟩) n n) n xs) (hgrow : w1.grownBy w2 none)
    (hX : ReadsInt w1 .u8 (some ⟨w.heap.size, 0, none⟩) l.length l ∧ l.length ≤ cap ∧ Below w.heap.size w w1 ∧ Vars w ∧ w.heap.size < w1.heap.size) (hb : ∀ x ∈ l, 0 ≤ x ∧ x ≤ 255) (hlim : l.length ≤ 140737488351232) {m : Nat} (hm : l.length = m) :
    (Calls Tryd.prog 27 #[.slice (some ⟨w.heap.size, 0, none⟩) m cap, .slice (some ⟨w1.heap.size, 0, none⟩) n n] w2 fun e w' => UnPost w2 w1.heap.size l e w') ∧ Below w.heap.size w w2 ∧ w1.heap.size ≤ w2.heap.size ∧ w.heap.size < w1.heap.size := by
  subst hm
  obtain ⟨hR, hle, hbl, hV, hlt⟩ := hX
  have hb12 : Below w1.heap.size w1 w2 := (Below.refl _ _).grown hgrow (Nat.le_refl _) (fun _ h => by cases h)
  have h3 : 3 < w.heap.size := by obtain ⟨_, _, h⟩ := hV.2.2; exact World.block_lt_of_cell? w _ h
  have h4 : 4 < w.heap.size := World.block_lt_of_cell? w _ (hV.2.1 34 (.inl rfl))
  have hbw : Below w.heap.size w w2 := hbl.trans (hb12.mono (by omega))
  exact ⟨unescape_c (some ⟨w.heap.size, 0, none⟩) cap l w2 (hR.below hb12) hle (fun h => by cases h) hb w1.heap.size n (bo_of_own hown) (by omega) (by omega) (fun a e => by injection e with e; subst e; simp only; omega) hlim (hV.below hbw), hbw, hb12.size, hlt⟩
/-- What impl.JpUnescape gives. -/
def ju (s : ByteArray) : ByteArray × Bool := match un (Kit.nums s) with | none => (⟨#[]⟩, false) | some r => (strOfNums r, true)
attribute [local go_sem] max2_int max_two
set_option maxHeartbeats 4000000 in
set_option maxRecDepth 100000 in
theorem jpUnescape_c (s : ByteArray) (r : Nat) (hr : r ≤ 131072) (hs : s.size ≤ 65536) (w : World) (hV : Vars w) :
    Calls Tryd.prog 10 #[.string s, .int .i64 r] w fun e w' => e = .returned (.tuple #[.string (ju s).1, .bool (ju s).2]) ∧ Below w.heap.size w w' := by
  obtain ⟨i5, hi5, hz5, hsz5, hby5⟩ : ∃ i, Tryd.prog.info? 5 = some i ∧ i.zero = some (.int .u8 0) ∧ i.size = 1 ∧ i.bytes = 1 := ⟨_, rfl, rfl, rfl, rfl⟩
  have hcv := Lib.run_convert_string_bytes (P := Tryd.prog) w 9 57 5 s Tryd.underlying9 Tryd.underlying57 Tryd.underlying5
  have hB := Kit.BB.conv w 5 s
  have hb := Kit.below_conv w 5 s
  have hle := hB.le
  have hcap : grownCap w s.size 0 5 = (Lib.bytesCells w 5 s).size := by
    have hge := grownCap_ge w s.size 0 5
    simp only [Lib.bytesCells, Array.size_append, Array.size_map, Array.size_replicate]
    show _ = s.size + _
    omega
  rw [hcap] at hcv
  generalize (Lib.bytesCells w 5 s).size = cap at hcv hB hle
  generalize Lib.bytesWorld w 5 s = w1 at hcv hB hb
  have hlen := Kit.nums_len s
  change Kit.BB w1 w.heap.size cap (Kit.nums s) at hB
  have hR : ReadsInt w1 .u8 (some ⟨w.heap.size, 0, none⟩) (Kit.nums s).length (Kit.nums s) :=
    ⟨rfl, by omega, fun _ => ⟨_, rfl, fun j hj => by
      have e : (⟨w.heap.size, 0, none⟩ : Addr).add j = ⟨w.heap.size, j, none⟩ := by
        simp only [Addr.add]
        split <;> simp_all
      rw [e]
      exact hB.cell j hj⟩⟩
  have hlt := hB.lt
  have hle' : (Kit.nums s).length ≤ cap := hle
  have HX := Lib.hid (And.intro hR (And.intro hle' (And.intro hb (And.intro hV hlt))))
  have HLEN := Lib.hid hlen
  clear hR hle hle' hB hb hlt hV hcap hlen
  cases hu : un (Kit.nums s) with
  | none =>
    have HN := Lib.hid hu
    have hj : ju s = (⟨#[]⟩, false) := by unfold ju; rw [hu]
    rw [hj]
    clear hu hj
    go_enter Tryd.func10, Tryd.ntmps10
    go_wp2_with (first | (with_reducible refine wpList_make_full _ rfl _ _ 57 rfl 0 5 i5 (.int .u8 0) 1 Tryd.underlying57 hi5 hz5 hsz5 .i64 .i64 _ _ (r % 65536) rfl rfl ?hL ?hC ?hb2 ?hb3 (Nat.zero_le _) ?_; (case hL => omega); (case hC => omega); (case hb2 => rw [hby5]; omega); (case hb3 => unfold maxLen; omega); intro w2 hown hgrow; have HC2 := Lib.hid (after_make hown hgrow HX.out (nums_byte s) (by rw [HLEN.out]; omega) HLEN.out); clear hown hgrow) | (go_at_call 27; refine (HC2.out.1).mono ?_; intro e w3 hp; unfold UnPost at hp; rw [HN.out] at hp; obtain ⟨⟨tp, p, rfl⟩, hg⟩ := hp))
    go_ret2
    exact ⟨rfl, HC2.out.2.1.trans (hg.below (by have := HC2.out.2.2; omega) (by have := HC2.out.2.2; omega))⟩
  | some rs =>
    have HN := Lib.hid hu
    have hj : ju s = (strOfNums rs, true) := by unfold ju; rw [hu]
    rw [hj]
    clear hu hj
    go_enter Tryd.func10, Tryd.ntmps10
    go_wp2_with (first | (with_reducible refine wpList_make_full _ rfl _ _ 57 rfl 0 5 i5 (.int .u8 0) 1 Tryd.underlying57 hi5 hz5 hsz5 .i64 .i64 _ _ (r % 65536) rfl rfl ?hL ?hC ?hb2 ?hb3 (Nat.zero_le _) ?_; (case hL => omega); (case hC => omega); (case hb2 => rw [hby5]; omega); (case hb3 => unfold maxLen; omega); intro w2 hown hgrow; have HC2 := Lib.hid (after_make hown hgrow HX.out (nums_byte s) (by rw [HLEN.out]; omega) HLEN.out); clear hown hgrow) | (go_at_call 27; refine (HC2.out.1).mono ?_; intro e w3 hp; unfold UnPost at hp; rw [HN.out] at hp; obtain ⟨A', c', rfl, hr', hc', hg⟩ := hp; have hst := string_of_reads (P := Tryd.prog) (src := 57) (dst := 9) (e := 5) (c := c') Tryd.underlying57 Tryd.underlying5 Tryd.underlying9 hr'; clear hr' hc'))
    go_ret2
    exact ⟨rfl, HC2.out.2.1.trans (hg.below (by have := HC2.out.2.2; omega) (by have := HC2.out.2.2; omega))⟩
/-- Is a backslash among these. -/
def hasB (l : List Int) : Bool := decide (bs0 l ≠ l.length)
theorem bs0_get (l : List Int) (i : Nat) (h : i < bs0 l) : l.getD i 0 ≠ 92 := by
  have hle := bs0_le l
  have := bs0_take l (l.getD i 0) (by
    rw [List.getD, List.getElem?_eq_getElem (by omega), Option.getD_some]
    exact List.mem_take_iff_getElem.2 ⟨i, by omega, rfl⟩)
  exact this
theorem bs0_at (l : List Int) (h : bs0 l < l.length) : l.getD (bs0 l) 0 = 92 := by
  obtain ⟨r, hr⟩ := bs0_drop l h
  have := congrArg (·.getD 0 0) hr
  simpa [List.getD] using this
set_option maxHeartbeats 4000000 in
set_option maxRecDepth 100000 in
theorem escaped_c (s : ByteArray) (hs : s.size ≤ 140737488351232) (w : World) : Calls Tryd.prog 11 #[.string s] w fun e w' => e = .returned (.bool (hasB (Kit.nums s))) ∧ w' = w := by
  have hlen := Kit.nums_len s
  have hle := bs0_le (Kit.nums s)
  rw [hlen] at hle
  by_cases hq : bs0 (Kit.nums s) = s.size
  · have hb : hasB (Kit.nums s) = false := by unfold hasB; rw [hlen, hq]; simp
    rw [hb]
    have HG := Lib.hid (fun i (h : i < s.size) => bs0_get (Kit.nums s) i (by rw [hq]; exact h))
    clear hlen hle hq hb
    go_enter Tryd.func11, Tryd.ntmps11
    go_wp2
    go_loop [3] (fun i => ∃ k : Nat, k ≤ s.size ∧ i = .int .i64 k) (fun i => s.size - (intOf i).toNat)
    case atStart => exact ⟨0, Nat.zero_le _, rfl⟩
    case round =>
      obtain ⟨k, hk, rfl⟩ := hrel
      by_cases hlt : k < s.size
      · have hn := HG.out k hlt
        rw [Kit.nums_get s k hlt] at hn
        have hn' : ((s[k].toNat : Int) == 92) = false := by simpa using hn
        clear hn
        go_wp2
        go_round
        case rel => exact ⟨k + 1, by omega, by go_num⟩
        case measure => simp [intOf]; omega
      · go_wp2
        go_ret
        exact ⟨rfl, rfl⟩
  · obtain ⟨b, hbe⟩ : ∃ b, bs0 (Kit.nums s) = b := ⟨_, rfl⟩
    have hb : hasB (Kit.nums s) = true := by unfold hasB; rw [hlen]; simpa using hq
    rw [hb]
    have HG := Lib.hid (fun i (h : i < b) => bs0_get (Kit.nums s) i (by rw [hbe]; exact h))
    have HA := Lib.hid (bs0_at (Kit.nums s) (by rw [hlen]; omega))
    rw [hbe] at HA hle hq
    have hbl : b < s.size := by omega
    clear hlen hle hq hb hbe
    go_enter Tryd.func11, Tryd.ntmps11
    go_wp2
    go_loop [3] (fun i => ∃ k : Nat, k ≤ b ∧ i = .int .i64 k) (fun i => s.size - (intOf i).toNat)
    case atStart => exact ⟨0, Nat.zero_le _, rfl⟩
    case round =>
      obtain ⟨k, hk, rfl⟩ := hrel
      by_cases hlt : k < b
      · have hks : k < s.size := by omega
        have hn := HG.out k hlt
        rw [Kit.nums_get s k hks] at hn
        have hn' : ((s[k].toNat : Int) == 92) = false := by simpa using hn
        clear hn
        go_wp2
        go_round
        case rel => exact ⟨k + 1, by omega, by go_num⟩
        case measure => simp [intOf]; omega
      · obtain rfl : k = b := by omega
        have hn := HA.out
        rw [Kit.nums_get s k hbl] at hn
        have hn' : ((s[k].toNat : Int) == 92) = true := by simpa using hn
        clear hn
        go_wp2
        go_ret
        exact ⟨rfl, rfl⟩
theorem ju_plain (s : ByteArray) (h : hasB (Kit.nums s) = false) : ju s = (s, true) := by
  have hq : bs0 (Kit.nums s) = (Kit.nums s).length := by unfold hasB at h; simpa using h
  unfold ju
  rw [un_all (Kit.nums s) (by have := bs0_take (Kit.nums s); rwa [hq, List.take_length] at this)]
  have : strOfNums (Kit.nums s) = s := by
    apply ByteArray.ext
    apply Array.ext'
    simp [strOfNums, Kit.nums, Function.comp_def]
  simp only
  rw [this]
set_option maxHeartbeats 4000000 in
set_option maxRecDepth 100000 in
theorem room_law (s : ByteArray) (n : Int) (w : World) (hV : Vars w) :
    Calls Tryd.prog 3 #[.string s, .int .i64 n] w fun e w' => e = .returned (.bool true) ∧ Below w.heap.size w w' := by
  by_cases h1 : 2147483647 < s.size
  · go_enter Tryd.func3, Tryd.ntmps3
    go_wp2
    go_ret
    exact ⟨rfl, Below.refl _ _⟩
  by_cases h2 : 65536 < s.size
  · go_enter Tryd.func3, Tryd.ntmps3
    go_wp2
    go_ret
    exact ⟨rfl, Below.refl _ _⟩
  by_cases h3 : n < 0
  · go_enter Tryd.func3, Tryd.ntmps3
    go_wp2
    go_ret
    exact ⟨rfl, Below.refl _ _⟩
  by_cases h4 : 131072 < n
  · go_enter Tryd.func3, Tryd.ntmps3
    go_wp2
    go_ret
    exact ⟨rfl, Below.refl _ _⟩
  obtain ⟨r, rfl⟩ : ∃ r : Nat, n = (r : Int) := ⟨n.toNat, by omega⟩
  have H1 := fun w hV => jpUnescape_c s r (by omega) (by omega) w hV
  have H0 : ∀ w, Vars w → Calls Tryd.prog 10 #[.string s, .int .i64 0] w fun e w' => e = .returned (.tuple #[.string (ju s).1, .bool (ju s).2]) ∧ Below w.heap.size w w' := fun w hV => jpUnescape_c s 0 (by omega) (by omega) w hV
  have H2 := fun w => escaped_c s (by omega) w
  have hj := ju_plain s
  cases hh : hasB (Kit.nums s) with
  | false =>
    rw [hj hh] at H1 H0
    dsimp only at H1 H0
    rw [hh] at H2
    have HH := Lib.hid (And.intro H1 (And.intro H0 (And.intro H2 hV)))
    clear H1 H0 H2 hj hh hV
    go_enter Tryd.func3, Tryd.ntmps3
    go_wp2_with (first | (go_at_call 10; (with_reducible refine (HH.out.1 _ HH.out.2.2.2).mono ?_); rintro e w1 ⟨rfl, hb1⟩) | (go_at_call 10; (with_reducible refine (HH.out.2.1 _ (HH.out.2.2.2.below hb1)).mono ?_); rintro e w2 ⟨rfl, hb2⟩) | (go_at_call 11; refine (HH.out.2.2.1 _).mono ?_; rintro e w3 ⟨rfl, rfl⟩))
    go_ret
    exact ⟨rfl, hb1.trans (hb2.mono hb1.size)⟩
  | true =>
    obtain ⟨t, ht⟩ : ∃ t, (ju s).1 = t := ⟨_, rfl⟩
    obtain ⟨ok, hok⟩ : ∃ t, (ju s).2 = t := ⟨_, rfl⟩
    rw [ht, hok] at H1 H0
    rw [hh] at H2
    have HH := Lib.hid (And.intro H1 (And.intro H0 (And.intro H2 hV)))
    clear H1 H0 H2 hj hh hV ht hok
    cases ok
    all_goals
      go_enter Tryd.func3, Tryd.ntmps3
      go_wp2_with (first | (go_at_call 10; (with_reducible refine (HH.out.1 _ HH.out.2.2.2).mono ?_); rintro e w1 ⟨rfl, hb1⟩) | (go_at_call 10; (with_reducible refine (HH.out.2.1 _ (HH.out.2.2.2.below hb1)).mono ?_); rintro e w2 ⟨rfl, hb2⟩) | (go_at_call 11; refine (HH.out.2.2.1 _).mono ?_; rintro e w3 ⟨rfl, rfl⟩))
      go_ret
      exact ⟨by first | rfl | simp, hb1.trans (hb2.mono hb1.size)⟩
theorem room_walk (s : ByteArray) (n : Int) (w : World) (_hs : s.size ≤ 140737488351232) (_hn : (Lit.int .i64 n).wf = true) (hL : laidMetH Tryd.prog Rows.fnJpUnescapeRoomRow.laid w) :
    Calls Tryd.prog 3 #[.string s, .int .i64 n] w fun e w' => e = .returned (.bool true) ∧ Below w.heap.size w w' :=
  room_law s n w (vars_of (by kernel_rfl) (.head _) (.tail _ (.head _)) (.tail _ (.tail _ (.head _))) hL)
end Go.Proofs.YtgbliniamkpocaaDoor.Jp
