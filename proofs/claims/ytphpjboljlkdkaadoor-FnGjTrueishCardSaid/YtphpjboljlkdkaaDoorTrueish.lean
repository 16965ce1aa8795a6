/- The walk of FnGjTrueish: true counts as true, a number just if it is not 0, a string just if it is 1, t or true in letters of any case. -/
import Derived.Test.YtphpjboljlkdkaaDoorPFnGjTrueishx2
import Derived.Test.YtphpjboljlkdkaaDoorShelfTr
import Derived.Test.YtphpjboljlkdkaaDoorRows
import Derived.Lib.LaidU8
import Derived.MakeChecks
import Derived.WalkKit
import Derived.WalkSpells
import Derived.WalkLawsBesides
import Derived.OpenShut
import Derived.Lib.Hide
import Derived.Deep.RegionHeld3
namespace Go.Proofs.YtphpjboljlkdkaaDoor
open Go.RowKit Go.Proofs.YtphpjboljlkdkaaDoorW.PrintWords PFnGjTrueish

/-! ### The lower letters, in plain words -/
def lowF : List Int → List Int
  | [] => []
  | [c] => [smallN c]
  | c :: d :: r => if c = 196 ∧ d = 176 then 105 :: lowF r else smallN c :: lowF (d :: r)
def Tt (l : List Int) : Prop := l = [49] ∨ l = [116] ∨ l = [116, 114, 117, 101]
instance (l : List Int) : Decidable (Tt l) := by unfold Tt; infer_instance
theorem smallN_no (c : Int) : smallN c = 196 ↔ c = 196 := by unfold smallN; split <;> omega
theorem lowF_or : ∀ (n : Nat) (L : List Int), L.length ≤ n → lowF L = L.map smallN ∨ (105 ∈ lowF L ∧ 196 ∈ L.map smallN)
  | _, [], _ => .inl rfl
  | _, [c], _ => .inl rfl
  | 0, c :: d :: r, h => by simp at h
  | n + 1, c :: d :: r, h => by
    simp only [lowF]
    by_cases hc : c = 196 ∧ d = 176
    · rw [if_pos hc]
      obtain ⟨rfl, rfl⟩ := hc
      exact .inr ⟨by simp, by simp [smallN]⟩
    · rw [if_neg hc]
      rcases lowF_or n (d :: r) (by simp at h ⊢; omega) with e | ⟨e1, e2⟩
      · exact .inl (by rw [e]; rfl)
      · exact .inr ⟨List.mem_cons_of_mem _ e1, List.mem_cons_of_mem _ e2⟩
theorem Tt_low (L : List Int) : Tt (lowF L) ↔ Tt (L.map smallN) := by
  rcases lowF_or _ L (Nat.le_refl _) with e | ⟨e1, e2⟩
  · rw [e]
  · constructor
    · rintro (h | h | h) <;> · rw [h] at e1; simp at e1
    · rintro (h | h | h) <;> · rw [h] at e2; simp at e2
theorem lowF_le : ∀ (n : Nat) (L : List Int), L.length ≤ n → (lowF L).length ≤ L.length
  | _, [], _ => by simp [lowF]
  | _, [c], _ => by simp [lowF]
  | 0, c :: d :: r, h => by simp at h
  | n + 1, c :: d :: r, h => by
    simp only [lowF]
    split
    · have := lowF_le n r (by simp at h; omega)
      simp
      omega
    · have := lowF_le n (d :: r) (by simp at h ⊢; omega)
      simp at this ⊢
      omega
theorem smallN_range {c : Int} (h0 : 0 ≤ c) (h1 : c ≤ 255) : 0 ≤ smallN c ∧ smallN c ≤ 255 ∧ ¬ (65 ≤ smallN c ∧ smallN c ≤ 90) := by unfold smallN; split <;> omega
theorem lowF_range : ∀ (n : Nat) (L : List Int), L.length ≤ n → (∀ x ∈ L, 0 ≤ x ∧ x ≤ 255) → ∀ x ∈ lowF L, 0 ≤ x ∧ x ≤ 255 ∧ ¬ (65 ≤ x ∧ x ≤ 90)
  | _, [], _, _ => by simp [lowF]
  | _, [c], _, h => by
    intro x hx
    obtain rfl : x = smallN c := by simpa [lowF] using hx
    exact smallN_range (h c (by simp)).1 (h c (by simp)).2
  | 0, c :: d :: r, h, _ => by simp at h
  | n + 1, c :: d :: r, h, hr => by
    intro x hx
    simp only [lowF] at hx
    split at hx
    · rcases List.mem_cons.1 hx with rfl | hx
      · omega
      · exact lowF_range n r (by simp at h; omega) (fun y hy => hr y (by simp [hy])) x hx
    · rcases List.mem_cons.1 hx with rfl | hx
      · exact smallN_range (hr c (by simp)).1 (hr c (by simp)).2
      · exact lowF_range n (d :: r) (by simp at h ⊢; omega) (fun y hy => hr y (by simp at hy ⊢; exact .inr hy)) x hx

theorem bt_gd (s : ByteArray) (i : Nat) : bt s i = (Kit.nums s).getD i 0 := by
  by_cases h : i < s.size
  · rw [Kit.nums_get s i h]
    simp [bt, h]
  · have h2 : (Kit.nums s).length ≤ i := by rw [Kit.nums_len]; omega
    simp [bt, List.getD, List.getElem?_eq_none h2, h]
theorem drop_at (L : List Int) (i : Nat) (h : i < L.length) : L.drop i = L.getD i 0 :: L.drop (i + 1) := by
  rw [List.drop_eq_getElem_cons h]
  simp [List.getD, h]
theorem low_ev (s : ByteArray) (hs : s.size ≤ 140737488351232) : ∀ (d i : Nat) (out : List Int), s.size - i ≤ d → i ≤ s.size → out.length ≤ i →
    Ev (fun k => gjson_zzLower.l0 k s out (i : Int)) (strOfNums (out ++ lowF ((Kit.nums s).drop i))) := by
  intro d
  have hL := Kit.nums_len s
  induction d with
  | zero =>
    intro i out hd hi ho
    rw [List.drop_eq_nil_of_le (by omega)]
    refine Ev.step (fun k => ?_) (Ev.now _)
    simp only [gjson_zzLower.l0]
    rw [if_neg (by omega)]
    simp [lowF]
  | succ d ih =>
    intro i out hd hi ho
    by_cases hlt : i < s.size
    · have hb := bt_range s i
      have w1 : wrap64 ((i : Int) + 1) = ((i + 1 : Nat) : Int) := by unfold wrap64; omega
      have w2 : wrap64 (((i + 1 : Nat) : Int) + 1) = ((i + 2 : Nat) : Int) := by unfold wrap64; omega
      obtain ⟨c, hc⟩ : ∃ c, bt s i = c := ⟨_, rfl⟩
      have hc' := hc
      rw [bt_gd] at hc'
      rw [hc] at hb
      have hgo : ∀ k, gjson_zzLower.l0 (k + 1) s out (i : Int) = gjson_zzLower.j1 k s out (i : Int) c (decide (65 ≤ c ∧ c ≤ 90)) := by
        intro k
        simp only [gjson_zzLower.l0]
        rw [if_pos (by omega), if_pos (by omega), hc]
        by_cases h : 65 ≤ c
        · rw [if_pos h]; simp [h]
        · rw [if_neg h]; simp [h]
      have hone : ∀ x, Ev (fun k => gjson_zzLower.l0 k s (out ++ [x]) ((i + 1 : Nat) : Int)) (strOfNums (out ++ x :: lowF ((Kit.nums s).drop (i + 1)))) := by
        intro x
        have := ih (i + 1) (out ++ [x]) (by omega) (by omega) (by simp; omega)
        simpa using this
      rw [drop_at _ i (by omega), hc']
      by_cases hx : c = 196 ∧ i + 1 < s.size ∧ (Kit.nums s).getD (i + 1) 0 = 176
      · obtain ⟨rfl, h2, h3⟩ := hx
        have h4 : bt s ((i + 1 : Nat) : Int) = 176 := by rw [bt_gd]; exact h3
        have := ih (i + 2) (out ++ [105]) (by omega) (by omega) (by simp; omega)
        rw [drop_at _ (i + 1) (by omega), h3]
        simp only [lowF, and_self, if_true]
        refine Ev.step hgo (Ev.step (fun k => ?_) (by simpa using this))
        simp only [gjson_zzLower.j1]
        rw [w1, h4, w2]
        simp
        rw [if_pos (by omega), if_pos (by omega), if_pos (by omega)]
      · have hl : lowF (c :: (Kit.nums s).drop (i + 1)) = smallN c :: lowF ((Kit.nums s).drop (i + 1)) := by
          by_cases h2 : i + 1 < s.size
          · rw [drop_at _ (i + 1) (by omega)]
            simp only [lowF]
            rw [if_neg (fun e => hx ⟨e.1, h2, e.2⟩)]
          · rw [List.drop_eq_nil_of_le (by omega)]
            rfl
        rw [hl]
        refine Ev.step hgo (Ev.step (fun k => ?_) (hone _))
        simp only [gjson_zzLower.j1]
        rw [w1, bt_gd]
        by_cases hr : 65 ≤ c ∧ c ≤ 90
        · simp only [hr, and_self, decide_true, if_true]
          rw [if_neg (by omega), if_pos (by omega)]
          unfold smallN
          rw [if_pos hr, show (c + 32) % 256 = c + 32 by omega]
        · have e : smallN c = c := by unfold smallN; rw [if_neg hr]
          rw [e]
          simp only [hr, decide_false, Bool.false_eq_true, if_false]
          by_cases hq : c = 196
          · rw [if_pos hq]
            by_cases h2 : i + 1 < s.size
            · rw [if_pos (by omega), if_pos (by omega), if_neg (fun e => hx ⟨hq, h2, e⟩), if_pos (by omega)]
            · rw [if_neg (by omega), if_pos (by omega)]
          · rw [if_neg hq, if_pos (by omega)]
    · rw [List.drop_eq_nil_of_le (by omega)]
      refine Ev.step (fun k => ?_) (Ev.now _)
      simp only [gjson_zzLower.l0]
      rw [if_neg (by omega)]
      simp [lowF]
theorem lower_c (s : ByteArray) (hs : s.size ≤ 140737488351232) (w : World) : Calls Tryd.prog 83 #[.string s] w fun e w' => e = .returned (.string (strOfNums (lowF (Kit.nums s)))) ∧ Below w.heap.size w w' := by
  obtain ⟨k, hk⟩ := (low_ev s hs _ 0 [] (Nat.le_refl _) (by omega) (by simp)).rounds
  exact gjson_zzLower.calls k s _ w (by simpa [gjson_zzLower.f] using hk)

theorem back (l : List Int) (h : ∀ x ∈ l, 0 ≤ x ∧ x ≤ 255) : (strOfNums l).data.toList.map (fun c => (c.toNat : Int)) = l := by
  simp only [strOfNums, List.toList_toArray, List.map_map]
  conv => rhs; rw [← List.map_id l]
  apply List.map_congr_left
  intro x hx
  have := h x hx
  simp
  omega
theorem parse_low (l : List Int) (h : ∀ x ∈ l, 0 ≤ x ∧ x ≤ 255 ∧ ¬ (65 ≤ x ∧ x ≤ 90)) : Lib.parseBool (strOfNums l).data.toList = some true ↔ Tt l := by
  have hb := back l (fun x hx => ⟨(h x hx).1, (h x hx).2.1⟩)
  have he : ∀ t : List Int, (strOfNums l).data.toList = (strOfNums t).data.toList → (∀ x ∈ t, 0 ≤ x ∧ x ≤ 255) → l = t := fun t e ht => by rw [← hb, e, back t ht]
  have hup : ∀ (c : Int) (r : List Int), 65 ≤ c → c ≤ 90 → l ≠ c :: r := fun c r h1 h2 e => (h c (by rw [e]; simp)).2.2 ⟨h1, h2⟩
  rw [Lib.parseBool_bytes]
  constructor
  · intro hp
    split at hp
    · rename_i hq
      simp only [Bool.or_eq_true, beq_iff_eq] at hq
      rcases hq with ((((hq | hq) | hq) | hq) | hq) | hq
      · exact .inl (he [49] hq (by simp))
      · exact .inr (.inl (he [116] hq (by simp)))
      · exact absurd (he [84] hq (by simp)) (hup 84 _ (by omega) (by omega))
      · exact .inr (.inr (he [116, 114, 117, 101] hq (by simp)))
      · exact absurd (he [84, 82, 85, 69] hq (by simp)) (hup 84 _ (by omega) (by omega))
      · exact absurd (he [84, 114, 117, 101] hq (by simp)) (hup 84 _ (by omega) (by omega))
    · split at hp <;> simp at hp
  · rintro (rfl | rfl | rfl) <;> rfl
theorem nums_range (s : ByteArray) : ∀ x ∈ Kit.nums s, 0 ≤ x ∧ x ≤ 255 := by
  intro x hx
  simp only [Kit.nums, List.mem_map] at hx
  obtain ⟨c, _, rfl⟩ := hx
  have := c.toNat_lt
  omega

def Err5 (w : World) : Prop := ∃ tp p, w.cell? ⟨5, 0, none⟩ = some (.iface tp p)
theorem lt_of_cell {w : World} {b o : Nat} {v : Value} (h : w.cell? ⟨b, o, none⟩ = some v) : b < w.heap.size := by
  refine Nat.lt_of_not_le fun hle => ?_
  simp [World.cell?, Array.getElem?_eq_none hle] at h
theorem Err5.below {w w1 : World} (h : Err5 w) (hb : Below w.heap.size w w1) : Err5 w1 := by
  obtain ⟨tp, p, h⟩ := h
  exact ⟨tp, p, by rw [hb.cell (p := ⟨5, 0, none⟩) (lt_of_cell h)]; exact h⟩
theorem Err5.alloc {w : World} (h : Err5 w) (o : Obj) : Err5 (w.alloc o) := h.below ((Below.refl _ _).alloc (Nat.le_refl _) o)

/-- strconv.ParseBool of lowered letters: true just at the three. -/
theorem parse_yes (l : List Int) (h : ∀ x ∈ l, 0 ≤ x ∧ x ≤ 255 ∧ ¬ (65 ≤ x ∧ x ≤ 90)) (ht : Tt l) (w : World) :
    Calls Tryd.prog 82 #[.string (strOfNums l)] w fun e w' => e = .returned (.tuple #[.bool true, .nilIface]) ∧ w' = w :=
  Tryd.strconv_ParseBool _ true ((parse_low l h).2 ht) w
def NoB (w : World) (e : Ending) (w' : World) : Prop := ((e = .returned (.tuple #[.bool false, .nilIface])) ∨ ∃ N, e = .returned (.tuple #[.bool false, .iface 145 (.pointer (some ⟨N, 0, none⟩))])) ∧ Below w.heap.size w w'
theorem parse_no (l : List Int) (h : ∀ x ∈ l, 0 ≤ x ∧ x ≤ 255 ∧ ¬ (65 ≤ x ∧ x ≤ 90)) (hl : l.length ≤ 140737488351232) (ht : ¬ Tt l) (w : World) (h5 : Err5 w) :
    Calls Tryd.prog 82 #[.string (strOfNums l)] w fun e w' => NoB w e w' := by
  cases hp : Lib.parseBool (strOfNums l).data.toList with
  | none =>
    obtain ⟨tp, p, h5⟩ := h5
    exact (Tryd.strconv_ParseBool_err _ (by rw [strOfNums_size]; omega) hp _ w h5 (.inr ⟨_, _, rfl⟩)).mono fun e w' ⟨N, he, _, _, hb⟩ => ⟨.inr ⟨N, he⟩, hb⟩
  | some b =>
    cases b with
    | true => exact absurd ((parse_low l h).1 hp) ht
    | false => exact (Tryd.strconv_ParseBool _ false hp w).mono fun e w' ⟨he, hw⟩ => ⟨.inl he, hw ▸ Below.refl _ _⟩

def G67 (k : Int) (raw str : ByteArray) (f : Nat) : Value := .agg #[.int .i64 k, .string raw, .string str, .float .f64 f, .int .i64 0, .slice none 0 0]
set_option maxHeartbeats 4000000 in
set_option maxRecDepth 100000 in
theorem trueish_yes (raw str : ByteArray) (f : Nat) (hs : str.size ≤ 140737488351232) (ht : Tt ((Kit.nums str).map smallN)) (w : World) :
    Calls Tryd.prog 57 #[G67 3 raw str f] w fun e w' => e = .returned (.bool true) ∧ Below w.heap.size w w' := by
  have H1 := fun w => lower_c str hs w
  have H2 := fun w => parse_yes (lowF (Kit.nums str)) (lowF_range _ _ (Nat.le_refl _) (nums_range str)) ((Tt_low _).2 ht) w
  have HH := Lib.hid (And.intro H1 H2)
  clear H1 H2 ht
  unfold G67
  go_enter Tryd.func57, Tryd.ntmps57
  go_wp2_with (first | (go_at_call 83; refine (HH.out.1 _).mono ?_; rintro e w1 ⟨rfl, hb1⟩) | (go_at_call 82; refine (HH.out.2 _).mono ?_; rintro e w2 ⟨rfl, rfl⟩))
  go_ret
  exact ⟨rfl, ((Below.refl _ _).alloc (Nat.le_refl _) _).trans (hb1.mono (by simp))⟩
set_option maxHeartbeats 4000000 in
set_option maxRecDepth 100000 in
theorem trueish_no (raw str : ByteArray) (f : Nat) (hs : str.size ≤ 140737488351232) (ht : ¬ Tt ((Kit.nums str).map smallN)) (w : World) (h5 : Err5 w) :
    Calls Tryd.prog 57 #[G67 3 raw str f] w fun e w' => e = .returned (.bool false) ∧ Below w.heap.size w w' := by
  have hl : (lowF (Kit.nums str)).length ≤ 140737488351232 := by have := lowF_le _ _ (Nat.le_refl (Kit.nums str).length); rw [Kit.nums_len] at this; omega
  have H1 := fun w => lower_c str hs w
  have H2 := fun w h5 => parse_no (lowF (Kit.nums str)) (lowF_range _ _ (Nat.le_refl _) (nums_range str)) hl (fun e => ht ((Tt_low _).1 e)) w h5
  have HH := Lib.hid (And.intro H1 H2)
  have H5 := Lib.hid h5
  clear H1 H2 ht hl h5
  unfold G67
  go_enter Tryd.func57, Tryd.ntmps57
  go_wp2_with (first | (go_at_call 83; refine (HH.out.1 _).mono ?_; rintro e w1 ⟨rfl, hb1⟩) | (go_at_call 82; refine (HH.out.2 _ ((H5.out.alloc _).below hb1)).mono ?_; rintro e w2 ⟨rfl | ⟨N, rfl⟩, hb2⟩))
  all_goals
    go_ret
    exact ⟨rfl, ((Below.refl _ _).alloc (Nat.le_refl _) _).trans ((hb1.mono (by simp)).trans (hb2.mono (by have := hb1.size; simp at this; omega)))⟩
set_option maxHeartbeats 4000000 in
set_option maxRecDepth 100000 in
theorem trueish_four (raw str : ByteArray) (f : Nat) (w : World) :
    Calls Tryd.prog 57 #[G67 4 raw str f] w fun e w' => e = .returned (.bool true) ∧ Below w.heap.size w w' := by
  unfold G67
  go_enter Tryd.func57, Tryd.ntmps57
  go_wp2
  go_ret
  exact ⟨rfl, (Below.refl _ _).alloc (Nat.le_refl _) _⟩
def fne (f : Nat) : Bool := FloatKind.f64.format.order f 0 != some .eq
set_option maxHeartbeats 4000000 in
set_option maxRecDepth 100000 in
theorem trueish_two (raw str : ByteArray) (f : Nat) (w : World) :
    Calls Tryd.prog 57 #[G67 2 raw str f] w fun e w' => e = .returned (.bool (fne f)) ∧ Below w.heap.size w w' := by
  unfold G67
  go_enter Tryd.func57, Tryd.ntmps57
  go_wp2
  go_ret
  exact ⟨rfl, (Below.refl _ _).alloc (Nat.le_refl _) _⟩
set_option maxHeartbeats 4000000 in
set_option maxRecDepth 100000 in
theorem trueish_else (k : Int) (raw str : ByteArray) (f : Nat) (h4 : k ≠ 4) (h3 : k ≠ 3) (h2 : k ≠ 2) (w : World) :
    Calls Tryd.prog 57 #[G67 k raw str f] w fun e w' => e = .returned (.bool false) ∧ Below w.heap.size w w' := by
  unfold G67
  go_enter Tryd.func57, Tryd.ntmps57
  go_wp2
  go_ret
  exact ⟨rfl, (Below.refl _ _).alloc (Nat.le_refl _) _⟩
/-- What the door answers. -/
def answer (k : Int) (str : ByteArray) (f : Nat) : Bool := if k = 4 then true else if k = 3 then decide (Tt ((Kit.nums str).map smallN)) else if k = 2 then fne f else false
theorem trueish_c (k : Int) (raw str : ByteArray) (f : Nat) (hs : str.size ≤ 140737488351232) (w : World) (h5 : Err5 w) :
    Calls Tryd.prog 57 #[G67 k raw str f] w fun e w' => e = .returned (.bool (answer k str f)) ∧ Below w.heap.size w w' := by
  unfold answer
  by_cases h4 : k = 4
  · subst h4; simpa using trueish_four raw str f w
  by_cases h3 : k = 3
  · subst h3
    by_cases ht : Tt ((Kit.nums str).map smallN)
    · simpa [ht] using trueish_yes raw str f hs ht w
    · simpa [ht] using trueish_no raw str f hs ht w h5
  by_cases h2 : k = 2
  · subst h2; simpa using trueish_two raw str f w
  · simpa [h2, h3, h4] using trueish_else k raw str f h4 h3 h2 w
theorem door_c (k : Int) (raw str : ByteArray) (f : Nat) (hs : str.size ≤ 140737488351232) (w : World) (h5 : Err5 w) :
    Calls Tryd.prog 36 #[G67 k raw str f] w fun e w' => e = .returned (.bool (answer k str f)) ∧ Below w.heap.size w w' := by
  have H := Lib.hid (fun w h5 => trueish_c k raw str f hs w h5)
  have H5 := Lib.hid h5
  clear h5
  obtain ⟨b, hb⟩ : ∃ b, answer k str f = b := ⟨_, rfl⟩
  rw [hb] at H ⊢
  unfold G67 at H ⊢
  clear hb
  go_enter Tryd.func36, Tryd.ntmps36
  go_wp2_with (go_at_call 57; refine (H.out _ (H5.out.alloc _)).mono ?_; rintro e w1 ⟨rfl, hb1⟩)
  go_ret
  exact ⟨rfl, ((Below.refl _ _).alloc (Nat.le_refl _) _).trans (hb1.mono (by simp))⟩
theorem run_store_float {P : Program} {w : World} {a : Addr} {m : Mode} (k : FloatKind) (b : Nat) : (store a (.float k b) m).run P w = stored P w a (.float k b) m := run_store P w a _ m rfl
attribute [local go_sem] run_store_float
def I36 (k : Int) (raw str : ByteArray) (f : Nat) (x : Bool) : Value := .agg #[.int .i64 k, .string raw, .string str, .float .f64 f, .bool x]
set_option maxHeartbeats 4000000 in
set_option maxRecDepth 100000 in
theorem gjOf_c (k : Int) (raw str : ByteArray) (f : Nat) (x : Bool) (w : World) :
    Calls Tryd.prog 37 #[I36 k raw str f x] w fun e w' => e = .returned (G67 k raw str f) ∧ Below w.heap.size w w' := by
  unfold I36 G67
  go_enter Tryd.func37, Tryd.ntmps37
  go_wp2
  exact bodyPost_ret (v := .agg #[.int .i64 k, .string raw, .string str, .float .f64 f, .int .i64 0, .slice none 0 0]) (by simp [results, Tryd.results37, go_sem]) rfl ⟨rfl, ((Below.refl _ _).alloc (Nat.le_refl _) _).alloc (by simp) _⟩
set_option maxHeartbeats 4000000 in
set_option maxRecDepth 100000 in
theorem gjTrueish_c (k : Int) (raw str : ByteArray) (f : Nat) (x : Bool) (hs : str.size ≤ 140737488351232) (w : World) (h5 : Err5 w) :
    Calls Tryd.prog 16 #[I36 k raw str f x] w fun e w' => e = .returned (.bool (answer k str f)) ∧ Below w.heap.size w w' := by
  have H1 := fun w => gjOf_c k raw str f x w
  have H2 := fun w h5 => door_c k raw str f hs w h5
  have HH := Lib.hid (And.intro H1 H2)
  have H5 := Lib.hid h5
  clear H1 H2 h5
  obtain ⟨b, hb⟩ : ∃ b, answer k str f = b := ⟨_, rfl⟩
  rw [hb] at HH ⊢
  unfold I36 G67 at HH
  unfold I36
  clear hb
  go_enter Tryd.func16, Tryd.ntmps16
  go_wp2_with (first | (go_at_call 37; refine (HH.out.1 _).mono ?_; rintro e w1 ⟨rfl, hb1⟩) | (go_at_call 36; refine (HH.out.2 _ ((H5.out.alloc _).below hb1)).mono ?_; rintro e w2 ⟨rfl, hb2⟩))
  go_ret
  exact ⟨rfl, ((Below.refl _ _).alloc (Nat.le_refl _) _).trans ((hb1.mono (by simp)).trans (hb2.mono (by have := hb1.size; simp at this; omega)))⟩
set_option maxHeartbeats 4000000 in
set_option maxRecDepth 100000 in
theorem fits_yes (k : Int) (raw str : ByteArray) (f : Nat) (x : Bool) (w : World) (h1 : ¬ 2147483647 < raw.size) (h2 : ¬ 2147483647 < str.size) :
    Calls Tryd.prog 15 #[I36 k raw str f x] w fun e w' => e = .returned (.bool true) ∧ Below w.heap.size w w' := by
  unfold I36
  go_enter Tryd.func15, Tryd.ntmps15
  go_wp2
  go_ret
  exact ⟨rfl, (Below.refl _ _).alloc (Nat.le_refl _) _⟩
set_option maxHeartbeats 4000000 in
set_option maxRecDepth 100000 in
theorem fits_no (k : Int) (raw str : ByteArray) (f : Nat) (x : Bool) (w : World) (h : 2147483647 < raw.size ∨ 2147483647 < str.size) :
    Calls Tryd.prog 15 #[I36 k raw str f x] w fun e w' => e = .returned (.bool false) ∧ Below w.heap.size w w' := by
  unfold I36
  by_cases h1 : 2147483647 < raw.size
  · clear h
    go_enter Tryd.func15, Tryd.ntmps15
    go_wp2
    go_ret
    exact ⟨rfl, (Below.refl _ _).alloc (Nat.le_refl _) _⟩
  · have h2 : 2147483647 < str.size := by omega
    clear h
    go_enter Tryd.func15, Tryd.ntmps15
    go_wp2
    go_ret
    exact ⟨rfl, (Below.refl _ _).alloc (Nat.le_refl _) _⟩
theorem fits_c (k : Int) (raw str : ByteArray) (f : Nat) (x : Bool) (w : World) :
    Calls Tryd.prog 15 #[I36 k raw str f x] w fun e w' => e = .returned (.bool (decide (raw.size ≤ 2147483647 ∧ str.size ≤ 2147483647))) ∧ Below w.heap.size w w' := by
  by_cases h : 2147483647 < raw.size ∨ 2147483647 < str.size
  · rw [decide_eq_false (by omega)]
    exact fits_no k raw str f x w h
  · rw [decide_eq_true (by omega)]
    exact fits_yes k raw str f x w (by omega) (by omega)
theorem after_box {a0 a1 a2 a3 a4 : Value} {t : TypeId} {w w1 : World} (hb : Below (w.alloc (.cells #[a0, a1, a2, a3, a4] t)).heap.size (w.alloc (.cells #[a0, a1, a2, a3, a4] t)) w1) :
    w1.cell? ⟨w.heap.size, 0, none⟩ = some a0 ∧ w1.cell? ⟨w.heap.size, 1, none⟩ = some a1 ∧ w1.cell? ⟨w.heap.size, 2, none⟩ = some a2 ∧ w1.cell? ⟨w.heap.size, 3, none⟩ = some a3 ∧ w1.cell? ⟨w.heap.size, 4, none⟩ = some a4 := by
  have h : w1.heap[w.heap.size]? = some (.cells #[a0, a1, a2, a3, a4] t) := by
    rw [hb.block w.heap.size (by simp)]
    exact heap_alloc_new w _
  simp [World.cell?, h]
def Kp (w w' : World) : Prop := Err5 w' ∧ Below w.heap.size w w' ∧ w.heap.size < w'.heap.size
theorem Kp.drew {w w1 : World} (h : Kp w w1) : Kp w w1.drew := ⟨h.1, h.2.1.drew, h.2.2⟩
theorem Kp.below {w w1 w2 : World} (h : Kp w w1) (hb : Below w1.heap.size w1 w2) : Kp w w2 := ⟨h.1.below hb, h.2.1.trans (hb.mono (by have := h.2.2; omega)), by have := h.2.2; have := hb.size; omega⟩
theorem S_step {a0 a1 a2 a3 a4 : Value} {g : Nat} {w w1 w2 : World} (h : w1.cell? ⟨g, 0, none⟩ = some a0 ∧ w1.cell? ⟨g, 1, none⟩ = some a1 ∧ w1.cell? ⟨g, 2, none⟩ = some a2 ∧ w1.cell? ⟨g, 3, none⟩ = some a3 ∧ w1.cell? ⟨g, 4, none⟩ = some a4 ∧ Kp w w1) (hb : Below w1.heap.size w1 w2) :
    w2.cell? ⟨g, 0, none⟩ = some a0 ∧ w2.cell? ⟨g, 1, none⟩ = some a1 ∧ w2.cell? ⟨g, 2, none⟩ = some a2 ∧ w2.cell? ⟨g, 3, none⟩ = some a3 ∧ w2.cell? ⟨g, 4, none⟩ = some a4 ∧ Kp w w2 := by
  obtain ⟨h0, h1, h2, h3, h4, hk⟩ := h
  exact ⟨(hb.cell (p := ⟨g, 0, none⟩) (lt_of_cell h0)).trans h0, (hb.cell (p := ⟨g, 1, none⟩) (lt_of_cell h1)).trans h1, (hb.cell (p := ⟨g, 2, none⟩) (lt_of_cell h2)).trans h2,
    (hb.cell (p := ⟨g, 3, none⟩) (lt_of_cell h3)).trans h3, (hb.cell (p := ⟨g, 4, none⟩) (lt_of_cell h4)).trans h4, hk.below hb⟩
theorem small_range (s : ByteArray) : ∀ x ∈ (Kit.nums s).map smallN, 0 ≤ x ∧ x ≤ 255 := by
  intro x hx
  obtain ⟨c, hc, rfl⟩ := List.mem_map.1 hx
  have := nums_range s c hc
  have := smallN_range this.1 this.2
  omega
theorem Tt_str (l : List Int) (h : ∀ x ∈ l, 0 ≤ x ∧ x ≤ 255) : Tt l ↔ ((strOfNums l).toList = [49] ∨ (strOfNums l).toList = [116] ∨ (strOfNums l).toList = [116, 114, 117, 101]) := by
  rw [Lib.toList_data]
  have hb := back l h
  constructor
  · rintro (rfl | rfl | rfl)
    · exact .inl rfl
    · exact .inr (.inl rfl)
    · exact .inr (.inr rfl)
  · rintro (e | e | e) <;> rw [e] at hb
    · exact .inl hb.symm
    · exact .inr (.inl hb.symm)
    · exact .inr (.inr hb.symm)
theorem small_c (s : ByteArray) (hs : s.size ≤ 140737488351232) (w : World) : Calls Tryd.prog 17 #[.string s] w fun e w' => e = .returned (.string (strOfNums ((Kit.nums s).map smallN))) ∧ Below w.heap.size w w' := spec_Small.walk s w hs
set_option maxHeartbeats 4000000 in
set_option maxRecDepth 100000 in
theorem law_c (k : Int) (raw str : ByteArray) (f : Nat) (x : Bool) (hs : str.size ≤ 140737488351232) (w : World) (h5 : Err5 w) :
    Calls Tryd.prog 5 #[I36 k raw str f x] w fun e w' => e = .returned (.bool true) ∧ Below w.heap.size w w' := by
  have H1 := fun w => fits_c k raw str f x w
  have H2 := fun w h5 => gjTrueish_c k raw str f x hs w h5
  have H3 := fun w => small_c str hs w
  have HH := Lib.hid (And.intro H1 (And.intro H2 H3))
  have H5 := Lib.hid h5
  clear H1 H2 H3 h5
  obtain ⟨b, hb⟩ : ∃ b, answer k str f = b := ⟨_, rfl⟩
  obtain ⟨ft, hft⟩ : ∃ b, decide (raw.size ≤ 2147483647 ∧ str.size ≤ 2147483647) = b := ⟨_, rfl⟩
  obtain ⟨sm, hsm⟩ : ∃ b, strOfNums ((Kit.nums str).map smallN) = b := ⟨_, rfl⟩
  rw [hb, hft, hsm] at HH
  unfold I36 at HH ⊢
  have HB := Lib.hid (And.intro hb (And.intro hft hsm))
  clear hb hft hsm
  go_enter Tryd.func5, Tryd.ntmps5
  go_wp2_with (go_at_call 15; refine (HH.out.1 _).mono ?_; rintro e w1 ⟨rfl, hb1⟩; obtain ⟨c0, c1, c2, c3, c4⟩ := after_box hb1)
  · go_ret
    exact ⟨rfl, ((Below.refl _ _).alloc (Nat.le_refl _) _).trans (hb1.mono (by simp))⟩
  · go_ret
    exact ⟨rfl, ((Below.refl _ _).alloc (Nat.le_refl _) _).trans (hb1.mono (by simp))⟩
  have kp : Kp w w1 := ⟨(H5.out.alloc _).below hb1, ((Below.refl _ _).alloc (Nat.le_refl _) _).trans (hb1.mono (by simp)), lt_of_cell c0⟩
  clear hb1
  go_region_held3 (fun w' => w'.cell? ⟨w.heap.size, 0, none⟩ = some (.int .i64 k) ∧ w'.cell? ⟨w.heap.size, 1, none⟩ = some (.string raw) ∧ w'.cell? ⟨w.heap.size, 2, none⟩ = some (.string str) ∧ w'.cell? ⟨w.heap.size, 3, none⟩ = some (.float .f64 f) ∧ w'.cell? ⟨w.heap.size, 4, none⟩ = some (.bool x) ∧ Kp w w')
    (first | exact ⟨c0, c1, c2, c3, c4, kp.drew⟩ | exact ⟨d0, d1, d2, d3, d4, kp2⟩ | exact ⟨e0, e1, e2, e3, e4, kp3⟩)
    (first | (go_at_call 16; refine (HH.out.2.1 _ kp.drew.1).mono ?_; rintro e w2 ⟨rfl, hb2⟩; obtain ⟨d0, d1, d2, d3, d4, kp2⟩ := S_step (w1 := w1.drew) (w := w) ⟨c0, c1, c2, c3, c4, kp.drew⟩ hb2) | (go_at_call 17; refine (HH.out.2.2 _).mono ?_; rintro e w3 ⟨rfl, hb3⟩; obtain ⟨e0, e1, e2, e3, e4, kp3⟩ := S_step (w := w) ⟨d0, d1, d2, d3, d4, kp2⟩ hb3))
  obtain ⟨hb, hft, hsm⟩ := HB.out
  have hT := Tt_str _ (small_range str)
  rw [hsm] at hT
  have KP := Lib.hid kp3
  clear kp kp2 kp3 hft hsm HH H5 HB c0 c1 c2 c3 c4 d0 d1 d2 d3 d4 hb2 hb3
  by_cases k0 : k = 0
  · subst k0
    obtain rfl : b = false := hb.symm
    clear hT hb
    go_wp2
    go_ret
    exact ⟨rfl, KP.out.2.1⟩
  by_cases k1 : k = 1
  · subst k1
    obtain rfl : b = false := hb.symm
    clear hT hb
    go_wp2
    go_ret
    exact ⟨rfl, KP.out.2.1⟩
  by_cases k2 : k = 2
  · subst k2
    obtain rfl : b = fne f := hb.symm
    clear hT hb
    unfold fne
    go_wp2
    go_ret
    exact ⟨rfl, KP.out.2.1⟩
  by_cases k4 : k = 4
  · subst k4
    obtain rfl : b = true := hb.symm
    clear hT hb
    go_wp2
    go_ret
    exact ⟨rfl, KP.out.2.1⟩
  by_cases k3 : k = 3
  · subst k3
    have hb' : b = decide (Tt ((Kit.nums str).map smallN)) := hb.symm
    by_cases s1 : sm.toList = [49]
    · obtain rfl : b = true := by rw [hb', decide_eq_true (hT.2 (.inl s1))]
      clear hT hb hb'
      go_wp2
      go_ret
      exact ⟨rfl, KP.out.2.1⟩
    by_cases s2 : sm.toList = [116]
    · obtain rfl : b = true := by rw [hb', decide_eq_true (hT.2 (.inr (.inl s2)))]
      clear hT hb hb'
      go_wp2
      go_ret
      exact ⟨rfl, KP.out.2.1⟩
    by_cases s3 : sm.toList = [116, 114, 117, 101]
    · obtain rfl : b = true := by rw [hb', decide_eq_true (hT.2 (.inr (.inr s3)))]
      clear hT hb hb'
      go_wp2
      go_ret
      exact ⟨rfl, KP.out.2.1⟩
    · obtain rfl : b = false := by rw [hb', decide_eq_false (fun e => by rcases hT.1 e with e | e | e <;> contradiction)]
      clear hT hb hb'
      go_wp2
      go_ret
      exact ⟨by simp [s1, s2, s3], KP.out.2.1⟩
  · clear hT hb
    go_wp2
    go_ret
    exact ⟨rfl, KP.out.2.1⟩

theorem err5_of {w : World} {l : List (String × DataW Unit)} (hp : (l.all fun x => x.2.handleName?.isNone) = true) (h1 : ("strconv.ErrSyntax", Rows.laid_strconv_ErrSyntax) ∈ l) (hL : laidMetH Tryd.prog l w) : Err5 w := by
  rw [MakeChecks.laidMetH_plain _ _ _ hp] at hL
  obtain ⟨g, t, cs, fuel, p, hg, hty, hvar, hd⟩ := Lib.laidMet.reads hL h1
  obtain rfl : 5 = g := Option.some.inj ((show Tryd.prog.globalNamed "strconv.ErrSyntax" = some 5 by kernel_rfl).symm.trans hg)
  obtain rfl : 82 = t := Option.some.inj ((show (Tryd.prog.globals[5]?).map (·.type) = some 82 by kernel_rfl).symm.trans hty)
  obtain ⟨f1, u, v, hcs, _⟩ := iface_of_trod Tryd.underlying82 hd
  refine ⟨u, v, ?_⟩
  rw [World.var?_cell hg hvar 0, ← Array.getElem?_toList, hcs]
  rfl
theorem trueish_walk (k : Int) (raw str : ByteArray) (f : Nat) (x : Bool) (hs : str.size ≤ 140737488351232) (w : World) (hL : laidMetH Tryd.prog Rows.fnGjTrueishRow.laid w) :
    Calls Tryd.prog 5 #[.agg #[.int .i64 k, .string raw, .string str, .float .f64 f, .bool x]] w fun e w' => e = .returned (.bool true) ∧ Below w.heap.size w w' :=
  law_c k raw str f x hs w (err5_of (by kernel_rfl) (.tail _ (.tail _ (.tail _ (.tail _ (.head _))))) hL)
end Go.Proofs.YtphpjboljlkdkaaDoor
