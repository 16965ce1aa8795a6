/- A reader of JSON texts in plain words, and jsonparser's readers: what needs no printed type (laid by mk_base.py). -/
import Derived.Test.YtgbliniamkpocaaDoorKit
namespace Go.Proofs.YtgbliniamkpocaaDoor.Jp
/-! ### A reader of JSON texts over the bytes: plain functions -/
def gb (L : List Int) (i : Nat) : Int := L.getD i 0
theorem gb_out {L : List Int} {i : Nat} (h : L.length ≤ i) : gb L i = 0 := by simp [gb, List.getD, List.getElem?_eq_none h]
theorem gb_in {L : List Int} {i : Nat} (h : gb L i ≠ 0) : i < L.length := Nat.lt_of_not_le fun h2 => h (gb_out h2)
def isBlank (c : Int) : Prop := c = 32 ∨ c = 9 ∨ c = 10 ∨ c = 13
instance (c : Int) : Decidable (isBlank c) := by unfold isBlank; infer_instance
def isDig (c : Int) : Prop := 48 ≤ c ∧ c ≤ 57
instance (c : Int) : Decidable (isDig c) := by unfold isDig; infer_instance
def isHex (c : Int) : Prop := (48 ≤ c ∧ c ≤ 57) ∨ (97 ≤ c ∧ c ≤ 102) ∨ (65 ≤ c ∧ c ≤ 70)
instance (c : Int) : Decidable (isHex c) := by unfold isHex; infer_instance
def isShort (c : Int) : Prop := c = 34 ∨ c = 92 ∨ c = 47 ∨ c = 98 ∨ c = 102 ∨ c = 110 ∨ c = 114 ∨ c = 116
instance (c : Int) : Decidable (isShort c) := by unfold isShort; infer_instance
theorem blank_in {L : List Int} {i : Nat} (h : isBlank (gb L i)) : i < L.length := gb_in (by unfold isBlank at h; omega)
theorem dig_in {L : List Int} {i : Nat} (h : isDig (gb L i)) : i < L.length := gb_in (by unfold isDig at h; omega)
theorem hex_in {L : List Int} {i : Nat} (h : isHex (gb L i)) : i < L.length := gb_in (by unfold isHex at h; omega)
theorem short_in {L : List Int} {i : Nat} (h : isShort (gb L i)) : i < L.length := gb_in (by unfold isShort at h; omega)
/-- The first place from i on that is no blank. -/
def bl (L : List Int) (i : Nat) : Nat := if h : isBlank (gb L i) then bl L (i + 1) else i
termination_by L.length - i
decreasing_by have := blank_in h; omega
/-- The first place from i on that is no digit. -/
def dg (L : List Int) (i : Nat) : Nat := if h : isDig (gb L i) then dg L (i + 1) else i
termination_by L.length - i
decreasing_by have := dig_in h; omega
/-- Behind what stands behind a backslash. -/
def escE (L : List Int) (i : Nat) : Option Nat :=
  if isShort (gb L i) then some (i + 1)
  else if gb L i = 117 then (if isHex (gb L (i + 1)) ∧ isHex (gb L (i + 2)) ∧ isHex (gb L (i + 3)) ∧ isHex (gb L (i + 4)) then some (i + 5) else none)
  else none
theorem escE_le {L : List Int} {i j : Nat} (h : escE L i = some j) : i < j ∧ j ≤ L.length := by
  unfold escE at h
  split at h
  · rename_i h1
    have := short_in h1
    injection h with h
    omega
  · split at h
    · split at h
      · rename_i h1
        have := hex_in h1.2.2.2
        injection h with h
        omega
      · cases h
    · cases h
/-- Behind the quotation mark that ends a string, from inside of it. -/
def st (L : List Int) (i : Nat) : Option Nat :=
  if hi : i < L.length then
    if gb L i = 34 then some (i + 1)
    else if gb L i < 32 then none
    else if gb L i = 92 then
      match _h : escE L (i + 1) with
      | none => none
      | some j => st L j
    else st L (i + 1)
  else none
termination_by L.length - i
decreasing_by
  · have := escE_le _h; omega
  · omega
/-- Is there this byte at a place. -/
def at_ (L : List Int) (i : Nat) (c : Int) : Prop := i < L.length ∧ gb L i = c
instance (L : List Int) (i : Nat) (c : Int) : Decidable (at_ L i c) := by unfold at_; infer_instance
/-- The end of a number's exponent, of its fraction, of a number. -/
def signE (L : List Int) (i : Nat) : Nat := if at_ L i 43 ∨ at_ L i 45 then i + 1 else i
def expE (L : List Int) (i : Nat) : Option Nat :=
  if at_ L i 101 ∨ at_ L i 69 then (if signE L (i + 1) < dg L (signE L (i + 1)) then some (dg L (signE L (i + 1))) else none) else some i
def fracE (L : List Int) (i : Nat) : Option Nat :=
  if at_ L i 46 then (if i + 1 < dg L (i + 1) then expE L (dg L (i + 1)) else none) else expE L i
def minusE (L : List Int) (i : Nat) : Nat := if at_ L i 45 then i + 1 else i
def numE (L : List Int) (i : Nat) : Option Nat :=
  if at_ L (minusE L i) 48 then fracE L (minusE L i + 1) else if minusE L i < dg L (minusE L i) then fracE L (dg L (minusE L i)) else none
def wordE (L : List Int) (i : Nat) (w : List Int) : Prop := (L.drop i).take w.length = w
instance (L : List Int) (i : Nat) (w : List Int) : Decidable (wordE L i w) := by unfold wordE; infer_instance

/-! ### jsonparser's readers in plain words: where a string ends, where a block ends -/
theorem gb_take {L : List Int} {i cut : Nat} (h : i < cut) : gb (L.take cut) i = gb L i := by
  simp [gb, List.getD, h]
def qe (L : List Int) (i : Nat) (odd : Bool) : Option Nat :=
  if _h : i < L.length then
    if gb L i = 34 ∧ odd = false then some (i + 1) else qe L (i + 1) (decide (gb L i = 92) && !odd)
  else none
termination_by L.length - i
theorem qe_out {L : List Int} {i : Nat} {o : Bool} (h : L.length ≤ i) : qe L i o = none := by rw [qe, dif_neg (by omega)]
theorem qe_mark {L : List Int} {i : Nat} (h : i < L.length) (e : gb L i = 34) : qe L i false = some (i + 1) := by rw [qe, dif_pos h, if_pos ⟨e, rfl⟩]
theorem qe_esc {L : List Int} {i : Nat} (h : i < L.length) (e : gb L i = 92) : qe L i false = qe L (i + 1) true := by
  rw [qe, dif_pos h, if_neg (by omega)]
  simp [e]
theorem qe_odd {L : List Int} {i : Nat} (h : i < L.length) : qe L i true = qe L (i + 1) false := by
  rw [qe, dif_pos h, if_neg (by simp)]
  simp
theorem qe_skip {L : List Int} {i : Nat} (h : i < L.length) (h1 : gb L i ≠ 34) (h2 : gb L i ≠ 92) : qe L i false = qe L (i + 1) false := by
  rw [qe, dif_pos h, if_neg (by omega)]
  simp [h2]
theorem qe_le (L : List Int) : ∀ (d i j : Nat) (o : Bool), L.length - i ≤ d → qe L i o = some j → i < j ∧ j ≤ L.length := by
  intro d
  induction d with
  | zero =>
    intro i j o hd h
    rw [qe_out (by omega)] at h
    cases h
  | succ d ih =>
    intro i j o hd h
    rw [qe] at h
    split at h
    · split at h
      · injection h with h
        omega
      · have := ih (i + 1) j _ (by omega) h
        omega
    · cases h
theorem qe_cut (L : List Int) (cut : Nat) : ∀ (d i j : Nat) (o : Bool), L.length - i ≤ d → qe L i o = some j → cut < j → qe (L.take cut) i o = none := by
  intro d
  induction d with
  | zero =>
    intro i j o hd h
    rw [qe_out (by omega)] at h
    cases h
  | succ d ih =>
    intro i j o hd h hc
    by_cases hi : i < cut
    · rw [qe] at h
      split at h
      · rename_i hl
        rw [qe, dif_pos (by rw [List.length_take]; omega), gb_take hi]
        split at h
        · injection h with h
          omega
        · rename_i hn
          rw [if_neg hn]
          exact ih (i + 1) j _ (by omega) h hc
      · cases h
    · exact qe_out (by rw [List.length_take]; omega)
theorem qe_take (L : List Int) (cut : Nat) : ∀ (d i j : Nat) (o : Bool), L.length - i ≤ d → qe L i o = some j → j ≤ cut → qe (L.take cut) i o = some j := by
  intro d
  induction d with
  | zero =>
    intro i j o hd h
    rw [qe_out (by omega)] at h
    cases h
  | succ d ih =>
    intro i j o hd h hc
    have hj := qe_le L _ i j o (Nat.le_refl _) h
    rw [qe] at h
    split at h
    · rename_i hl
      rw [qe, dif_pos (by rw [List.length_take]; omega), gb_take (by omega)]
      split at h
      · rename_i hn
        rw [if_pos hn]
        exact h
      · rename_i hn
        rw [if_neg hn]
        exact ih (i + 1) j _ (by omega) h hc
    · cases h
/-- The end of a string of a JSON text is where jsonparser finds it. -/
theorem st_qe (L : List Int) : ∀ (d i j : Nat), L.length - i ≤ d → st L i = some j → qe L i false = some j := by
  intro d
  induction d with
  | zero =>
    intro i j hd h
    rw [st, dif_neg (by omega)] at h
    cases h
  | succ d ih =>
    intro i j hd h
    rw [st] at h
    split at h
    · rename_i hl
      split at h
      · rename_i e
        rw [qe_mark hl e]
        exact h
      · rename_i n34
        split at h
        · cases h
        · split at h
          · rename_i e92
            split at h
            · cases h
            · rename_i k hk
              have hr := ih k j (by have := escE_le hk; omega) h
              rw [qe_esc hl e92, ← hr]
              unfold escE at hk
              split at hk
              · rename_i hs
                have := short_in hs
                injection hk with hk
                subst hk
                exact qe_odd this
              · split at hk
                · rename_i e117
                  split at hk
                  · rename_i hx
                    injection hk with hk
                    subst hk
                    obtain ⟨x1, x2, x3, x4⟩ := hx
                    have l1 := hex_in x1
                    have l2 := hex_in x2
                    have l3 := hex_in x3
                    have l4 := hex_in x4
                    have sk : ∀ k, isHex (gb L k) → gb L k ≠ 34 ∧ gb L k ≠ 92 := fun k hk => by unfold isHex at hk; omega
                    rw [qe_odd (by omega), qe_skip l1 (sk _ x1).1 (sk _ x1).2, qe_skip l2 (sk _ x2).1 (sk _ x2).2, qe_skip l3 (sk _ x3).1 (sk _ x3).2, qe_skip l4 (sk _ x4).1 (sk _ x4).2]
                  · cases hk
                · cases hk
          · rename_i n92
            rw [qe_skip hl n34 n92]
            exact ih (i + 1) j (by omega) h
    · cases h
/-- Behind the bracket that closes a block: v the level. -/
def be (L : List Int) (o c : Int) (i : Nat) (v : Int) : Option Nat :=
  if _h : i < L.length then
    if gb L i = 34 then
      match _hq : qe L (i + 1) false with
      | none => none
      | some j => be L o c j v
    else if gb L i = o then be L o c (i + 1) (v + 1)
    else if gb L i = c then (if v - 1 = 0 then some (i + 1) else be L o c (i + 1) (v - 1))
    else be L o c (i + 1) v
  else none
termination_by L.length - i
decreasing_by
  · have := qe_le L _ _ _ _ (Nat.le_refl _) _hq; omega
  all_goals omega
theorem be_out {L : List Int} {o c : Int} {i : Nat} {v : Int} (h : L.length ≤ i) : be L o c i v = none := by rw [be, dif_neg (by omega)]
theorem be_str {L : List Int} {o c : Int} {i j : Nat} {v : Int} (h : i < L.length) (e : gb L i = 34) (hq : qe L (i + 1) false = some j) : be L o c i v = be L o c j v := by
  rw [be, dif_pos h, if_pos e]
  split
  · rename_i h2
    rw [hq] at h2
    cases h2
  · rename_i k h2
    rw [hq] at h2
    injection h2 with h2
    rw [h2]
theorem be_str_no {L : List Int} {o c : Int} {i : Nat} {v : Int} (h : i < L.length) (e : gb L i = 34) (hq : qe L (i + 1) false = none) : be L o c i v = none := by
  rw [be, dif_pos h, if_pos e]
  split
  · rfl
  · rename_i k h2
    rw [hq] at h2
    cases h2
/-- The two kinds of brackets. -/
def OC (o c : Int) : Prop := (o = 91 ∧ c = 93) ∨ (o = 123 ∧ c = 125)
/-- What is neither a quotation mark nor a bracket. -/
def Pl (c : Int) : Prop := c ≠ 34 ∧ c ≠ 91 ∧ c ≠ 93 ∧ c ≠ 123 ∧ c ≠ 125
section
variable {L : List Int} {o c : Int}
theorem be_open {i : Nat} {v : Int} (hoc : OC o c) (h : at_ L i o) : be L o c i v = be L o c (i + 1) (v + 1) := by
  obtain ⟨h1, h2⟩ := h
  unfold OC at hoc
  rw [be, dif_pos h1, if_neg (by omega), if_pos h2]
theorem be_close {i : Nat} {v : Int} (hoc : OC o c) (h : at_ L i c) (hv : v ≠ 1) : be L o c i v = be L o c (i + 1) (v - 1) := by
  obtain ⟨h1, h2⟩ := h
  unfold OC at hoc
  rw [be, dif_pos h1, if_neg (by omega), if_neg (by omega), if_pos h2, if_neg (by omega)]
theorem be_end {i : Nat} (hoc : OC o c) (h : at_ L i c) : be L o c i 1 = some (i + 1) := by
  obtain ⟨h1, h2⟩ := h
  unfold OC at hoc
  rw [be, dif_pos h1, if_neg (by omega), if_neg (by omega), if_pos h2, if_pos (by omega)]
theorem be_other {i : Nat} {v : Int} (h : i < L.length) (h1 : gb L i ≠ 34) (h2 : gb L i ≠ o) (h3 : gb L i ≠ c) : be L o c i v = be L o c (i + 1) v := by
  rw [be, dif_pos h, if_neg h1, if_neg h2, if_neg h3]
theorem be_plain {i : Nat} {v : Int} (hoc : OC o c) (h : i < L.length) (hp : Pl (gb L i)) : be L o c i v = be L o c (i + 1) v := by
  unfold OC at hoc
  unfold Pl at hp
  exact be_other h hp.1 (by omega) (by omega)
theorem be_run (hoc : OC o c) {v : Int} : ∀ (d i e : Nat), e - i = d → i ≤ e → e ≤ L.length → (∀ k, i ≤ k → k < e → Pl (gb L k)) → be L o c i v = be L o c e v := by
  intro d
  induction d with
  | zero =>
    intro i e hd h1 h2 hp
    obtain rfl : i = e := by omega
    rfl
  | succ d ih =>
    intro i e hd h1 h2 hp
    rw [be_plain hoc (by omega) (hp i (Nat.le_refl _) (by omega))]
    exact ih (i + 1) e (by omega) (by omega) h2 (fun k hk => hp k (by omega))
theorem be_cut (cut : Nat) : ∀ (d i e : Nat) (v : Int), L.length - i ≤ d → be L o c i v = some e → cut < e → be (L.take cut) o c i v = none := by
  intro d
  induction d with
  | zero =>
    intro i e v hd h
    rw [be_out (by omega)] at h
    cases h
  | succ d ih =>
    intro i e v hd h hc
    by_cases hi : i < cut
    · by_cases hl : i < L.length
      · have hlt : i < (L.take cut).length := by rw [List.length_take]; omega
        by_cases h34 : gb L i = 34
        · have g34 : gb (L.take cut) i = 34 := by rw [gb_take hi]; exact h34
          cases hq : qe L (i + 1) false with
          | none =>
            rw [be_str_no hl h34 hq] at h
            cases h
          | some j =>
            rw [be_str hl h34 hq] at h
            have hj := qe_le L _ _ _ _ (Nat.le_refl _) hq
            by_cases hjc : cut < j
            · exact be_str_no hlt g34 (qe_cut L cut _ _ _ _ (Nat.le_refl _) hq hjc)
            · rw [be_str hlt g34 (qe_take L cut _ _ _ _ (Nat.le_refl _) hq (by omega))]
              exact ih j e v (by omega) h hc
        · rw [be, dif_pos hl, if_neg h34] at h
          rw [be, dif_pos hlt, gb_take hi, if_neg h34]
          split at h
          · rename_i h1
            rw [if_pos h1]
            exact ih (i + 1) e _ (by omega) h hc
          · rename_i h1
            rw [if_neg h1]
            split at h
            · rename_i h2
              rw [if_pos h2]
              split at h
              · injection h with h
                omega
              · rename_i h3
                rw [if_neg h3]
                exact ih (i + 1) e _ (by omega) h hc
            · rename_i h2
              rw [if_neg h2]
              exact ih (i + 1) e _ (by omega) h hc
      · rw [be_out (by omega)] at h
        cases h
    · exact be_out (by rw [List.length_take]; omega)
end
theorem be_le (l : List Int) (o c : Int) : ∀ (d i j : Nat) (v : Int), l.length - i ≤ d → be l o c i v = some j → i < j ∧ j ≤ l.length := by
  intro d
  induction d with
  | zero =>
    intro i j v hd h
    rw [be_out (by omega)] at h
    cases h
  | succ d ih =>
    intro i j v hd h
    by_cases hi : i < l.length
    · by_cases h34 : gb l i = 34
      · cases hqe : qe l (i + 1) false with
        | none =>
          rw [be_str_no hi h34 hqe] at h
          cases h
        | some k =>
          have hk := qe_le l _ _ _ _ (Nat.le_refl _) hqe
          rw [be_str hi h34 hqe] at h
          have := ih k j v (by omega) h
          omega
      · rw [be, dif_pos hi, if_neg h34] at h
        split at h
        · have := ih _ _ _ (by omega) h
          omega
        · split at h
          · split at h
            · injection h with h
              omega
            · have := ih _ _ _ (by omega) h
              omega
          · have := ih _ _ _ (by omega) h
            omega
    · rw [be_out (by omega)] at h
      cases h
/-! ### Where a number, a word ends for jsonparser -/
/-- What ends a number or a word. -/
def isDl (c : Int) : Prop := c = 32 ∨ c = 10 ∨ c = 13 ∨ c = 9 ∨ c = 44 ∨ c = 125 ∨ c = 93
instance (c : Int) : Decidable (isDl c) := by unfold isDl; infer_instance
def te (l : List Int) (i : Nat) : Nat := if _h : i < l.length ∧ ¬ isDl (gb l i) then te l (i + 1) else i
termination_by l.length - i
theorem te_go {l : List Int} {i : Nat} (h : i < l.length) (h2 : ¬ isDl (gb l i)) : te l i = te l (i + 1) := by rw [te, dif_pos ⟨h, h2⟩]
theorem te_stop {l : List Int} {i : Nat} (h : l.length ≤ i ∨ isDl (gb l i)) : te l i = i := by
  rw [te, dif_neg]
  rintro ⟨h1, h2⟩
  rcases h with h | h
  · omega
  · exact h2 h
theorem te_le (l : List Int) : ∀ (d i : Nat), l.length - i ≤ d → i ≤ l.length → i ≤ te l i ∧ te l i ≤ l.length := by
  intro d
  induction d with
  | zero =>
    intro i hd hi
    rw [te_stop (.inl (by omega))]
    omega
  | succ d ih =>
    intro i hd hi
    by_cases h : i < l.length ∧ ¬ isDl (gb l i)
    · rw [te_go h.1 h.2]
      have := ih (i + 1) (by omega) (by omega)
      omega
    · rw [te_stop (by by_cases h1 : i < l.length; (right; exact Classical.byContradiction (fun h2 => h ⟨h1, h2⟩)); (left; omega))]
      omega
theorem te_end {l : List Int} : ∀ (d i e : Nat), e - i = d → i ≤ e → e ≤ l.length → (∀ k, i ≤ k → k < e → ¬ isDl (gb l k)) → (e = l.length ∨ isDl (gb l e)) → te l i = e := by
  intro d
  induction d with
  | zero =>
    intro i e hd h1 h2 hk he
    obtain rfl : i = e := by omega
    exact te_stop (he.imp (fun h => by omega) id)
  | succ d ih =>
    intro i e hd h1 h2 hk he
    rw [te_go (by omega) (hk i (Nat.le_refl _) (by omega))]
    exact ih (i + 1) e (by omega) (by omega) h2 (fun k hk1 hk2 => hk k (by omega) hk2) he
/-- The value at off, as getTypeConfig has it: of kind k up to e. -/
def Gtv (L : List Int) (off : Nat) (k : Int) (e : Nat) : Prop :=
  (gb L off = 34 ∧ k = 1 ∧ qe L (off + 1) false = some e) ∨ (gb L off = 91 ∧ k = 4 ∧ be L 91 93 off 0 = some e) ∨ (gb L off = 123 ∧ k = 3 ∧ be L 123 125 off 0 = some e) ∨
  ((gb L off = 45 ∨ (48 ≤ gb L off ∧ gb L off ≤ 57)) ∧ k = 2 ∧ te L off = e) ∨
  ((L.take (te L off)).drop off = [116, 114, 117, 101] ∧ k = 5 ∧ te L off = e) ∨ ((L.take (te L off)).drop off = [102, 97, 108, 115, 101] ∧ k = 5 ∧ te L off = e) ∨
  ((L.take (te L off)).drop off = [110, 117, 108, 108] ∧ k = 6 ∧ te L off = e)
end Go.Proofs.YtgbliniamkpocaaDoor.Jp
