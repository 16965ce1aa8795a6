/- A JSON text within a longer one. -/
import Derived.Test.YtgbliniamkpocaaDoorPureFd
namespace Go.Proofs.YtgbliniamkpocaaDoor.Pure
open Go.RowKit Go.Proofs.YtgbliniamkpocaaDoor.PPl Go.Proofs.YtgbliniamkpocaaDoor.Jp
/-! ### A text within another one -/
def NumC (c : Int) : Prop := isDig c ∨ c = 46 ∨ c = 101 ∨ c = 69 ∨ c = 43 ∨ c = 45
section
variable {L M : List Int} {o : Nat} (hE : ∀ i, i < L.length → gb M (i + o) = gb L i) (hM : L.length + o ≤ M.length)
include hE hM in
theorem e_at {i : Nat} {c : Int} (h : at_ L i c) : at_ M (i + o) c := ⟨by have := h.1; omega, by rw [hE i h.1]; exact h.2⟩
include hE in
theorem e_not {i : Nat} {c : Int} (hi : i < L.length) (h : ¬ at_ L i c) : ¬ at_ M (i + o) c := fun h2 => h ⟨hi, by rw [← hE i hi]; exact h2.2⟩
include hE in
theorem e_notT {i : Nat} {c : Int} (hi : i ≤ L.length) (hT : i < L.length ∨ gb M (L.length + o) ≠ c) (h : ¬ at_ L i c) : ¬ at_ M (i + o) c := by
  by_cases hlt : i < L.length
  · exact e_not hE hlt h
  · obtain rfl : i = L.length := by omega
    exact fun h2 => (hT.resolve_left hlt) h2.2
include hE in
theorem e_bl : ∀ (d i : Nat), L.length - i ≤ d → bl L i < L.length → bl M (i + o) = bl L i + o := by
  intro d
  induction d with
  | zero =>
    intro i hd h
    rw [bl, dif_neg (fun hb => by have := blank_in hb; omega)] at h
    omega
  | succ d ih =>
    intro i hd h
    by_cases hb : isBlank (gb L i)
    · have hlt := blank_in hb
      have e1 : bl L i = bl L (i + 1) := by rw [bl, dif_pos hb]
      rw [e1] at h ⊢
      have hb' : isBlank (gb M (i + o)) := by rw [hE i hlt]; exact hb
      rw [bl, dif_pos hb', show i + o + 1 = (i + 1) + o by omega, ih (i + 1) (by omega) h]
    · have hi : bl L i = i := by rw [bl, dif_neg hb]
      rw [hi] at h ⊢
      rw [bl, dif_neg (by rw [hE i h]; exact hb)]
include hE in
theorem e_dg : ∀ (d i : Nat), L.length - i ≤ d → i ≤ L.length → (dg L i < L.length ∨ ¬ isDig (gb M (L.length + o))) → dg M (i + o) = dg L i + o := by
  intro d
  induction d with
  | zero =>
    intro i hd hi hT
    have h1 : ¬ isDig (gb L i) := fun hb => by have := dig_in hb; omega
    have h2 : dg L i = i := by rw [dg, dif_neg h1]
    rw [h2] at hT ⊢
    obtain rfl : i = L.length := by omega
    rw [dg, dif_neg (hT.resolve_left (by omega))]
  | succ d ih =>
    intro i hd hi hT
    by_cases hb : isDig (gb L i)
    · have hlt := dig_in hb
      have h2 : dg L i = dg L (i + 1) := by rw [dg, dif_pos hb]
      rw [h2] at hT ⊢
      rw [dg, dif_pos (by rw [hE i hlt]; exact hb), show i + o + 1 = (i + 1) + o by omega, ih (i + 1) (by omega) (by omega) hT]
    · have h2 : dg L i = i := by rw [dg, dif_neg hb]
      rw [h2] at hT ⊢
      by_cases hlt : i < L.length
      · rw [dg, dif_neg (by rw [hE i hlt]; exact hb)]
      · obtain rfl : i = L.length := by omega
        rw [dg, dif_neg (hT.resolve_left (by omega))]
include hE in
theorem e_esc {i j : Nat} (h : escE L i = some j) : escE M (i + o) = some (j + o) := by
  unfold escE at h ⊢
  split at h
  · rename_i h1
    have hlt := short_in h1
    injection h with h
    rw [if_pos (by rw [hE i hlt]; exact h1)]
    congr 1
    omega
  · rename_i h1
    split at h
    · rename_i h2
      have hlt : i < L.length := gb_in (by rw [h2]; decide)
      split at h
      · rename_i h3
        injection h with h
        obtain ⟨x1, x2, x3, x4⟩ := h3
        have y1 := hex_in x1
        have y2 := hex_in x2
        have y3 := hex_in x3
        have y4 := hex_in x4
        rw [if_neg (by rw [hE i hlt]; exact h1), if_pos (by rw [hE i hlt]; exact h2), if_pos ⟨by rw [show i + o + 1 = (i + 1) + o by omega, hE _ y1]; exact x1, by rw [show i + o + 2 = (i + 2) + o by omega, hE _ y2]; exact x2, by rw [show i + o + 3 = (i + 3) + o by omega, hE _ y3]; exact x3, by rw [show i + o + 4 = (i + 4) + o by omega, hE _ y4]; exact x4⟩]
        congr 1
        omega
      · cases h
    · cases h
include hE hM in
theorem e_st : ∀ (d i j : Nat), L.length - i ≤ d → st L i = some j → st M (i + o) = some (j + o) := by
  intro d
  induction d with
  | zero =>
    intro i j hd h
    rw [st, dif_neg (by omega)] at h
    cases h
  | succ d ih =>
    intro i j hd h
    rw [st] at h
    split at h
    · rename_i hlt
      have hg := hE i hlt
      rw [st, dif_pos (by omega), hg]
      split at h
      · rename_i h1
        injection h with h
        rw [if_pos h1]
        congr 1
        omega
      · rename_i h1
        rw [if_neg h1]
        split at h
        · cases h
        · rename_i h2
          rw [if_neg h2]
          split at h
          · rename_i h3
            rw [if_pos h3]
            split at h
            · cases h
            · rename_i m hm
              have hme := escE_le hm
              have hm' := e_esc hE hm
              rw [show i + 1 + o = i + o + 1 by omega] at hm'
              split
              · rename_i hn
                rw [hm'] at hn
                cases hn
              · rename_i m' hn
                rw [hm'] at hn
                injection hn with hn
                rw [← hn]
                exact ih m j (by omega) h
          · rename_i h3
            rw [if_neg h3, show i + o + 1 = (i + 1) + o by omega]
            exact ih (i + 1) j (by omega) h
    · cases h
include hE hM in
theorem e_sign {i : Nat} (hi : i < L.length) : signE M (i + o) = signE L i + o := by
  unfold signE
  by_cases h : at_ L i 43 ∨ at_ L i 45
  · rw [if_pos h, if_pos (h.imp (e_at hE hM) (e_at hE hM))]
    omega
  · rw [if_neg h, if_neg (fun h2 => h2.elim (e_not hE hi (fun h1 => h (.inl h1))) (e_not hE hi (fun h1 => h (.inr h1))))]
include hE hM in
theorem e_exp {i e : Nat} (hi : i ≤ L.length) (h : expE L i = some e) (hT : e < L.length ∨ ¬ NumC (gb M (L.length + o))) : expE M (i + o) = some (e + o) := by
  unfold expE at h ⊢
  split at h
  · rename_i h1
    have hil : i < L.length := h1.elim (fun h => h.1) (fun h => h.1)
    rw [if_pos (h1.imp (e_at hE hM) (e_at hE hM))]
    split at h
    · rename_i h2
      injection h with h
      subst h
      have hs := signE_le (L := L) (i := i + 1) (by omega)
      have hl : i + 1 < L.length := by
        rcases Nat.lt_or_ge (i + 1) L.length with h | h
        · exact h
        · exfalso
          have hd : ¬ isDig (gb L (signE L (i + 1))) := fun hb => by have := dig_in hb; omega
          rw [dg, dif_neg hd] at h2
          omega
      have hd := e_dg hE _ (signE L (i + 1)) (Nat.le_refl _) hs.2 (hT.imp id (fun h hb => h (.inl hb)))
      rw [show i + o + 1 = (i + 1) + o by omega, e_sign hE hM hl, hd, if_pos (by omega)]
    · cases h
  · rename_i h1
    injection h with h
    subst h
    rw [if_neg (fun h2 => h2.elim (e_notT hE hi (hT.imp id (fun h e => h (by rw [e]; exact .inr (.inr (.inl rfl))))) (fun h => h1 (.inl h))) (e_notT hE hi (hT.imp id (fun h e => h (by rw [e]; exact .inr (.inr (.inr (.inl rfl)))))) (fun h => h1 (.inr h))))]
include hE hM in
theorem e_frac {i e : Nat} (hi : i ≤ L.length) (h : fracE L i = some e) (hT : e < L.length ∨ ¬ NumC (gb M (L.length + o))) : fracE M (i + o) = some (e + o) := by
  unfold fracE at h ⊢
  split at h
  · rename_i h1
    have hil := h1.1
    rw [if_pos (e_at hE hM h1)]
    split at h
    · rename_i h2
      have hl := dg_le L (i + 1) (by omega)
      have he := expE_le hl.2 h
      have hd := e_dg hE _ (i + 1) (Nat.le_refl _) (by omega) (by
        rcases Nat.lt_or_ge (dg L (i + 1)) L.length with h | h
        · exact .inl h
        · exact .inr (fun hb => (hT.resolve_left (by omega)) (.inl hb)))
      rw [show i + o + 1 = (i + 1) + o by omega, hd, if_pos (by omega)]
      exact e_exp hE hM hl.2 h hT
    · cases h
  · rename_i h1
    have he := expE_le hi h
    rw [if_neg (e_notT hE hi (by
      rcases Nat.lt_or_ge i L.length with h | h
      · exact .inl h
      · exact .inr (fun e => (hT.resolve_left (by omega)) (by rw [e]; exact .inr (.inl rfl)))) h1)]
    exact e_exp hE hM hi h hT
include hE hM in
theorem e_num {i e : Nat} (hi : i < L.length) (h : numE L i = some e) (hT : e < L.length ∨ ¬ NumC (gb M (L.length + o))) : numE M (i + o) = some (e + o) := by
  have hm : minusE M (i + o) = minusE L i + o := by
    unfold minusE
    by_cases h : at_ L i 45
    · rw [if_pos h, if_pos (e_at hE hM h)]
      omega
    · rw [if_neg h, if_neg (e_not hE hi h)]
  have hml := minusE_le (L := L) (i := i) (by omega)
  unfold numE at h ⊢
  rw [hm]
  split at h
  · rename_i h1
    have := h1.1
    rw [if_pos (e_at hE hM h1), show minusE L i + o + 1 = (minusE L i + 1) + o by omega]
    exact e_frac hE hM (by omega) h hT
  · rename_i h1
    split at h
    · rename_i h2
      have hl := dg_le L (minusE L i) hml.2
      have he := fracE_le hl.2 h
      have hlt : minusE L i < L.length := by omega
      have hd := e_dg hE _ (minusE L i) (Nat.le_refl _) hml.2 (by
        rcases Nat.lt_or_ge (dg L (minusE L i)) L.length with h | h
        · exact .inl h
        · exact .inr (fun hb => (hT.resolve_left (by omega)) (.inl hb)))
      rw [if_neg (e_not hE hlt h1), hd, if_pos (by omega)]
      exact e_frac hE hM hl.2 h hT
    · cases h
include hE hM in
theorem e_word {i : Nat} {w : List Int} (hi : i ≤ L.length) (h : wordE L i w) : wordE M (i + o) w := by
  have hl := wordE_le h hi
  unfold wordE at h ⊢
  apply List.ext_getElem?
  intro k
  by_cases hk : k < w.length
  · have hh := congrArg (fun l => l[k]?) h
    simp only [List.getElem?_take_of_lt hk, List.getElem?_drop] at hh ⊢
    rw [← hh]
    have h1 : i + k < L.length := by omega
    have h2 : i + o + k < M.length := by omega
    have hg := hE (i + k) h1
    unfold gb at hg
    rw [List.getD_eq_getElem?_getD, List.getD_eq_getElem?_getD, show i + k + o = i + o + k by omega, List.getElem?_eq_getElem h2, List.getElem?_eq_getElem h1] at hg
    rw [List.getElem?_eq_getElem h2, List.getElem?_eq_getElem h1]
    simpa using hg
  · rw [List.getElem?_eq_none (by simp; omega), List.getElem?_eq_none (by omega)]
include hE in
theorem e_noword {i : Nat} {w v : List Int} (hi : i < L.length) (hw : w.head? ≠ v.head?) (hw0 : w ≠ []) (hv0 : v ≠ []) (h : wordE L i w) : ¬ wordE M (i + o) v := by
  intro h2
  have hh : ∀ (N : List Int) (k : Nat) (u : List Int), u ≠ [] → wordE N k u → u.head? = N[k]? := by
    intro N k u hu h
    unfold wordE at h
    cases u with
    | nil => exact absurd rfl hu
    | cons x u =>
      rw [← h, List.length_cons]
      cases hd : N.drop k with
      | nil =>
        rw [hd] at h
        simp at h
      | cons y r =>
        have := List.head?_drop (l := N) (i := k)
        rw [hd] at this
        simpa using this
  have h3 := hh L i w hw0 h
  have h4 := hh M (i + o) v hv0 h2
  have hg := hE i hi
  apply hw
  rw [h3, h4]
  have hM' : i + o < M.length := by
    rcases Nat.lt_or_ge (i + o) M.length with h | h
    · exact h
    · rw [List.getElem?_eq_none h] at h4
      cases v with
      | nil => exact absurd rfl hv0
      | cons x v => simp at h4
  unfold gb at hg
  rw [List.getD_eq_getElem?_getD, List.getD_eq_getElem?_getD, List.getElem?_eq_getElem hM', List.getElem?_eq_getElem hi] at hg
  rw [List.getElem?_eq_getElem hM', List.getElem?_eq_getElem hi]
  simp at hg
  rw [hg]
theorem val_far {L : List Int} {n i : Nat} (h1 : L.length ≤ i) (h2 : i ≤ L.length) : val L n i = none := by
  cases n with
  | zero => rw [val]
  | succ n =>
    have hw : ∀ w : List Int, 0 < w.length → ¬ wordE L i w := fun w hw h => by
      have := wordE_le h h2
      omega
    rw [val, if_neg (fun h1 => by have := h1.1; omega), if_neg (fun h1 => by have := h1.1; omega), if_neg (fun h1 => by have := h1.1; omega), if_neg (fun h => h.elim (fun h1 => by have := h1.1; omega) (fun h => by have := dig_in h; omega)), if_neg (hw _ (by decide)), if_neg (hw _ (by decide)), if_neg (hw _ (by decide))]
theorem elts_end {L : List Int} {n i : Nat} {ks : List S35} (h1 : L.length ≤ i) (h2 : i ≤ L.length) : elts L n i ks = none := by
  cases n with
  | zero => rw [elts]
  | succ n => rw [elts, val_far h1 h2]
/-- A value within a text is one within a longer text, if what stands behind a number that ends the text is not of it. -/
theorem e_all (hE : ∀ i, i < L.length → gb M (i + o) = gb L i) (hM : L.length + o ≤ M.length) : ∀ n : Nat,
    (∀ i p e, val L n i = some (p, e) → (e < L.length ∨ ¬ NumC (gb M (L.length + o)) ∨ (at_ L i 123 ∨ at_ L i 91 ∨ at_ L i 34)) → i ≤ L.length → ∃ p', val M n (i + o) = some (p', e + o)) ∧
    (∀ i a b e, mem0 L n i = some (a, b, e) → i < L.length → ∃ a' b', mem0 M n (i + o) = some (a', b', e + o)) ∧
    (∀ i ns ks ns' ks' a b e, mems L n i ns ks = some (a, b, e) → i ≤ L.length → ∃ a' b', mems M n (i + o) ns' ks' = some (a', b', e + o)) ∧
    (∀ i b e, elt0 L n i = some (b, e) → i < L.length → ∃ b', elt0 M n (i + o) = some (b', e + o)) ∧
    (∀ i ks ks' b e, elts L n i ks = some (b, e) → i ≤ L.length → ∃ b', elts M n (i + o) ks' = some (b', e + o)) := by
  intro n
  induction n with
  | zero =>
    refine ⟨fun i p e h => ?_, fun i a b e h => ?_, fun i ns ks ns' ks' a b e h => ?_, fun i b e h => ?_, fun i ks ks' b e h => ?_⟩
    · rw [val] at h; cases h
    · rw [mem0] at h; cases h
    · rw [mems] at h; cases h
    · rw [elt0] at h; cases h
    · rw [elts] at h; cases h
  | succ n ih =>
    obtain ⟨ihv, ihm0, ihm, ihe0, ihe⟩ := ih
    refine ⟨fun i p e h hT hi => ?_, fun i a b e h hi => ?_, fun i ns ks ns' ks' a b e h hi => ?_, fun i b e h hi => ?_, fun i ks ks' b e h hi => ?_⟩
    · rw [val] at h ⊢
      split at h
      · rename_i h1
        obtain ⟨⟨a, b, e1⟩, hm, h⟩ := Option.map_eq_some_iff.mp h
        simp only [Prod.mk.injEq] at h
        obtain ⟨rfl, rfl⟩ := h
        obtain ⟨a', b', hm'⟩ := ihm0 _ _ _ _ hm h1.1
        rw [if_pos (e_at hE hM h1), hm']
        exact ⟨_, rfl⟩
      · rename_i h1
        split at h
        · rename_i h2
          obtain ⟨⟨b, e1⟩, hm, h⟩ := Option.map_eq_some_iff.mp h
          simp only [Prod.mk.injEq] at h
          obtain ⟨rfl, rfl⟩ := h
          obtain ⟨b', hm'⟩ := ihe0 _ _ _ hm h2.1
          rw [if_neg (e_not hE h2.1 h1), if_pos (e_at hE hM h2), hm']
          exact ⟨_, rfl⟩
        · rename_i h2
          split at h
          · rename_i h3
            obtain ⟨j, hm, h⟩ := Option.map_eq_some_iff.mp h
            simp only [Prod.mk.injEq] at h
            obtain ⟨rfl, rfl⟩ := h
            have hs := e_st hE hM _ _ _ (Nat.le_refl _) hm
            rw [show i + 1 + o = i + o + 1 by omega] at hs
            rw [if_neg (e_not hE h3.1 h1), if_neg (e_not hE h3.1 h2), if_pos (e_at hE hM h3), hs]
            exact ⟨_, rfl⟩
          · rename_i h3
            split at h
            · rename_i h4
              obtain ⟨j, hm, h⟩ := Option.map_eq_some_iff.mp h
              simp only [Prod.mk.injEq] at h
              obtain ⟨rfl, rfl⟩ := h
              have hil : i < L.length := h4.elim (fun h => h.1) dig_in
              have hT' : j < L.length ∨ ¬ NumC (gb M (L.length + o)) := by
                rcases hT with h | h | h
                · exact .inl h
                · exact .inr h
                · exact absurd h (fun h => h.elim h1 (fun h => h.elim h2 h3))
              rw [if_neg (e_not hE hil h1), if_neg (e_not hE hil h2), if_neg (e_not hE hil h3), if_pos (h4.imp (e_at hE hM) (fun h => by rw [hE i hil]; exact h)), e_num hE hM hil hm hT']
              exact ⟨_, rfl⟩
            · rename_i h4
              have key : ∀ w : List Int, 0 < w.length → wordE L i w → i < L.length := fun w h0 hw => by
                have := wordE_le hw hi
                omega
              have n4 : i < L.length → ¬ (at_ M (i + o) 45 ∨ isDig (gb M (i + o))) := fun hil h => h4 (h.imp (fun h => ⟨hil, by rw [← hE i hil]; exact h.2⟩) (fun h => by rw [← hE i hil]; exact h))
              split at h
              · rename_i hw
                simp only [Option.some.injEq, Prod.mk.injEq] at h
                obtain ⟨rfl, rfl⟩ := h
                have hil := key _ (by decide) hw
                rw [if_neg (e_not hE hil h1), if_neg (e_not hE hil h2), if_neg (e_not hE hil h3), if_neg (n4 hil), if_pos (e_word hE hM hi hw)]
                exact ⟨_, by rw [show i + o + 4 = i + 4 + o by omega]⟩
              · split at h
                · rename_i hw
                  simp only [Option.some.injEq, Prod.mk.injEq] at h
                  obtain ⟨rfl, rfl⟩ := h
                  have hil := key _ (by decide) hw
                  rw [if_neg (e_not hE hil h1), if_neg (e_not hE hil h2), if_neg (e_not hE hil h3), if_neg (n4 hil), if_neg (e_noword hE hil (by simp) (by simp) (by simp) hw), if_pos (e_word hE hM hi hw)]
                  exact ⟨_, by rw [show i + o + 5 = i + 5 + o by omega]⟩
                · split at h
                  · rename_i hw
                    simp only [Option.some.injEq, Prod.mk.injEq] at h
                    obtain ⟨rfl, rfl⟩ := h
                    have hil := key _ (by decide) hw
                    rw [if_neg (e_not hE hil h1), if_neg (e_not hE hil h2), if_neg (e_not hE hil h3), if_neg (n4 hil), if_neg (e_noword hE hil (by simp) (by simp) (by simp) hw), if_neg (e_noword hE hil (by simp) (by simp) (by simp) hw), if_pos (e_word hE hM hi hw)]
                    exact ⟨_, by rw [show i + o + 4 = i + 4 + o by omega]⟩
                  · cases h
    · rw [mem0] at h ⊢
      have hb := bl_le L (i + 1) (by omega)
      have hbl : bl L (i + 1) < L.length := by
        split at h
        · rename_i h1
          exact h1.1
        · rcases Nat.lt_or_ge (bl L (i + 1)) L.length with hl | hl
          · exact hl
          · cases n with
            | zero => rw [mems] at h; cases h
            | succ n =>
              rw [mems, if_neg (fun h1 => by have := h1.1; omega)] at h
              cases h
      have hbb := e_bl hE _ (i + 1) (Nat.le_refl _) hbl
      rw [show i + o + 1 = i + 1 + o by omega, hbb]
      split at h
      · rename_i h1
        simp only [Option.some.injEq, Prod.mk.injEq] at h
        obtain ⟨rfl, rfl, rfl⟩ := h
        rw [if_pos (e_at hE hM h1)]
        exact ⟨_, _, by rw [show bl L (i + 1) + o + 1 = bl L (i + 1) + 1 + o by omega]⟩
      · rename_i h1
        rw [if_neg (e_not hE hbl h1)]
        exact ihm _ _ _ _ _ _ _ _ h hb.2
    · rw [mems] at h ⊢
      split at h
      case isFalse => cases h
      case isTrue h1 =>
      rw [if_pos (e_at hE hM h1)]
      split at h
      · cases h
      · rename_i j hj
        have hjl := st_le L _ _ _ (Nat.le_refl _) hj
        have hs := e_st hE hM _ _ _ (Nat.le_refl _) hj
        rw [show i + 1 + o = i + o + 1 by omega] at hs
        rw [hs]
        split at h
        case isFalse => cases h
        case isTrue h2 =>
        have hb1 := e_bl hE _ j (Nat.le_refl _) h2.1
        simp only [hb1, if_pos (e_at hE hM h2)]
        split at h
        · cases h
        · rename_i p e1 hv
          have h2l := h2.1
          have hbl2 := bl_le L (bl L j + 1) (by omega)
          have hvl : bl L (bl L j + 1) < L.length ∧ e1 < L.length ∧ bl L e1 < L.length := by
            have hx : bl L e1 < L.length := by
              split at h
              · rename_i h3
                exact h3.1
              · split at h
                · rename_i h3
                  exact h3.1
                · cases h
            have hge : e1 ≤ bl L e1 ∨ L.length < e1 := by
              rcases Nat.lt_or_ge L.length e1 with h | h
              · exact .inr h
              · exact .inl (bl_le L e1 h).1
            have he1 : e1 ≤ L.length := by
              rcases Nat.lt_or_ge L.length e1 with h | h
              · rw [bl, dif_neg (fun hb => by have := blank_in hb; omega)] at hx
                omega
              · exact h
            have := (bl_le L e1 he1).1
            refine ⟨?_, by omega, hx⟩
            rcases Nat.lt_or_ge (bl L (bl L j + 1)) L.length with h | h
            · exact h
            · exfalso
              cases n with
              | zero => rw [val] at hv; cases hv
              | succ n =>
                have hw : ∀ w : List Int, 0 < w.length → ¬ wordE L (bl L (bl L j + 1)) w := fun w hw h => by
                  have := wordE_le h hbl2.2
                  omega
                rw [val, if_neg (fun h1 => by have := h1.1; omega), if_neg (fun h1 => by have := h1.1; omega), if_neg (fun h1 => by have := h1.1; omega), if_neg (fun h => h.elim (fun h1 => by have := h1.1; omega) (fun h => by have := dig_in h; omega)), if_neg (hw _ (by decide)), if_neg (hw _ (by decide)), if_neg (hw _ (by decide))] at hv
                cases hv
          have hb2 := e_bl hE _ (bl L j + 1) (Nat.le_refl _) hvl.1
          obtain ⟨p', hv'⟩ := ihv _ _ _ hv (.inl hvl.2.1) hbl2.2
          have hb3 := e_bl hE _ e1 (Nat.le_refl _) hvl.2.2
          rw [show bl L j + o + 1 = bl L j + 1 + o by omega, hb2, hv']
          simp only [hb3]
          split at h
          · rename_i h3
            simp only [Option.some.injEq, Prod.mk.injEq] at h
            obtain ⟨rfl, rfl, rfl⟩ := h
            rw [if_pos (e_at hE hM h3)]
            exact ⟨_, _, by rw [show bl L e1 + o + 1 = bl L e1 + 1 + o by omega]⟩
          · rename_i h3
            rw [if_neg (e_not hE hvl.2.2 h3)]
            split at h
            case isFalse => cases h
            case isTrue h4 =>
            rw [if_pos (e_at hE hM h4)]
            have hbl4 := bl_le L (bl L e1 + 1) (by omega)
            have hb4l : bl L (bl L e1 + 1) < L.length := by
              rcases Nat.lt_or_ge (bl L (bl L e1 + 1)) L.length with hl | hl
              · exact hl
              · cases n with
                | zero => rw [mems] at h; cases h
                | succ n =>
                  rw [mems, if_neg (fun h1 => by have := h1.1; omega)] at h
                  cases h
            have hb4 := e_bl hE _ (bl L e1 + 1) (Nat.le_refl _) hb4l
            rw [show bl L e1 + o + 1 = bl L e1 + 1 + o by omega, hb4]
            exact ihm _ _ _ _ _ _ _ _ h hbl4.2
    · rw [elt0] at h ⊢
      have hb := bl_le L (i + 1) (by omega)
      have hbl : bl L (i + 1) < L.length := by
        split at h
        · rename_i h1
          exact h1.1
        · rcases Nat.lt_or_ge (bl L (i + 1)) L.length with hl | hl
          · exact hl
          · exact absurd h (by rw [elts_end (by omega) (by omega)]; simp)
      have hbb := e_bl hE _ (i + 1) (Nat.le_refl _) hbl
      rw [show i + o + 1 = i + 1 + o by omega, hbb]
      split at h
      · rename_i h1
        simp only [Option.some.injEq, Prod.mk.injEq] at h
        obtain ⟨rfl, rfl⟩ := h
        rw [if_pos (e_at hE hM h1)]
        exact ⟨_, by rw [show bl L (i + 1) + o + 1 = bl L (i + 1) + 1 + o by omega]⟩
      · rename_i h1
        rw [if_neg (e_not hE hbl h1)]
        exact ihe _ _ _ _ _ h hb.2
    · rw [elts] at h ⊢
      split at h
      · cases h
      · rename_i p e1 hv
        have hx : bl L e1 < L.length := by
          split at h
          · rename_i h3
            exact h3.1
          · split at h
            · rename_i h3
              exact h3.1
            · cases h
        have he1 : e1 ≤ L.length := by
          rcases Nat.lt_or_ge L.length e1 with h | h
          · rw [bl, dif_neg (fun hb => by have := blank_in hb; omega)] at hx
            omega
          · exact h
        have hle := (bl_le L e1 he1).1
        obtain ⟨p', hv'⟩ := ihv _ _ _ hv (.inl (by omega)) hi
        have hb3 := e_bl hE _ e1 (Nat.le_refl _) hx
        rw [hv']
        simp only [hb3]
        split at h
        · rename_i h3
          simp only [Option.some.injEq, Prod.mk.injEq] at h
          obtain ⟨rfl, rfl⟩ := h
          rw [if_pos (e_at hE hM h3)]
          exact ⟨_, by rw [show bl L e1 + o + 1 = bl L e1 + 1 + o by omega]⟩
        · rename_i h3
          rw [if_neg (e_not hE hx h3)]
          split at h
          case isFalse => cases h
          case isTrue h4 =>
          rw [if_pos (e_at hE hM h4)]
          have hbl4 := bl_le L (bl L e1 + 1) (by omega)
          have hb4l : bl L (bl L e1 + 1) < L.length := by
            rcases Nat.lt_or_ge (bl L (bl L e1 + 1)) L.length with hl | hl
            · exact hl
            · exact absurd h (by rw [elts_end (by omega) (by omega)]; simp)
          have hb4 := e_bl hE _ (bl L e1 + 1) (Nat.le_refl _) hb4l
          rw [show bl L e1 + o + 1 = bl L e1 + 1 + o by omega, hb4]
          exact ihe _ _ _ _ _ h hbl4.2
end

end Go.Proofs.YtgbliniamkpocaaDoor.Pure
