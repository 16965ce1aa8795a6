/- A reader of JSON texts in plain words: values, members, elements. -/
import Derived.Test.YtgbliniamkpocaaDoorJpBase
import Derived.Test.YtgbliniamkpocaaDoorG1
namespace Go.Proofs.YtgbliniamkpocaaDoor.Pure
open Go.RowKit Go.Proofs.YtgbliniamkpocaaDoor.PPl Go.Proofs.YtgbliniamkpocaaDoor.Jp
/-! ### A value, the members of an object, the elements of an array -/
mutual
/-- The value that begins at i, and where it ends. -/
def val (L : List Int) : Nat → Nat → Option (S35 × Nat)
  | 0, _ => none
  | n + 1, i =>
    if at_ L i 123 then (mem0 L n i).map fun r => (⟨6, (i : Int), (r.2.2 : Int), r.1, r.2.1⟩, r.2.2)
    else if at_ L i 91 then (elt0 L n i).map fun r => (⟨5, (i : Int), (r.2 : Int), [], r.1⟩, r.2)
    else if at_ L i 34 then (st L (i + 1)).map fun (j : Nat) => (⟨4, (i : Int), (j : Int), [], []⟩, j)
    else if at_ L i 45 ∨ isDig (gb L i) then (numE L i).map fun (j : Nat) => (⟨3, (i : Int), (j : Int), [], []⟩, j)
    else if wordE L i [110, 117, 108, 108] then some (⟨0, (i : Int), ((i + 4 : Nat) : Int), [], []⟩, i + 4)
    else if wordE L i [102, 97, 108, 115, 101] then some (⟨1, (i : Int), ((i + 5 : Nat) : Int), [], []⟩, i + 5)
    else if wordE L i [116, 114, 117, 101] then some (⟨2, (i : Int), ((i + 4 : Nat) : Int), [], []⟩, i + 4)
    else none
/-- Behind the bracket that opens an object. -/
def mem0 (L : List Int) : Nat → Nat → Option (List S72 × List S35 × Nat)
  | 0, _ => none
  | n + 1, i => if at_ L (bl L (i + 1)) 125 then some ([], [], bl L (i + 1) + 1) else mems L n (bl L (i + 1)) [] []
def mems (L : List Int) : Nat → Nat → List S72 → List S35 → Option (List S72 × List S35 × Nat)
  | 0, _, _, _ => none
  | n + 1, i, ns, ks =>
    if at_ L i 34 then
      match st L (i + 1) with
      | none => none
      | some j =>
        if at_ L (bl L j) 58 then
          match val L n (bl L (bl L j + 1)) with
          | none => none
          | some (p, e) =>
            if at_ L (bl L e) 125 then some (ns ++ [⟨(i : Int), (j : Int)⟩], ks ++ [p], bl L e + 1)
            else if at_ L (bl L e) 44 then mems L n (bl L (bl L e + 1)) (ns ++ [⟨(i : Int), (j : Int)⟩]) (ks ++ [p])
            else none
        else none
    else none
/-- Behind the bracket that opens an array. -/
def elt0 (L : List Int) : Nat → Nat → Option (List S35 × Nat)
  | 0, _ => none
  | n + 1, i => if at_ L (bl L (i + 1)) 93 then some ([], bl L (i + 1) + 1) else elts L n (bl L (i + 1)) []
def elts (L : List Int) : Nat → Nat → List S35 → Option (List S35 × Nat)
  | 0, _, _ => none
  | n + 1, i, ks =>
    match val L n i with
    | none => none
    | some (p, e) =>
      if at_ L (bl L e) 93 then some (ks ++ [p], bl L e + 1)
      else if at_ L (bl L e) 44 then elts L n (bl L (bl L e + 1)) (ks ++ [p])
      else none
end
/-- The value of a whole text. -/
def places (L : List Int) : Option S35 :=
  match val L (3 * L.length + 3) (bl L 0) with
  | none => none
  | some (p, e) => if bl L e = L.length then some p else none

/-! ### Where the parts end -/
theorem bl_le (L : List Int) (i : Nat) (h : i ≤ L.length) : i ≤ bl L i ∧ bl L i ≤ L.length := by
  induction hd : L.length - i generalizing i with
  | zero =>
    rw [bl]
    split
    · rename_i h1
      have := blank_in h1
      omega
    · omega
  | succ d ih =>
    rw [bl]
    split
    · rename_i h1
      have := blank_in h1
      have := ih (i + 1) (by omega) (by omega)
      omega
    · omega
theorem dg_le (L : List Int) (i : Nat) (h : i ≤ L.length) : i ≤ dg L i ∧ dg L i ≤ L.length := by
  induction hd : L.length - i generalizing i with
  | zero =>
    rw [dg]
    split
    · rename_i h1
      have := dig_in h1
      omega
    · omega
  | succ d ih =>
    rw [dg]
    split
    · rename_i h1
      have := dig_in h1
      have := ih (i + 1) (by omega) (by omega)
      omega
    · omega
theorem st_le (L : List Int) : ∀ (d i j : Nat), L.length - i ≤ d → st L i = some j → i < j ∧ j ≤ L.length := by
  intro d
  induction d with
  | zero =>
    intro i j hd h
    rw [st, dif_neg (by omega)] at h
    cases h
  | succ d ih =>
    intro i j hd h
    rw [st] at h
    split at h
    · split at h
      · injection h with h
        omega
      · split at h
        · cases h
        · split at h
          · split at h
            · cases h
            · rename_i k hk
              have := escE_le hk
              have := ih k j (by omega) h
              omega
          · have := ih (i + 1) j (by omega) h
            omega
    · cases h
theorem signE_le {L : List Int} {i : Nat} (h : i ≤ L.length) : i ≤ signE L i ∧ signE L i ≤ L.length := by
  unfold signE
  by_cases h1 : at_ L i 43 ∨ at_ L i 45
  · rw [if_pos h1]
    unfold at_ at h1
    omega
  · rw [if_neg h1]
    omega
theorem minusE_le {L : List Int} {i : Nat} (h : i ≤ L.length) : i ≤ minusE L i ∧ minusE L i ≤ L.length := by
  unfold minusE
  by_cases h1 : at_ L i 45
  · rw [if_pos h1]
    unfold at_ at h1
    omega
  · rw [if_neg h1]
    omega
theorem expE_le {L : List Int} {i j : Nat} (hi : i ≤ L.length) (h : expE L i = some j) : i ≤ j ∧ j ≤ L.length := by
  unfold expE at h
  split at h
  · rename_i h1
    unfold at_ at h1
    have h2 := signE_le (L := L) (i := i + 1) (by omega)
    have h3 := dg_le L (signE L (i + 1)) h2.2
    split at h
    · injection h with h
      omega
    · cases h
  · injection h with h
    omega
theorem fracE_le {L : List Int} {i j : Nat} (hi : i ≤ L.length) (h : fracE L i = some j) : i ≤ j ∧ j ≤ L.length := by
  unfold fracE at h
  split at h
  · rename_i h1
    unfold at_ at h1
    split at h
    · have h3 := dg_le L (i + 1) (by omega)
      have := expE_le h3.2 h
      omega
    · cases h
  · exact expE_le hi h
theorem numE_le {L : List Int} {i j : Nat} (hi : i ≤ L.length) (h : numE L i = some j) : i < j ∧ j ≤ L.length := by
  unfold numE at h
  have h0 := minusE_le hi
  split at h
  · rename_i h1
    unfold at_ at h1
    have := fracE_le (by omega) h
    omega
  · split at h
    · have h3 := dg_le L (minusE L i) h0.2
      have := fracE_le h3.2 h
      omega
    · cases h
theorem wordE_le {L w : List Int} {i : Nat} (h : wordE L i w) (hi : i ≤ L.length) : i + w.length ≤ L.length := by
  have := congrArg List.length h
  rw [List.length_take, List.length_drop] at this
  omega
/-- More rounds change nothing. -/
theorem v_mono {L : List Int} : ∀ n : Nat,
    (∀ i r, val L n i = some r → val L (n + 1) i = some r) ∧ (∀ i r, mem0 L n i = some r → mem0 L (n + 1) i = some r) ∧ (∀ i ns ks r, mems L n i ns ks = some r → mems L (n + 1) i ns ks = some r) ∧
    (∀ i r, elt0 L n i = some r → elt0 L (n + 1) i = some r) ∧ (∀ i ks r, elts L n i ks = some r → elts L (n + 1) i ks = some r) := by
  intro n
  induction n with
  | zero => refine ⟨fun _ _ h => ?_, fun _ _ h => ?_, fun _ _ _ _ h => ?_, fun _ _ h => ?_, fun _ _ _ h => ?_⟩ <;> simp [val, mem0, mems, elt0, elts] at h
  | succ n ih =>
    obtain ⟨i1, i2, i3, i4, i5⟩ := ih
    refine ⟨fun i r h => ?_, fun i r h => ?_, fun i ns ks r h => ?_, fun i r h => ?_, fun i ks r h => ?_⟩
    · rw [val] at h ⊢
      split
      · rename_i c
        rw [if_pos c] at h
        obtain ⟨a, h1, h2⟩ := Option.map_eq_some_iff.1 h
        rw [i2 i a h1]
        exact congrArg some h2
      rename_i c
      rw [if_neg c] at h
      split
      · rename_i c
        rw [if_pos c] at h
        obtain ⟨a, h1, h2⟩ := Option.map_eq_some_iff.1 h
        rw [i4 i a h1]
        exact congrArg some h2
      rename_i c
      rw [if_neg c] at h
      exact h
    · rw [mem0] at h ⊢
      split
      · rename_i c
        rw [if_pos c] at h
        exact h
      rename_i c
      rw [if_neg c] at h
      exact i3 _ _ _ _ h
    · rw [mems] at h ⊢
      split
      · rename_i c
        rw [if_pos c] at h
        cases hs : st L (i + 1) with
        | none =>
          rw [hs] at h
          cases h
        | some j =>
          rw [hs] at h
          simp only at h ⊢
          split
          · rename_i c
            rw [if_pos c] at h
            cases hv : val L n (bl L (bl L j + 1)) with
            | none =>
              rw [hv] at h
              cases h
            | some pe =>
              rw [hv] at h
              rw [i1 _ _ hv]
              simp only at h ⊢
              split
              · rename_i c
                rw [if_pos c] at h
                exact h
              rename_i c
              rw [if_neg c] at h
              split
              · rename_i c
                rw [if_pos c] at h
                exact i3 _ _ _ _ h
              · rename_i c
                rw [if_neg c] at h
                exact h
          · rename_i c
            rw [if_neg c] at h
            exact h
      · rename_i c
        rw [if_neg c] at h
        exact h
    · rw [elt0] at h ⊢
      split
      · rename_i c
        rw [if_pos c] at h
        exact h
      rename_i c
      rw [if_neg c] at h
      exact i5 _ _ _ h
    · rw [elts] at h ⊢
      cases hv : val L n i with
      | none =>
        rw [hv] at h
        cases h
      | some pe =>
        rw [hv] at h
        rw [i1 _ _ hv]
        simp only at h ⊢
        split
        · rename_i c
          rw [if_pos c] at h
          exact h
        rename_i c
        rw [if_neg c] at h
        split
        · rename_i c
          rw [if_pos c] at h
          exact i5 _ _ _ h
        · rename_i c
          rw [if_neg c] at h
          exact h
theorem val_up {L : List Int} {n m i : Nat} {r : S35 × Nat} (h : val L n i = some r) (hm : n ≤ m) : val L m i = some r := by
  obtain ⟨k, rfl⟩ := Nat.exists_eq_add_of_le hm
  clear hm
  induction k with
  | zero => exact h
  | succ k ih => exact (v_mono (n + k)).1 _ _ ih
theorem mems_up {L : List Int} {n m i : Nat} {ns : List S72} {ks : List S35} {r : List S72 × List S35 × Nat} (h : mems L n i ns ks = some r) (hm : n ≤ m) : mems L m i ns ks = some r := by
  obtain ⟨k, rfl⟩ := Nat.exists_eq_add_of_le hm
  clear hm
  induction k with
  | zero => exact h
  | succ k ih => exact (v_mono (n + k)).2.2.1 _ _ _ _ ih
theorem elts_up {L : List Int} {n m i : Nat} {ks : List S35} {r : List S35 × Nat} (h : elts L n i ks = some r) (hm : n ≤ m) : elts L m i ks = some r := by
  obtain ⟨k, rfl⟩ := Nat.exists_eq_add_of_le hm
  clear hm
  induction k with
  | zero => exact h
  | succ k ih => exact (v_mono (n + k)).2.2.2.2 _ _ _ ih
theorem v_lt {L : List Int} : ∀ n : Nat,
    (∀ i p e, i ≤ L.length → val L n i = some (p, e) → i < e ∧ e ≤ L.length) ∧
    (∀ i r, i < L.length → mem0 L n i = some r → i < r.2.2 ∧ r.2.2 ≤ L.length) ∧
    (∀ i ns ks r, i ≤ L.length → mems L n i ns ks = some r → i < r.2.2 ∧ r.2.2 ≤ L.length) ∧
    (∀ i r, i < L.length → elt0 L n i = some r → i < r.2 ∧ r.2 ≤ L.length) ∧
    (∀ i ks r, i ≤ L.length → elts L n i ks = some r → i < r.2 ∧ r.2 ≤ L.length) := by
  intro n
  induction n with
  | zero =>
    refine ⟨fun i p e _ h => ?_, fun i r _ h => ?_, fun i ns ks r _ h => ?_, fun i r _ h => ?_, fun i ks r _ h => ?_⟩
    · simp [val] at h
    · simp [mem0] at h
    · simp [mems] at h
    · simp [elt0] at h
    · simp [elts] at h
  | succ n ih =>
    obtain ⟨ihv, ihm0, ihm, ihe0, ihe⟩ := ih
    refine ⟨fun i p e hi h => ?_, fun i r hi h => ?_, fun i ns ks r hi h => ?_, fun i r hi h => ?_, fun i ks r hi h => ?_⟩
    · rw [val] at h
      split at h
      · rename_i h1
        obtain ⟨r, hr, h⟩ := Option.map_eq_some_iff.mp h
        simp only [Prod.mk.injEq] at h
        obtain ⟨rfl, rfl⟩ := h
        exact ihm0 _ _ h1.1 hr
      split at h
      · rename_i h1
        obtain ⟨r, hr, h⟩ := Option.map_eq_some_iff.mp h
        simp only [Prod.mk.injEq] at h
        obtain ⟨rfl, rfl⟩ := h
        exact ihe0 _ _ h1.1 hr
      split at h
      · obtain ⟨r, hr, h⟩ := Option.map_eq_some_iff.mp h
        simp only [Prod.mk.injEq] at h
        obtain ⟨rfl, rfl⟩ := h
        have := st_le L _ _ _ (Nat.le_refl _) hr
        omega
      split at h
      · obtain ⟨r, hr, h⟩ := Option.map_eq_some_iff.mp h
        simp only [Prod.mk.injEq] at h
        obtain ⟨rfl, rfl⟩ := h
        exact numE_le hi hr
      split at h
      · rename_i hw
        have := wordE_le hw hi
        simp only [List.length_cons, List.length_nil] at this
        simp only [Option.some.injEq, Prod.mk.injEq] at h
        omega
      split at h
      · rename_i hw
        have := wordE_le hw hi
        simp only [List.length_cons, List.length_nil] at this
        simp only [Option.some.injEq, Prod.mk.injEq] at h
        omega
      split at h
      · rename_i hw
        have := wordE_le hw hi
        simp only [List.length_cons, List.length_nil] at this
        simp only [Option.some.injEq, Prod.mk.injEq] at h
        omega
      · cases h
    · rw [mem0] at h
      have hb := bl_le L (i + 1) (by omega)
      split at h
      · rename_i h1
        have := h1.1
        injection h with h
        subst h
        simp only
        omega
      · have := ihm _ _ _ _ hb.2 h
        omega
    · rw [mems] at h
      split at h
      · rename_i h1
        have h1l := h1.1
        split at h
        · cases h
        · rename_i j hj
          have hjl := st_le L _ _ _ (Nat.le_refl _) hj
          have hb1 := bl_le L j hjl.2
          split at h
          · rename_i h2
            have h2l := h2.1
            have hb2 := bl_le L (bl L j + 1) (by omega)
            split at h
            · cases h
            · rename_i p e hv
              have hve := ihv _ _ _ hb2.2 hv
              have hb3 := bl_le L e hve.2
              split at h
              · rename_i h3
                have := h3.1
                injection h with h
                subst h
                simp only
                omega
              · split at h
                · rename_i h3
                  have := h3.1
                  have hb4 := bl_le L (bl L e + 1) (by omega)
                  have := ihm _ _ _ _ hb4.2 h
                  omega
                · cases h
          · cases h
      · cases h
    · rw [elt0] at h
      have hb := bl_le L (i + 1) (by omega)
      split at h
      · rename_i h1
        have := h1.1
        injection h with h
        subst h
        simp only
        omega
      · have := ihe _ _ _ hb.2 h
        omega
    · rw [elts] at h
      split at h
      · cases h
      · rename_i p e hv
        have hve := ihv _ _ _ hi hv
        have hb3 := bl_le L e hve.2
        split at h
        · rename_i h3
          have := h3.1
          injection h with h
          subst h
          simp only
          omega
        · split at h
          · rename_i h3
            have := h3.1
            have hb4 := bl_le L (bl L e + 1) (by omega)
            have := ihe _ _ _ hb4.2 h
            omega
          · cases h
/-- The place of a JSON text. -/
def Doc (L : List Int) (p : S35) : Prop := ∃ n e, val L n (bl L 0) = some (p, e) ∧ bl L e = L.length
end Go.Proofs.YtgbliniamkpocaaDoor.Pure
