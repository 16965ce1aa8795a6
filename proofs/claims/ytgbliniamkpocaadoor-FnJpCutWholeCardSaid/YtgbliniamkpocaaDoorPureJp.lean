/- A reader of JSON texts in plain words is the printed one; where jsonparser finds a value's end. -/
import Derived.Test.YtgbliniamkpocaaDoorPPlx5
import Derived.Test.YtgbliniamkpocaaDoorJpBase
namespace Go.Proofs.YtgbliniamkpocaaDoor.Pure
open Go.RowKit Go.Proofs.YtgbliniamkpocaaDoor.PPl Go.Proofs.YtgbliniamkpocaaDoor.Jp Go.Proofs.YtgbliniamkpocaaDoorW.PrintWords Go.Proofs.YtgbliniamkpocaaDoorW.PrintLast
/-! ### A value, the members of an object, the elements of an array -/
mutual
/-- The value that begins at i, and where it ends. -/
def val (L : List Int) : Nat → Nat → Option (S35 × Nat)
  | 0, _ => none
  | n + 1, i =>
    if at_ L i 123 then (mem0 L n i).map fun r => (⟨6, (i : Int), (r.2.2 : Int), r.1, r.2.1⟩, r.2.2)
    else if at_ L i 91 then (elt0 L n i).map fun r => (⟨5, (i : Int), (r.2 : Int), [], r.1⟩, r.2)
    else if at_ L i 34 then (st L (i + 1)).map fun (j : Nat) => (⟨4, (i : Int), (j : Int), [], []⟩, j)
    else if at_ L i 45 ∨ isDig (gb L i) then (numE L i).map fun (j : Nat) => (⟨3, (i : Int), (j : Int), [], []⟩, j)
    else if wordE L i [110, 117, 108, 108] then some (⟨0, (i : Int), ((i + 4 : Nat) : Int), [], []⟩, i + 4)
    else if wordE L i [102, 97, 108, 115, 101] then some (⟨1, (i : Int), ((i + 5 : Nat) : Int), [], []⟩, i + 5)
    else if wordE L i [116, 114, 117, 101] then some (⟨2, (i : Int), ((i + 4 : Nat) : Int), [], []⟩, i + 4)
    else none
/-- Behind the bracket that opens an object. -/
def mem0 (L : List Int) : Nat → Nat → Option (List S72 × List S35 × Nat)
  | 0, _ => none
  | n + 1, i => if at_ L (bl L (i + 1)) 125 then some ([], [], bl L (i + 1) + 1) else mems L n (bl L (i + 1)) [] []
def mems (L : List Int) : Nat → Nat → List S72 → List S35 → Option (List S72 × List S35 × Nat)
  | 0, _, _, _ => none
  | n + 1, i, ns, ks =>
    if at_ L i 34 then
      match st L (i + 1) with
      | none => none
      | some j =>
        if at_ L (bl L j) 58 then
          match val L n (bl L (bl L j + 1)) with
          | none => none
          | some (p, e) =>
            if at_ L (bl L e) 125 then some (ns ++ [⟨(i : Int), (j : Int)⟩], ks ++ [p], bl L e + 1)
            else if at_ L (bl L e) 44 then mems L n (bl L (bl L e + 1)) (ns ++ [⟨(i : Int), (j : Int)⟩]) (ks ++ [p])
            else none
        else none
    else none
/-- Behind the bracket that opens an array. -/
def elt0 (L : List Int) : Nat → Nat → Option (List S35 × Nat)
  | 0, _ => none
  | n + 1, i => if at_ L (bl L (i + 1)) 93 then some ([], bl L (i + 1) + 1) else elts L n (bl L (i + 1)) []
def elts (L : List Int) : Nat → Nat → List S35 → Option (List S35 × Nat)
  | 0, _, _ => none
  | n + 1, i, ks =>
    match val L n i with
    | none => none
    | some (p, e) =>
      if at_ L (bl L e) 93 then some (ks ++ [p], bl L e + 1)
      else if at_ L (bl L e) 44 then elts L n (bl L (bl L e + 1)) (ks ++ [p])
      else none
end
/-- The value of a whole text. -/
def places (L : List Int) : Option S35 :=
  match val L (3 * L.length + 3) (bl L 0) with
  | none => none
  | some (p, e) => if bl L e = L.length then some p else none

/-! ### Where the parts end -/
theorem bl_le (L : List Int) (i : Nat) (h : i ≤ L.length) : i ≤ bl L i ∧ bl L i ≤ L.length := by
  induction hd : L.length - i generalizing i with
  | zero =>
    rw [bl]
    split
    · rename_i h1
      have := blank_in h1
      omega
    · omega
  | succ d ih =>
    rw [bl]
    split
    · rename_i h1
      have := blank_in h1
      have := ih (i + 1) (by omega) (by omega)
      omega
    · omega
theorem dg_le (L : List Int) (i : Nat) (h : i ≤ L.length) : i ≤ dg L i ∧ dg L i ≤ L.length := by
  induction hd : L.length - i generalizing i with
  | zero =>
    rw [dg]
    split
    · rename_i h1
      have := dig_in h1
      omega
    · omega
  | succ d ih =>
    rw [dg]
    split
    · rename_i h1
      have := dig_in h1
      have := ih (i + 1) (by omega) (by omega)
      omega
    · omega
theorem st_le (L : List Int) : ∀ (d i j : Nat), L.length - i ≤ d → st L i = some j → i < j ∧ j ≤ L.length := by
  intro d
  induction d with
  | zero =>
    intro i j hd h
    rw [st, dif_neg (by omega)] at h
    cases h
  | succ d ih =>
    intro i j hd h
    rw [st] at h
    split at h
    · split at h
      · injection h with h
        omega
      · split at h
        · cases h
        · split at h
          · split at h
            · cases h
            · rename_i k hk
              have := escE_le hk
              have := ih k j (by omega) h
              omega
          · have := ih (i + 1) j (by omega) h
            omega
    · cases h
theorem signE_le {L : List Int} {i : Nat} (h : i ≤ L.length) : i ≤ signE L i ∧ signE L i ≤ L.length := by
  unfold signE
  by_cases h1 : at_ L i 43 ∨ at_ L i 45
  · rw [if_pos h1]
    unfold at_ at h1
    omega
  · rw [if_neg h1]
    omega
theorem minusE_le {L : List Int} {i : Nat} (h : i ≤ L.length) : i ≤ minusE L i ∧ minusE L i ≤ L.length := by
  unfold minusE
  by_cases h1 : at_ L i 45
  · rw [if_pos h1]
    unfold at_ at h1
    omega
  · rw [if_neg h1]
    omega
theorem expE_le {L : List Int} {i j : Nat} (hi : i ≤ L.length) (h : expE L i = some j) : i ≤ j ∧ j ≤ L.length := by
  unfold expE at h
  split at h
  · rename_i h1
    unfold at_ at h1
    have h2 := signE_le (L := L) (i := i + 1) (by omega)
    have h3 := dg_le L (signE L (i + 1)) h2.2
    split at h
    · injection h with h
      omega
    · cases h
  · injection h with h
    omega
theorem fracE_le {L : List Int} {i j : Nat} (hi : i ≤ L.length) (h : fracE L i = some j) : i ≤ j ∧ j ≤ L.length := by
  unfold fracE at h
  split at h
  · rename_i h1
    unfold at_ at h1
    split at h
    · have h3 := dg_le L (i + 1) (by omega)
      have := expE_le h3.2 h
      omega
    · cases h
  · exact expE_le hi h
theorem numE_le {L : List Int} {i j : Nat} (hi : i ≤ L.length) (h : numE L i = some j) : i < j ∧ j ≤ L.length := by
  unfold numE at h
  have h0 := minusE_le hi
  split at h
  · rename_i h1
    unfold at_ at h1
    have := fracE_le (by omega) h
    omega
  · split at h
    · have h3 := dg_le L (minusE L i) h0.2
      have := fracE_le h3.2 h
      omega
    · cases h
theorem wordE_le {L w : List Int} {i : Nat} (h : wordE L i w) (hi : i ≤ L.length) : i + w.length ≤ L.length := by
  have := congrArg List.length h
  rw [List.length_take, List.length_drop] at this
  omega
/-! ### What stands in blanks, numbers and words -/
def Pn (c : Int) : Prop := isDig c ∨ c = 43 ∨ c = 45 ∨ c = 46 ∨ c = 101 ∨ c = 69
theorem pn_pl {c : Int} (h : Pn c) : Pl c := by unfold Pn isDig at h; unfold Pl; omega
theorem blank_pl {c : Int} (h : isBlank c) : Pl c := by unfold isBlank at h; unfold Pl; omega
theorem bl_all (L : List Int) : ∀ (d i k : Nat), L.length - i ≤ d → i ≤ k → k < bl L i → isBlank (gb L k) := by
  intro d
  induction d with
  | zero =>
    intro i k hd h1 h2
    rw [bl] at h2
    split at h2
    · rename_i hb
      have := blank_in hb
      omega
    · omega
  | succ d ih =>
    intro i k hd h1 h2
    rw [bl] at h2
    split at h2
    · rename_i hb
      have := blank_in hb
      by_cases e : k = i
      · subst e
        exact hb
      · exact ih (i + 1) k (by omega) (by omega) h2
    · omega
theorem dg_all (L : List Int) : ∀ (d i k : Nat), L.length - i ≤ d → i ≤ k → k < dg L i → isDig (gb L k) := by
  intro d
  induction d with
  | zero =>
    intro i k hd h1 h2
    rw [dg] at h2
    split at h2
    · rename_i hb
      have := dig_in hb
      omega
    · omega
  | succ d ih =>
    intro i k hd h1 h2
    rw [dg] at h2
    split at h2
    · rename_i hb
      have := dig_in hb
      by_cases e : k = i
      · subst e
        exact hb
      · exact ih (i + 1) k (by omega) (by omega) h2
    · omega
theorem exp_all {L : List Int} {i e k : Nat} (hi : i ≤ L.length) (h : expE L i = some e) (h1 : i ≤ k) (h2 : k < e) : Pn (gb L k) := by
  unfold expE at h
  split at h
  · rename_i ha
    have hlt : i < L.length := by unfold at_ at ha; omega
    split at h
    · injection h with h
      subst h
      by_cases e1 : k = i
      · subst e1
        unfold at_ at ha
        unfold Pn
        omega
      · by_cases e2 : k < signE L (i + 1)
        · unfold signE at e2
          split at e2
          · rename_i hs
            obtain rfl : k = i + 1 := by omega
            unfold at_ at hs
            unfold Pn
            omega
          · omega
        · exact .inl (dg_all L _ _ k (Nat.le_refl _) (by omega) h2)
    · cases h
  · injection h with h
    omega
theorem frac_all {L : List Int} {i e k : Nat} (hi : i ≤ L.length) (h : fracE L i = some e) (h1 : i ≤ k) (h2 : k < e) : Pn (gb L k) := by
  unfold fracE at h
  split at h
  · rename_i ha
    unfold at_ at ha
    split at h
    · rename_i hd
      have hdl := dg_le L (i + 1) (by omega)
      by_cases e1 : k = i
      · subst e1
        unfold Pn
        omega
      · by_cases e2 : k < dg L (i + 1)
        · exact .inl (dg_all L _ _ k (Nat.le_refl _) (by omega) e2)
        · exact exp_all (by omega) h (by omega) h2
    · cases h
  · exact exp_all hi h h1 h2
theorem num_all {L : List Int} {i e k : Nat} (hi : i ≤ L.length) (h : numE L i = some e) (h1 : i ≤ k) (h2 : k < e) : Pn (gb L k) := by
  have hm := minusE_le hi
  have hmin : k < minusE L i → Pn (gb L k) := by
    intro hk
    unfold minusE at hk
    split at hk
    · rename_i ha
      obtain rfl : k = i := by omega
      unfold at_ at ha
      unfold Pn
      omega
    · omega
  by_cases hk : k < minusE L i
  · exact hmin hk
  unfold numE at h
  split at h
  · rename_i ha
    unfold at_ at ha
    by_cases e1 : k = minusE L i
    · rw [e1, ha.2]
      unfold Pn isDig
      omega
    · exact frac_all (by omega) h (by omega) h2
  · split at h
    · have hdl := dg_le L (minusE L i) hm.2
      by_cases e2 : k < dg L (minusE L i)
      · exact .inl (dg_all L _ _ k (Nat.le_refl _) (by omega) e2)
      · exact frac_all (by omega) h (by omega) h2
    · cases h
theorem word_gb {L w : List Int} {i k : Nat} (h : wordE L i w) (hk : k < w.length) : gb L (i + k) = w.getD k 0 := by
  have := congrArg (·.getD k 0) h
  simp only [List.getD, List.getElem?_take, List.getElem?_drop, if_pos hk] at this
  exact this
/-- A word's letters. -/
def Pw (c : Int) : Prop := 97 ≤ c ∧ c ≤ 117
theorem pw_pl {c : Int} (h : Pw c) : Pl c := by unfold Pw at h; unfold Pl; omega
theorem word_all {L w : List Int} {i k : Nat} (hw : ∀ x ∈ w, Pw x) (h : wordE L i w) (h1 : i ≤ k) (h2 : k < i + w.length) : Pw (gb L k) := by
  have e := word_gb h (k := k - i) (by omega)
  rw [show i + (k - i) = k by omega] at e
  rw [e]
  have hk : k - i < w.length := by omega
  simp only [List.getD, List.getElem?_eq_getElem hk, Option.getD_some]
  exact hw _ (List.getElem_mem hk)
/-! ### A value is gone over -/
/-- Behind the bracket b's partner at e: the level outside is v. -/
def cl (L : List Int) (o c b : Int) (e : Nat) (v : Int) : Option Nat := if o = b ∧ v = 0 then some e else be L o c e v
def up (o b : Int) : Int := if o = b then 1 else 0
theorem be_shut {L : List Int} {o c b b' : Int} {i : Nat} {v : Int} (hoc : OC o c) (hb : OC b b') (h : at_ L i b') (hv : 1 ≤ v ∨ (v = 0 ∧ o = b)) : be L o c i (v + up o b) = cl L o c b (i + 1) v := by
  have h' := h
  obtain ⟨h1, h2⟩ := h
  unfold OC at hoc hb
  unfold cl up
  by_cases e : o = b
  · have ec : c = b' := by omega
    subst ec
    rw [if_pos e]
    by_cases v0 : v = 0
    · subst v0
      rw [if_pos ⟨e, rfl⟩]
      exact be_end hoc h'
    · rw [if_neg (by omega), be_close hoc h' (by omega)]
      congr 1
      omega
  · rw [if_neg e, if_neg (by omega), be_other h1 (by omega) (by omega) (by omega)]
    congr 1
    omega
theorem be_bl {L : List Int} {o c : Int} {i : Nat} {v : Int} (hoc : OC o c) (hi : i ≤ L.length) : be L o c i v = be L o c (bl L i) v :=
  be_run hoc _ _ _ rfl (bl_le L i hi).1 (bl_le L i hi).2 (fun k h1 h2 => blank_pl (bl_all L _ _ k (Nat.le_refl _) h1 h2))
theorem be_val {L : List Int} {o c : Int} (hoc : OC o c) : ∀ n : Nat,
    (∀ i p e, i ≤ L.length → val L n i = some (p, e) → i ≤ e ∧ e ≤ L.length ∧ ∀ v : Int, 1 ≤ v → be L o c i v = be L o c e v) ∧
    (∀ i r, at_ L i 123 → mem0 L n i = some r → i < r.2.2 ∧ r.2.2 ≤ L.length ∧ ∀ v : Int, (1 ≤ v ∨ (v = 0 ∧ o = 123)) → be L o c (i + 1) (v + up o 123) = cl L o c 123 r.2.2 v) ∧
    (∀ i ns ks r, i ≤ L.length → mems L n i ns ks = some r → i < r.2.2 ∧ r.2.2 ≤ L.length ∧ ∀ v : Int, (1 ≤ v ∨ (v = 0 ∧ o = 123)) → be L o c i (v + up o 123) = cl L o c 123 r.2.2 v) ∧
    (∀ i r, at_ L i 91 → elt0 L n i = some r → i < r.2 ∧ r.2 ≤ L.length ∧ ∀ v : Int, (1 ≤ v ∨ (v = 0 ∧ o = 91)) → be L o c (i + 1) (v + up o 91) = cl L o c 91 r.2 v) ∧
    (∀ i ks r, i ≤ L.length → elts L n i ks = some r → i < r.2 ∧ r.2 ≤ L.length ∧ ∀ v : Int, (1 ≤ v ∨ (v = 0 ∧ o = 91)) → be L o c i (v + up o 91) = cl L o c 91 r.2 v) := by
  have hup : ∀ b, 0 ≤ up o b := fun b => by unfold up; split <;> omega
  have hup1 : ∀ (v b : Int), (1 ≤ v ∨ (v = 0 ∧ o = b)) → 1 ≤ v + up o b := fun v b h => by unfold up; split <;> omega
  intro n
  induction n with
  | zero =>
    refine ⟨fun i p e _ h => ?_, fun i r _ h => ?_, fun i ns ks r _ h => ?_, fun i r _ h => ?_, fun i ks r _ h => ?_⟩
    · simp [val] at h
    · simp [mem0] at h
    · simp [mems] at h
    · simp [elt0] at h
    · simp [elts] at h
  | succ n ih =>
    obtain ⟨ihv, ihm0, ihm, ihe0, ihe⟩ := ih
    refine ⟨fun i p e hi h => ?_, fun i r ha h => ?_, fun i ns ks r hi h => ?_, fun i r ha h => ?_, fun i ks r hi h => ?_⟩
    · rw [val] at h
      split at h
      · rename_i ha
        obtain ⟨r, hr, he⟩ := Option.map_eq_some_iff.1 h
        obtain ⟨h1, h2, h3⟩ := ihm0 i r ha hr
        simp only [Prod.mk.injEq] at he
        obtain ⟨_, rfl⟩ := he
        refine ⟨by omega, h2, fun v hv => ?_⟩
        have := h3 v (.inl hv)
        rw [cl, if_neg (by omega)] at this
        rw [← this]
        by_cases ho : o = 123
        · subst ho
          rw [be_open hoc ha]
          simp [up]
        · have ha' := ha
          unfold at_ at ha'
          unfold OC at hoc
          rw [be_other ha'.1 (by omega) (by omega) (by omega)]
          simp [up, ho]
      rename_i n123
      split at h
      · rename_i ha
        obtain ⟨r, hr, he⟩ := Option.map_eq_some_iff.1 h
        obtain ⟨h1, h2, h3⟩ := ihe0 i r ha hr
        simp only [Prod.mk.injEq] at he
        obtain ⟨_, rfl⟩ := he
        refine ⟨by omega, h2, fun v hv => ?_⟩
        have := h3 v (.inl hv)
        rw [cl, if_neg (by omega)] at this
        rw [← this]
        by_cases ho : o = 91
        · subst ho
          rw [be_open hoc ha]
          simp [up]
        · have ha' := ha
          unfold at_ at ha'
          unfold OC at hoc
          rw [be_other ha'.1 (by omega) (by omega) (by omega)]
          simp [up, ho]
      rename_i n91
      split at h
      · rename_i ha
        obtain ⟨j, hj, he⟩ := Option.map_eq_some_iff.1 h
        simp only [Prod.mk.injEq] at he
        obtain ⟨_, rfl⟩ := he
        have hle := st_le L _ _ _ (Nat.le_refl _) hj
        exact ⟨by omega, hle.2, fun v _ => be_str ha.1 ha.2 (st_qe L _ _ _ (Nat.le_refl _) hj)⟩
      rename_i n34
      split at h
      · rename_i ha
        obtain ⟨j, hj, he⟩ := Option.map_eq_some_iff.1 h
        simp only [Prod.mk.injEq] at he
        obtain ⟨_, rfl⟩ := he
        have hle := numE_le hi hj
        exact ⟨by omega, hle.2, fun v _ => be_run hoc _ _ _ rfl (by omega) hle.2 (fun k h1 h2 => pn_pl (num_all hi hj h1 h2))⟩
      rename_i nnum
      split at h
      · rename_i hw
        have hle := wordE_le hw hi
        injection h with h
        simp only [Prod.mk.injEq] at h
        obtain ⟨_, rfl⟩ := h
        exact ⟨by omega, hle, fun v _ => be_run hoc _ _ _ rfl (by omega) hle (fun k h1 h2 => pw_pl (word_all (by simp [Pw]) hw h1 h2))⟩
      split at h
      · rename_i hw
        have hle := wordE_le hw hi
        injection h with h
        simp only [Prod.mk.injEq] at h
        obtain ⟨_, rfl⟩ := h
        exact ⟨by omega, hle, fun v _ => be_run hoc _ _ _ rfl (by omega) hle (fun k h1 h2 => pw_pl (word_all (by simp [Pw]) hw h1 h2))⟩
      split at h
      · rename_i hw
        have hle := wordE_le hw hi
        injection h with h
        simp only [Prod.mk.injEq] at h
        obtain ⟨_, rfl⟩ := h
        exact ⟨by omega, hle, fun v _ => be_run hoc _ _ _ rfl (by omega) hle (fun k h1 h2 => pw_pl (word_all (by simp [Pw]) hw h1 h2))⟩
      · cases h
    · have hil : i < L.length := ha.1
      have hbl := bl_le L (i + 1) (by omega)
      rw [mem0] at h
      split at h
      · rename_i hc
        injection h with h
        subst h
        have := hc.1
        refine ⟨by simp only; omega, by simp only; omega, fun v hv => ?_⟩
        rw [be_bl hoc (by omega)]
        exact be_shut hoc (.inr ⟨rfl, rfl⟩) hc hv
      · obtain ⟨h1, h2, h3⟩ := ihm _ _ _ _ hbl.2 h
        refine ⟨by omega, h2, fun v hv => ?_⟩
        rw [be_bl hoc (by omega)]
        exact h3 v hv
    · rw [mems] at h
      split at h
      · rename_i h34
        split at h
        · cases h
        · rename_i j hj
          have hle := st_le L _ _ _ (Nat.le_refl _) hj
          have hb1 := bl_le L j hle.2
          split at h
          · rename_i h58
            have l58 := h58.1
            have hb2 := bl_le L (bl L j + 1) (by omega)
            split at h
            · cases h
            · rename_i p e hv
              obtain ⟨v1, v2, v3⟩ := ihv _ _ _ hb2.2 hv
              have hb3 := bl_le L e v2
              have hgo : ∀ v : Int, 1 ≤ v → be L o c i v = be L o c (bl L e) v := by
                intro v hv
                rw [be_str h34.1 h34.2 (st_qe L _ _ _ (Nat.le_refl _) hj), be_bl hoc hle.2, be_plain hoc l58 (by rw [h58.2]; unfold Pl; omega), be_bl hoc (by omega), v3 v hv, be_bl hoc v2]
              split at h
              · rename_i hc
                have := hc.1
                injection h with h
                subst h
                refine ⟨by simp only; omega, by simp only; omega, fun v hv => ?_⟩
                rw [hgo _ (hup1 v 123 hv)]
                exact be_shut hoc (.inr ⟨rfl, rfl⟩) hc hv
              · split at h
                · rename_i hc
                  have := hc.1
                  have hb4 := bl_le L (bl L e + 1) (by omega)
                  obtain ⟨h1, h2, h3⟩ := ihm _ _ _ _ hb4.2 h
                  refine ⟨by omega, h2, fun v hv => ?_⟩
                  rw [hgo _ (hup1 v 123 hv), be_plain hoc hc.1 (by rw [hc.2]; unfold Pl; omega), be_bl hoc (by omega)]
                  exact h3 v hv
                · cases h
          · cases h
      · cases h
    · have hil : i < L.length := ha.1
      have hbl := bl_le L (i + 1) (by omega)
      rw [elt0] at h
      split at h
      · rename_i hc
        injection h with h
        subst h
        have := hc.1
        refine ⟨by simp only; omega, by simp only; omega, fun v hv => ?_⟩
        rw [be_bl hoc (by omega)]
        exact be_shut hoc (.inl ⟨rfl, rfl⟩) hc hv
      · obtain ⟨h1, h2, h3⟩ := ihe _ _ _ hbl.2 h
        refine ⟨by omega, h2, fun v hv => ?_⟩
        rw [be_bl hoc (by omega)]
        exact h3 v hv
    · rw [elts] at h
      split at h
      · cases h
      · rename_i p e hv
        obtain ⟨v1, v2, v3⟩ := ihv _ _ _ hi hv
        have hb3 := bl_le L e v2
        have hgo : ∀ v : Int, 1 ≤ v → be L o c i v = be L o c (bl L e) v := by
          intro v hv
          rw [v3 v hv, be_bl hoc v2]
        split at h
        · rename_i hc
          have := hc.1
          injection h with h
          subst h
          refine ⟨by simp only; omega, by simp only; omega, fun v hv => ?_⟩
          rw [hgo _ (hup1 v 91 hv)]
          exact be_shut hoc (.inl ⟨rfl, rfl⟩) hc hv
        · split at h
          · rename_i hc
            have := hc.1
            have hb4 := bl_le L (bl L e + 1) (by omega)
            obtain ⟨h1, h2, h3⟩ := ihe _ _ _ hb4.2 h
            refine ⟨by omega, h2, fun v hv => ?_⟩
            rw [hgo _ (hup1 v 91 hv), be_plain hoc hc.1 (by rw [hc.2]; unfold Pl; omega), be_bl hoc (by omega)]
            exact h3 v hv
          · cases h
/-- An object's, an array's end is where jsonparser finds it. -/
theorem val_be {L : List Int} {n i e : Nat} {p : S35} (h : val L n i = some (p, e)) :
    (at_ L i 123 → be L 123 125 i 0 = some e) ∧ (at_ L i 91 → be L 91 93 i 0 = some e) := by
  cases n with
  | zero => simp [val] at h
  | succ n =>
    constructor
    · intro ha
      have hoc : OC 123 125 := .inr ⟨rfl, rfl⟩
      rw [val, if_pos ha] at h
      obtain ⟨r, hr, he⟩ := Option.map_eq_some_iff.1 h
      simp only [Prod.mk.injEq] at he
      obtain ⟨_, rfl⟩ := he
      have := ((be_val hoc n).2.1 i r ha hr).2.2 0 (.inr ⟨rfl, rfl⟩)
      rw [be_open hoc ha]
      simpa [up, cl] using this
    · intro ha
      have hoc : OC 91 93 := .inl ⟨rfl, rfl⟩
      rw [val, if_neg (fun x => by unfold at_ at x ha; omega), if_pos ha] at h
      obtain ⟨r, hr, he⟩ := Option.map_eq_some_iff.1 h
      simp only [Prod.mk.injEq] at he
      obtain ⟨_, rfl⟩ := he
      have := ((be_val hoc n).2.2.2.1 i r ha hr).2.2 0 (.inr ⟨rfl, rfl⟩)
      rw [be_open hoc ha]
      simpa [up, cl] using this
/-! ### The printed reader is the plain one -/
theorem bt_gb (s : ByteArray) (i : Nat) : bt s i = gb (Kit.nums s) i := by
  by_cases h : i < s.size
  · rw [gb, Kit.nums_get s i h]
    simp [bt, h]
  · have h2 : (Kit.nums s).length ≤ i := by rw [Kit.nums_len]; omega
    simp [bt, gb, List.getD, List.getElem?_eq_none h2, h]

section
variable {s : ByteArray} (hs : s.size ≤ 1099511627776)
theorem wrap_nat {i : Nat} (h : i ≤ 281474976702464) : wrap64 ((i : Int) + 1) = ((i + 1 : Nat) : Int) := by unfold wrap64; omega
theorem gb_some {i : Nat} (h : gb (Kit.nums s) i ≠ 0) : i < s.size := by
  have := gb_in h
  rwa [Kit.nums_len] at this

theorem blank_f (c : Int) : spec_Blank.f c = some (decide (isBlank c)) := by
  unfold spec_Blank.f isBlank
  by_cases h1 : c = 32
  · simp [h1]
  by_cases h2 : c = 9
  · simp [h2]
  by_cases h3 : c = 10
  · simp [h3]
  by_cases h4 : c = 13
  · simp [h4]
  · simp [h1, h2, h3, h4]
include hs in
theorem bl_ev : ∀ (d i : Nat), s.size - i = d → i ≤ s.size → Ev (fun k => spec_reader_blanks.f k s i) (s, ((bl (Kit.nums s) i : Nat) : Int)) := by
  intro d
  induction d with
  | zero =>
    intro i hd hi
    have hn : ¬ isBlank (gb (Kit.nums s) i) := fun h => by
      have := blank_in h
      rw [Kit.nums_len] at this
      omega
    rw [bl, dif_neg hn]
    unfold spec_reader_blanks.f
    refine Ev.step (f := fun _ => some (s, ((i : Nat) : Int))) (fun k => ?_) (Ev.now _)
    simp only [spec_reader_blanks.l0]
    rw [if_neg (by omega)]
  | succ d ih =>
    intro i hd hi
    unfold spec_reader_blanks.f
    have hlt : (i : Int) < (s.size : Int) := by omega
    by_cases hb : isBlank (gb (Kit.nums s) i)
    · have ih := ih (i + 1) (by omega) (by omega)
      unfold spec_reader_blanks.f at ih
      rw [bl, dif_pos hb]
      refine Ev.step (fun k => ?_) ih
      simp only [spec_reader_blanks.l0]
      rw [if_pos hlt, if_pos (by omega), blank_f, bt_gb, decide_eq_true hb, wrap_nat (by omega)]
      simp
    · rw [bl, dif_neg hb]
      refine Ev.step (f := fun _ => some (s, ((i : Nat) : Int))) (fun k => ?_) (Ev.now _)
      simp only [spec_reader_blanks.l0]
      rw [if_pos hlt, if_pos (by omega), blank_f, bt_gb, decide_eq_false hb]
      simp
include hs in
theorem blanks_ev (i : Nat) (hi : i ≤ s.size) : Ev (fun k => spec_reader_blanks.f k s i) (s, ((bl (Kit.nums s) i : Nat) : Int)) := bl_ev hs _ i rfl hi
theorem here_f (i : Nat) : spec_reader_here.f s i = some (gb (Kit.nums s) i, s, (i : Int)) := by
  unfold spec_reader_here.f
  by_cases h : (i : Int) < (s.size : Int)
  · rw [if_pos h, if_pos (by omega), bt_gb]
  · rw [if_neg h]
    have h2 : (Kit.nums s).length ≤ i := by rw [Kit.nums_len]; omega
    rw [gb_out h2]
theorem take_yes {i : Nat} {c : Int} (hs : s.size ≤ 1099511627776) (h : at_ (Kit.nums s) i c) : spec_reader_take.f s i c = some (true, s, ((i + 1 : Nat) : Int)) := by
  obtain ⟨h1, h2⟩ := h
  rw [Kit.nums_len] at h1
  unfold spec_reader_take.f
  rw [if_pos (by omega), if_pos (by omega), bt_gb, if_pos h2, wrap_nat (by omega)]
theorem take_no {i : Nat} {c : Int} (h : ¬ at_ (Kit.nums s) i c) : spec_reader_take.f s i c = some (false, s, (i : Int)) := by
  unfold spec_reader_take.f
  by_cases hi : (i : Int) < (s.size : Int)
  · rw [if_pos hi, if_pos (by omega), bt_gb, if_neg (fun e => h ⟨by rw [Kit.nums_len]; omega, e⟩)]
  · rw [if_neg hi]

/-- What a part of the reader comes to: the place behind it, or no. -/
def Comes (g : Nat → Option (Bool × ByteArray × Int)) (s : ByteArray) : Option Nat → Prop
  | some j => Ev g (true, s, (j : Int))
  | none => ∃ t a, Ev g (false, t, a)

theorem hex_f (c : Int) : ∃ q, ∀ k, spec_hexDigit.f (k + 2) c = some (q, decide (isHex c)) := by
  refine ⟨if 48 ≤ c ∧ c ≤ 57 then (c - 48) % 256 else if 97 ≤ c ∧ c ≤ 102 then ((c - 97) % 256) + 10 else if 65 ≤ c ∧ c ≤ 70 then ((c - 65) % 256) + 10 else 0, fun k => ?_⟩
  unfold spec_hexDigit.f isHex
  by_cases h1 : 48 ≤ c <;> by_cases h2 : c ≤ 57 <;> by_cases h3 : 97 ≤ c <;> by_cases h4 : c ≤ 102 <;> by_cases h5 : 65 ≤ c <;> by_cases h6 : c ≤ 70 <;> first | omega | simp [spec_hexDigit.j0, spec_hexDigit.j1, h1, h2, h3, h4, h5, h6]

theorem hex_ev (c : Int) : ∃ q, Ev (fun k => spec_hexDigit.f k c) (q, decide (isHex c)) := by
  obtain ⟨q, hq⟩ := hex_f c
  exact ⟨q, 2, fun k hk => by
    obtain ⟨n, rfl⟩ : ∃ x, k = x + 2 := ⟨k - 2, by omega⟩
    exact hq n⟩
theorem hex_round (m : Int) (j : Nat) (hm : m < 4) (k : Nat) :
    spec_reader_escape.l0 (k + 1) m s j = (spec_hexDigit.f k (gb (Kit.nums s) j)).bind fun b => if b.2 = true then spec_reader_escape.l0 k (wrap64 (m + 1)) s (wrap64 ((j : Int) + 1)) else some (false, s, (j : Int)) := by
  simp only [spec_reader_escape.l0]
  rw [if_pos hm, here_f]
  rfl
theorem hex_yes (m : Int) {j : Nat} {r : Bool × ByteArray × Int} (hm : m < 4) (h : isHex (gb (Kit.nums s) j)) (k : Ev (fun k => spec_reader_escape.l0 k (wrap64 (m + 1)) s (wrap64 ((j : Int) + 1))) r) :
    Ev (fun k => spec_reader_escape.l0 k m s (j : Int)) r := by
  obtain ⟨q, hq⟩ := hex_ev (gb (Kit.nums s) j)
  rw [decide_eq_true h] at hq
  exact Ev.step (hex_round m j hm) (hq.bind k)
theorem hex_no (m : Int) {j : Nat} (hm : m < 4) (h : ¬ isHex (gb (Kit.nums s) j)) : Ev (fun k => spec_reader_escape.l0 k m s (j : Int)) (false, s, (j : Int)) := by
  obtain ⟨q, hq⟩ := hex_ev (gb (Kit.nums s) j)
  rw [decide_eq_false h] at hq
  exact Ev.step (hex_round m j hm) (hq.bind (Ev.now _))
theorem hex_end {j : Nat} : Ev (fun k => spec_reader_escape.l0 k 4 s (j : Int)) (true, s, (j : Int)) := by
  refine ⟨1, fun n hn => ?_⟩
  obtain ⟨n, rfl⟩ : ∃ x, n = x + 1 := ⟨n - 1, by omega⟩
  simp [spec_reader_escape.l0]
theorem esc_yes {i : Nat} (c : Int) (hi : i ≤ 281474976702464) : Ev (fun k => spec_reader_escape.j0 k c true s i) (true, s, ((i + 1 : Nat) : Int)) := by
  refine ⟨1, fun n hn => ?_⟩
  obtain ⟨n, rfl⟩ : ∃ x, n = x + 1 := ⟨n - 1, by omega⟩
  simp only [spec_reader_escape.j0, if_true]
  rw [wrap_nat hi]
include hs in
theorem esc_ev (i : Nat) (hi : i ≤ s.size) : Comes (fun k => spec_reader_escape.f k s i) s (escE (Kit.nums s) i) := by
  have hw : i ≤ 281474976702464 := by omega
  have hf : ∀ k, spec_reader_escape.f k s i = spec_reader_escape.j0 k (gb (Kit.nums s) i) (decide (isShort (gb (Kit.nums s) i))) s i := by
    intro k
    unfold spec_reader_escape.f isShort
    rw [here_f]
    simp only [Option.bind_some]
    repeat' split
    all_goals first | (rename_i h; simp [h]; done) | (simp [*]; done) | (simp [*]; rfl)
  unfold escE
  by_cases h : isShort (gb (Kit.nums s) i)
  · rw [if_pos h]
    refine Ev.congr hf ?_
    rw [decide_eq_true h]
    exact esc_yes _ hw
  rw [if_neg h]
  have hb := decide_eq_false h
  by_cases hu : gb (Kit.nums s) i = 117
  · rw [if_pos hu]
    have hg : ∀ r, Ev (fun k => spec_reader_escape.l0 k 0 s ((i + 1 : Nat) : Int)) r → Ev (fun k => spec_reader_escape.f k s i) r := by
      intro r hr
      refine Ev.congr hf (Ev.step (fun k => ?_) hr)
      rw [hb]
      simp only [spec_reader_escape.j0, Bool.false_eq_true, if_false]
      rw [if_pos hu, wrap_nat hw]
    have w1 : wrap64 (((i + 1 : Nat) : Int) + 1) = ((i + 2 : Nat) : Int) := wrap_nat (by omega)
    have w2 : wrap64 (((i + 2 : Nat) : Int) + 1) = ((i + 3 : Nat) : Int) := wrap_nat (by omega)
    have w3 : wrap64 (((i + 3 : Nat) : Int) + 1) = ((i + 4 : Nat) : Int) := wrap_nat (by omega)
    have w4 : wrap64 (((i + 4 : Nat) : Int) + 1) = ((i + 5 : Nat) : Int) := wrap_nat (by omega)
    have m1 : wrap64 ((0 : Int) + 1) = 1 := by unfold wrap64; omega
    have m2 : wrap64 ((1 : Int) + 1) = 2 := by unfold wrap64; omega
    have m3 : wrap64 ((2 : Int) + 1) = 3 := by unfold wrap64; omega
    have m4 : wrap64 ((3 : Int) + 1) = 4 := by unfold wrap64; omega
    by_cases h1 : isHex (gb (Kit.nums s) (i + 1))
    · by_cases h2 : isHex (gb (Kit.nums s) (i + 2))
      · by_cases h3 : isHex (gb (Kit.nums s) (i + 3))
        · by_cases h4 : isHex (gb (Kit.nums s) (i + 4))
          · rw [if_pos ⟨h1, h2, h3, h4⟩]
            refine hg _ (hex_yes 0 (by omega) h1 ?_)
            rw [w1, m1]
            refine hex_yes 1 (by omega) h2 ?_
            rw [w2, m2]
            refine hex_yes 2 (by omega) h3 ?_
            rw [w3, m3]
            refine hex_yes 3 (by omega) h4 ?_
            rw [w4, m4]
            exact hex_end
          · rw [if_neg (fun e => h4 e.2.2.2)]
            refine ⟨s, ((i + 4 : Nat) : Int), hg _ (hex_yes 0 (by omega) h1 ?_)⟩
            rw [w1, m1]
            refine hex_yes 1 (by omega) h2 ?_
            rw [w2, m2]
            refine hex_yes 2 (by omega) h3 ?_
            rw [w3, m3]
            exact hex_no 3 (by omega) h4
        · rw [if_neg (fun e => h3 e.2.2.1)]
          refine ⟨s, ((i + 3 : Nat) : Int), hg _ (hex_yes 0 (by omega) h1 ?_)⟩
          rw [w1, m1]
          refine hex_yes 1 (by omega) h2 ?_
          rw [w2, m2]
          exact hex_no 2 (by omega) h3
      · rw [if_neg (fun e => h2 e.2.1)]
        refine ⟨s, ((i + 2 : Nat) : Int), hg _ (hex_yes 0 (by omega) h1 ?_)⟩
        rw [w1, m1]
        exact hex_no 1 (by omega) h2
    · rw [if_neg (fun e => h1 e.1)]
      exact ⟨s, ((i + 1 : Nat) : Int), hg _ (hex_no 0 (by omega) h1)⟩
  · rw [if_neg hu]
    refine ⟨s, (i : Int), Ev.congr hf (Ev.step (fun k => ?_) (Ev.now _))⟩
    rw [hb]
    simp only [spec_reader_escape.j0, Bool.false_eq_true, if_false]
    rw [if_neg hu]

include hs in
theorem st_ev : ∀ (d i : Nat), s.size - i ≤ d → Comes (fun k => spec_reader_quoted.l0 k s i) s (st (Kit.nums s) i) := by
  intro d
  induction d with
  | zero =>
    intro i hd
    rw [st, dif_neg (by rw [Kit.nums_len]; omega)]
    refine ⟨s, (i : Int), Ev.step (fun k => ?_) (Ev.now _)⟩
    simp only [spec_reader_quoted.l0]
    rw [if_neg (by omega)]
  | succ d ih =>
    intro i hd
    rw [st]
    by_cases hlt : i < s.size
    · rw [dif_pos (by rw [Kit.nums_len]; exact hlt)]
      by_cases h1 : gb (Kit.nums s) i = 34
      · rw [if_pos h1]
        refine Ev.step (fun k => ?_) (Ev.now _)
        simp only [spec_reader_quoted.l0]
        rw [if_pos (by omega), if_pos (by omega), bt_gb, if_pos h1, wrap_nat (by omega)]
      rw [if_neg h1]
      by_cases h2 : gb (Kit.nums s) i < 32
      · rw [if_pos h2]
        refine ⟨s, wrap64 ((i : Int) + 1), Ev.step (fun k => ?_) (Ev.now _)⟩
        simp only [spec_reader_quoted.l0]
        rw [if_pos (by omega), if_pos (by omega), bt_gb, if_neg h1, if_pos h2]
      rw [if_neg h2]
      by_cases h3 : gb (Kit.nums s) i = 92
      · rw [if_pos h3]
        have he := esc_ev hs (i + 1) (by omega)
        have hgo : ∀ k, spec_reader_quoted.l0 (k + 1) s i = (spec_reader_escape.f k s ((i + 1 : Nat) : Int)).bind fun b => if b.1 = true then spec_reader_quoted.l0 k b.2.1 b.2.2 else some (false, b.2.1, b.2.2) := by
          intro k
          simp only [spec_reader_quoted.l0]
          rw [if_pos (by omega), if_pos (by omega), bt_gb, if_neg h1, if_neg h2, if_pos h3, wrap_nat (by omega)]
        cases hE : escE (Kit.nums s) (i + 1) with
        | none =>
          rw [hE] at he
          obtain ⟨t, a, he⟩ := he
          exact ⟨t, a, Ev.step hgo (he.bind (Ev.now _))⟩
        | some j =>
          rw [hE] at he
          have hj := (escE_le hE).1
          have hr := ih j (by omega)
          show Comes _ s (st (Kit.nums s) j)
          cases hS : st (Kit.nums s) j with
          | none =>
            rw [hS] at hr
            obtain ⟨t, a, hr⟩ := hr
            exact ⟨t, a, Ev.step hgo (Ev.bind he hr)⟩
          | some e =>
            rw [hS] at hr
            exact Ev.step hgo (Ev.bind he hr)
      · rw [if_neg h3]
        have hr := ih (i + 1) (by omega)
        have hgo : ∀ k, spec_reader_quoted.l0 (k + 1) s i = spec_reader_quoted.l0 k s ((i + 1 : Nat) : Int) := by
          intro k
          simp only [spec_reader_quoted.l0]
          rw [if_pos (by omega), if_pos (by omega), bt_gb, if_neg h1, if_neg h2, if_neg h3, wrap_nat (by omega)]
        cases hS : st (Kit.nums s) (i + 1) with
        | none =>
          rw [hS] at hr
          obtain ⟨t, a, hr⟩ := hr
          exact ⟨t, a, Ev.step hgo hr⟩
        | some e =>
          rw [hS] at hr
          exact Ev.step hgo hr
    · rw [dif_neg (by rw [Kit.nums_len]; exact hlt)]
      refine ⟨s, (i : Int), Ev.step (fun k => ?_) (Ev.now _)⟩
      simp only [spec_reader_quoted.l0]
      rw [if_neg (by omega)]
include hs in
theorem quoted_ev (i : Nat) (hi : i ≤ s.size) : Comes (fun k => spec_reader_quoted.f k s i) s (st (Kit.nums s) (i + 1)) := by
  have := st_ev hs _ (i + 1) (Nat.le_refl _)
  unfold spec_reader_quoted.f
  rw [wrap_nat (by omega)]
  exact this

include hs in
theorem dgl_ev (b : Int) : ∀ (d i : Nat), s.size - i ≤ d → i ≤ s.size → Ev (fun k => spec_reader_digits.l0 k b (gb (Kit.nums s) i) s i) (decide (b < (dg (Kit.nums s) i : Nat)), s, ((dg (Kit.nums s) i : Nat) : Int)) := by
  intro d
  induction d with
  | zero =>
    intro i hd hi
    have hn : ¬ isDig (gb (Kit.nums s) i) := fun h => by
      have := dig_in h
      rw [Kit.nums_len] at this
      omega
    rw [dg, dif_neg hn]
    refine Ev.step (fun k => ?_) (Ev.now _)
    simp only [spec_reader_digits.l0]
    unfold isDig at hn
    split
    · rw [if_neg (by omega)]
    · rfl
  | succ d ih =>
    intro i hd hi
    by_cases hn : isDig (gb (Kit.nums s) i)
    · rw [dg, dif_pos hn]
      have := dig_in hn
      rw [Kit.nums_len] at this
      refine Ev.step (fun k => ?_) (ih (i + 1) (by omega) (by omega))
      simp only [spec_reader_digits.l0]
      rw [if_pos hn.1, if_pos hn.2, wrap_nat (by omega), here_f]
      rfl
    · rw [dg, dif_neg hn]
      refine Ev.step (fun k => ?_) (Ev.now _)
      simp only [spec_reader_digits.l0]
      unfold isDig at hn
      split
      · rw [if_neg (by omega)]
      · rfl
include hs in
theorem digits_ev (i : Nat) (hi : i ≤ s.size) : Ev (fun k => spec_reader_digits.f k s i) (decide (i < dg (Kit.nums s) i), s, ((dg (Kit.nums s) i : Nat) : Int)) := by
  have := dgl_ev hs (i : Int) _ i (Nat.le_refl _) hi
  unfold spec_reader_digits.f
  simp only [here_f, Option.bind_some]
  simpa using this

include hs in
theorem num_j2 (i : Nat) (hi : i < s.size) : Ev (fun k => spec_reader_number.j2 k true s ((i + 1 : Nat) : Int)) (decide (signE (Kit.nums s) (i + 1) < dg (Kit.nums s) (signE (Kit.nums s) (i + 1))), s, ((dg (Kit.nums s) (signE (Kit.nums s) (i + 1)) : Nat) : Int)) := by
  have hL := Kit.nums_len s
  have hse := signE_le (L := Kit.nums s) (i := i + 1) (by omega)
  have hd := digits_ev hs (signE (Kit.nums s) (i + 1)) (by omega)
  unfold signE at hd ⊢
  by_cases h1 : at_ (Kit.nums s) (i + 1) 43
  · rw [if_pos (.inl h1)] at hd ⊢
    refine Ev.step (fun k => ?_) (hd.bind (Ev.now _))
    simp only [spec_reader_number.j2, if_true]
    rw [take_yes hs h1]
    rfl
  · by_cases h2 : at_ (Kit.nums s) (i + 1) 45
    · rw [if_pos (.inr h2)] at hd ⊢
      refine Ev.step (fun k => ?_) (hd.bind (Ev.now _))
      simp only [spec_reader_number.j2, if_true]
      rw [take_no h1]
      simp only [Option.bind_some, Bool.false_eq_true, if_false]
      rw [take_yes hs h2]
      rfl
    · rw [if_neg (by simp [h1, h2])] at hd ⊢
      refine Ev.step (fun k => ?_) (hd.bind (Ev.now _))
      simp only [spec_reader_number.j2, if_true]
      rw [take_no h1]
      simp only [Option.bind_some, Bool.false_eq_true, if_false]
      rw [take_no h2]
      rfl
include hs in
theorem num_j1 (i : Nat) (_hi : i ≤ s.size) : Comes (fun k => spec_reader_number.j1 k false s i) s (expE (Kit.nums s) i) := by
  unfold expE
  have hj : (at_ (Kit.nums s) i 101 ∨ at_ (Kit.nums s) i 69) → ∀ r, Ev (fun k => spec_reader_number.j2 k true s ((i + 1 : Nat) : Int)) r → Ev (fun k => spec_reader_number.j1 k false s i) r := by
    intro h r hr
    refine Ev.step (fun k => ?_) hr
    simp only [spec_reader_number.j1, Bool.false_eq_true, if_false]
    by_cases h1 : at_ (Kit.nums s) i 101
    · rw [take_yes hs h1]
      rfl
    · have h2 : at_ (Kit.nums s) i 69 := h.resolve_left h1
      rw [take_no h1]
      simp only [Option.bind_some, Bool.false_eq_true, if_false]
      rw [take_yes hs h2]
      rfl
  by_cases h : at_ (Kit.nums s) i 101 ∨ at_ (Kit.nums s) i 69
  · rw [if_pos h]
    have hi2 : i < s.size := by
      rcases h with h | h <;> (have := h.1; rw [Kit.nums_len] at this; exact this)
    have h2 := hj h _ (num_j2 hs i hi2)
    by_cases hd : signE (Kit.nums s) (i + 1) < dg (Kit.nums s) (signE (Kit.nums s) (i + 1))
    · rw [if_pos hd]
      rw [decide_eq_true hd] at h2
      exact h2
    · rw [if_neg hd]
      rw [decide_eq_false hd] at h2
      exact ⟨_, _, h2⟩
  · rw [if_neg h]
    refine ⟨2, fun n hn => ?_⟩
    obtain ⟨n, rfl⟩ : ∃ x, n = x + 2 := ⟨n - 2, by omega⟩
    simp only [spec_reader_number.j1, Bool.false_eq_true, if_false]
    rw [take_no (fun e => h (.inl e))]
    simp only [Option.bind_some, Bool.false_eq_true, if_false]
    rw [take_no (fun e => h (.inr e))]
    simp [spec_reader_number.j2]
theorem Comes.step {g g' : Nat → Option (Bool × ByteArray × Int)} {s : ByteArray} {r : Option Nat} (h : Comes g s r) (k : ∀ r, Ev g r → Ev g' r) : Comes g' s r := by
  cases r with
  | none =>
    obtain ⟨t, a, h⟩ := h
    exact ⟨t, a, k _ h⟩
  | some j => exact k _ h
include hs in
theorem num_j0 (i : Nat) (hi : i ≤ s.size) : Comes (fun k => spec_reader_number.j0 k false s i) s (fracE (Kit.nums s) i) := by
  unfold fracE
  have hL := Kit.nums_len s
  by_cases h : at_ (Kit.nums s) i 46
  · rw [if_pos h]
    have hi2 : i < s.size := by
      have := h.1
      omega
    have hd := digits_ev hs (i + 1) (by omega)
    have hgo : ∀ r, Ev (fun k => spec_reader_number.j1 k (!decide (i + 1 < dg (Kit.nums s) (i + 1))) s ((dg (Kit.nums s) (i + 1) : Nat) : Int)) r → Ev (fun k => spec_reader_number.j0 k false s i) r := by
      intro r hr
      have hgo : ∀ k, spec_reader_number.j0 (k + 1) false s i = (spec_reader_digits.f k s ((i + 1 : Nat) : Int)).bind fun b => spec_reader_number.j1 k (!b.1) b.2.1 b.2.2 := by
        intro k
        simp only [spec_reader_number.j0, Bool.false_eq_true, if_false]
        rw [take_yes hs h]
        rfl
      exact Ev.step hgo (Ev.bind hd hr)
    by_cases hd1 : i + 1 < dg (Kit.nums s) (i + 1)
    · rw [if_pos hd1]
      rw [decide_eq_true hd1] at hgo
      have := dg_le (Kit.nums s) (i + 1) (by omega)
      exact (num_j1 hs (dg (Kit.nums s) (i + 1)) (by omega)).step hgo
    · rw [if_neg hd1]
      rw [decide_eq_false hd1] at hgo
      refine ⟨s, ((dg (Kit.nums s) (i + 1) : Nat) : Int), hgo _ (Ev.step (fun k => ?_) (Ev.now _))⟩
      simp [spec_reader_number.j1]
  · rw [if_neg h]
    refine (num_j1 hs i hi).step fun r hr => Ev.step (fun k => ?_) hr
    simp only [spec_reader_number.j0, Bool.false_eq_true, if_false]
    rw [take_no h]
    rfl
include hs in
theorem number_ev (i : Nat) (hi : i ≤ s.size) : Comes (fun k => spec_reader_number.f k s i) s (numE (Kit.nums s) i) := by
  have hL := Kit.nums_len s
  have hm := minusE_le (L := Kit.nums s) (i := i) (by omega)
  have h0 : ∃ b, spec_reader_take.f s i 45 = some (b, s, ((minusE (Kit.nums s) i : Nat) : Int)) := by
    unfold minusE
    by_cases h : at_ (Kit.nums s) i 45
    · rw [if_pos h]
      exact ⟨_, take_yes hs h⟩
    · rw [if_neg h]
      exact ⟨_, take_no h⟩
  obtain ⟨b0, h0⟩ := h0
  unfold numE spec_reader_number.f
  simp only [h0, Option.bind_some]
  by_cases h : at_ (Kit.nums s) (minusE (Kit.nums s) i) 48
  · rw [if_pos h]
    have := h.1
    rw [take_yes hs h]
    exact num_j0 hs _ (by omega)
  · rw [if_neg h]
    rw [take_no h]
    simp only [Option.bind_some, Bool.false_eq_true, if_false]
    have hd := digits_ev hs (minusE (Kit.nums s) i) (by omega)
    by_cases hd1 : minusE (Kit.nums s) i < dg (Kit.nums s) (minusE (Kit.nums s) i)
    · rw [if_pos hd1]
      rw [decide_eq_true hd1] at hd
      have := dg_le (Kit.nums s) (minusE (Kit.nums s) i) (by omega)
      exact (num_j0 hs _ (by omega)).step fun r hr => Ev.bind hd hr
    · rw [if_neg hd1]
      rw [decide_eq_false hd1] at hd
      refine ⟨s, ((dg (Kit.nums s) (minusE (Kit.nums s) i) : Nat) : Int), hd.bind (Ev.step (fun k => ?_) (Ev.now _))⟩
      simp [spec_reader_number.j0]

theorem nums_inj {a b : ByteArray} : a.toList = b.toList ↔ Kit.nums a = Kit.nums b := by
  rw [ByteArray.toList_eq, ByteArray.toList_eq]
  constructor
  · intro h
    simp [Kit.nums, h]
  · intro h
    exact (List.map_inj_right (f := fun c : UInt8 => (c.toNat : Int)) (fun x y e => UInt8.toNat_inj.1 (by omega))).1 h
theorem word_f (i : Nat) (hi : i ≤ s.size) (hs : s.size ≤ 1099511627776) (w : ByteArray) (hw : w.size ≤ 100) :
    spec_reader_word.f s i w = some (if wordE (Kit.nums s) i (Kit.nums w) then (true, s, ((i + w.size : Nat) : Int)) else (false, s, (i : Int))) := by
  have hL := Kit.nums_len s
  have hLw := Kit.nums_len w
  have w1 : wrap64 ((s.size : Int) - (i : Int)) = (s.size : Int) - (i : Int) := by unfold wrap64; omega
  have w2 : wrap64 ((i : Int) + (w.size : Int)) = ((i + w.size : Nat) : Int) := by unfold wrap64; omega
  unfold spec_reader_word.f
  rw [w1, w2]
  by_cases h1 : (s.size : Int) - (i : Int) < (w.size : Int)
  · rw [if_pos h1, if_neg]
    intro e
    have := congrArg List.length e
    rw [List.length_take, List.length_drop] at this
    omega
  · rw [if_neg h1, if_pos (by omega), if_pos (by omega), if_pos (by omega)]
    have he : (s.extract i (i + w.size)).toList = w.toList ↔ wordE (Kit.nums s) i (Kit.nums w) := by
      unfold wordE
      rw [hLw, nums_inj, Kit.nums_extract]
      have : i + w.size - i = w.size := by omega
      rw [this]
    by_cases h2 : wordE (Kit.nums s) i (Kit.nums w)
    · rw [if_pos h2]
      exact if_pos (he.2 h2)
    · rw [if_neg h2]
      exact if_neg (fun e => h2 (he.1 e))
/-! ### Values -/
def VC (g : Nat → Option (Int × Int × Int × List S72 × List S35 × Bool × ByteArray × Int)) (s : ByteArray) : Option (S35 × Nat) → Prop
  | some (p, e) => Ev g (p.f0, p.f1, p.f2, p.f3, p.f4, true, s, (e : Int))
  | none => ∃ q0 q1 q2 q3 q4 t a, Ev g (q0, q1, q2, q3, q4, false, t, a)
def MC (g : Nat → Option (List S72 × List S35 × Bool × ByteArray × Int)) (s : ByteArray) : Option (List S72 × List S35 × Nat) → Prop
  | some (ns, ks, e) => Ev g (ns, ks, true, s, (e : Int))
  | none => ∃ q0 q1 t a, Ev g (q0, q1, false, t, a)
def EC (g : Nat → Option (List S35 × Bool × ByteArray × Int)) (s : ByteArray) : Option (List S35 × Nat) → Prop
  | some (ks, e) => Ev g (ks, true, s, (e : Int))
  | none => ∃ q1 t a, Ev g (q1, false, t, a)
def ValOK (s : ByteArray) (i : Nat) : Prop :=
  ∃ r, (∀ n, 3 * (s.size - i) + 1 ≤ n → val (Kit.nums s) n i = r) ∧ VC (fun k => spec_reader_value.f k s i) s r ∧ ∀ p e, r = some (p, e) → i < e ∧ e ≤ s.size
def Mem0OK (s : ByteArray) (i : Nat) : Prop :=
  ∃ r, (∀ n, 3 * (s.size - i) ≤ n → mem0 (Kit.nums s) n i = r) ∧ MC (fun k => spec_reader_members.f k s i) s r ∧ ∀ ns ks e, r = some (ns, ks, e) → i < e ∧ e ≤ s.size
def MemsOK (s : ByteArray) (i : Nat) (ns : List S72) (ks : List S35) : Prop :=
  ∃ r, (∀ n, 3 * (s.size - i) + 2 ≤ n → mems (Kit.nums s) n i ns ks = r) ∧ MC (fun k => spec_reader_members.l0 k ns ks s i) s r ∧ ∀ ns ks e, r = some (ns, ks, e) → i < e ∧ e ≤ s.size
def Elt0OK (s : ByteArray) (i : Nat) : Prop :=
  ∃ r, (∀ n, 3 * (s.size - i) ≤ n → elt0 (Kit.nums s) n i = r) ∧ EC (fun k => spec_reader_elements.f k s i) s r ∧ ∀ ks e, r = some (ks, e) → i < e ∧ e ≤ s.size
def EltsOK (s : ByteArray) (i : Nat) (ks : List S35) : Prop :=
  ∃ r, (∀ n, 3 * (s.size - i) + 2 ≤ n → elts (Kit.nums s) n i ks = r) ∧ EC (fun k => spec_reader_elements.l0 k ks s i) s r ∧ ∀ ks e, r = some (ks, e) → i < e ∧ e ≤ s.size

theorem MC.step {g g' : Nat → Option (List S72 × List S35 × Bool × ByteArray × Int)} {s : ByteArray} {r : Option (List S72 × List S35 × Nat)} (h : MC g s r) (k : ∀ r, Ev g r → Ev g' r) : MC g' s r := by
  rcases r with _ | ⟨a, b, c⟩
  · obtain ⟨q0, q1, t, a, h⟩ := h
    exact ⟨q0, q1, t, a, k _ h⟩
  · exact k _ h
theorem EC.step {g g' : Nat → Option (List S35 × Bool × ByteArray × Int)} {s : ByteArray} {r : Option (List S35 × Nat)} (h : EC g s r) (k : ∀ r, Ev g r → Ev g' r) : EC g' s r := by
  rcases r with _ | ⟨a, c⟩
  · obtain ⟨q1, t, a, h⟩ := h
    exact ⟨q1, t, a, k _ h⟩
  · exact k _ h

include hs in
theorem mem0_ok (i : Nat) (hi : i < s.size) (H : ∀ j, i < j → j ≤ s.size → MemsOK s j [] []) : Mem0OK s i := by
  have hL := Kit.nums_len s
  have hb := bl_le (Kit.nums s) (i + 1) (by omega)
  have e1 := blanks_ev hs (i + 1) (by omega)
  have hgo : ∀ k, spec_reader_members.f (k + 1) s i = (spec_reader_blanks.f k s ((i + 1 : Nat) : Int)).bind fun b => (spec_reader_take.f b.1 b.2 125).bind fun t => if t.1 = true then some (([] : List S72), ([] : List S35), true, t.2.1, t.2.2) else spec_reader_members.l0 k [] [] t.2.1 t.2.2 := by
    intro k
    simp only [spec_reader_members.f]
    rw [wrap_nat (by omega)]
  obtain ⟨r, hr, hc, hl⟩ := H (bl (Kit.nums s) (i + 1)) (by omega) (by omega)
  by_cases h : at_ (Kit.nums s) (bl (Kit.nums s) (i + 1)) 125
  · have h1 := h.1
    refine ⟨some ([], [], bl (Kit.nums s) (i + 1) + 1), fun n hn => ?_, ?_, ?_⟩
    · obtain ⟨n, rfl⟩ : ∃ x, n = x + 1 := ⟨n - 1, by omega⟩
      rw [mem0, if_pos h]
    · refine Ev.step hgo (e1.bind ?_)
      simp only [take_yes hs h, Option.bind_some, if_true]
      exact Ev.now _
    · intro ns ks e he
      simp only [Option.some.injEq, Prod.mk.injEq] at he
      omega
  · refine ⟨r, fun n hn => ?_, hc.step fun r hr => Ev.step hgo (e1.bind ?_), fun ns ks e he => ?_⟩
    · obtain ⟨n, rfl⟩ : ∃ x, n = x + 1 := ⟨n - 1, by omega⟩
      rw [mem0, if_neg h]
      exact hr n (by omega)
    · simp only [take_no h, Option.bind_some, Bool.false_eq_true, if_false]
      exact hr
    · have := hl ns ks e he
      omega
include hs in
theorem elt0_ok (i : Nat) (hi : i < s.size) (H : ∀ j, i < j → j ≤ s.size → EltsOK s j []) : Elt0OK s i := by
  have hL := Kit.nums_len s
  have hb := bl_le (Kit.nums s) (i + 1) (by omega)
  have e1 := blanks_ev hs (i + 1) (by omega)
  have hgo : ∀ k, spec_reader_elements.f (k + 1) s i = (spec_reader_blanks.f k s ((i + 1 : Nat) : Int)).bind fun b => (spec_reader_take.f b.1 b.2 93).bind fun t => if t.1 = true then some (([] : List S35), true, t.2.1, t.2.2) else spec_reader_elements.l0 k [] t.2.1 t.2.2 := by
    intro k
    simp only [spec_reader_elements.f]
    rw [wrap_nat (by omega)]
  obtain ⟨r, hr, hc, hl⟩ := H (bl (Kit.nums s) (i + 1)) (by omega) (by omega)
  by_cases h : at_ (Kit.nums s) (bl (Kit.nums s) (i + 1)) 93
  · have h1 := h.1
    refine ⟨some ([], bl (Kit.nums s) (i + 1) + 1), fun n hn => ?_, ?_, ?_⟩
    · obtain ⟨n, rfl⟩ : ∃ x, n = x + 1 := ⟨n - 1, by omega⟩
      rw [elt0, if_pos h]
    · refine Ev.step hgo (e1.bind ?_)
      simp only [take_yes hs h, Option.bind_some, if_true]
      exact Ev.now _
    · intro ks e he
      simp only [Option.some.injEq, Prod.mk.injEq] at he
      omega
  · refine ⟨r, fun n hn => ?_, hc.step fun r hr => Ev.step hgo (e1.bind ?_), fun ks e he => ?_⟩
    · obtain ⟨n, rfl⟩ : ∃ x, n = x + 1 := ⟨n - 1, by omega⟩
      rw [elt0, if_neg h]
      exact hr n (by omega)
    · simp only [take_no h, Option.bind_some, Bool.false_eq_true, if_false]
      exact hr
    · have := hl ks e he
      omega

include hs in
theorem val_ok (i : Nat) (hi : i ≤ s.size) (HM : i < s.size → Mem0OK s i) (HE : i < s.size → Elt0OK s i) : ValOK s i := by
  have hL := Kit.nums_len s
  have hgo : ∀ k, spec_reader_value.f (k + 1) s i = (if gb (Kit.nums s) i = 123 then (spec_reader_members.f k s i).bind fun b => some (6, (i : Int), b.2.2.2.2, b.1, b.2.1, b.2.2.1, b.2.2.2.1, b.2.2.2.2)
      else if gb (Kit.nums s) i = 91 then (spec_reader_elements.f k s i).bind fun b => some (5, (i : Int), b.2.2.2, ([] : List S72), b.1, b.2.1, b.2.2.1, b.2.2.2)
      else if gb (Kit.nums s) i = 34 then (spec_reader_quoted.f k s i).bind fun b => some (4, (i : Int), b.2.2, ([] : List S72), ([] : List S35), b.1, b.2.1, b.2.2)
      else spec_reader_value.j0 k true (decide (gb (Kit.nums s) i = 45 ∨ isDig (gb (Kit.nums s) i))) s i 0 i 0) := by
    intro k
    simp only [spec_reader_value.f, here_f, Option.bind_some]
    by_cases h1 : gb (Kit.nums s) i = 123
    · rw [if_pos h1, if_pos h1]
    by_cases h2 : gb (Kit.nums s) i = 91
    · rw [if_neg h1, if_neg h1, if_pos h2, if_pos h2]
    by_cases h3 : gb (Kit.nums s) i = 34
    · rw [if_neg h1, if_neg h1, if_neg h2, if_neg h2, if_pos h3, if_pos h3]
    rw [if_neg h1, if_neg h1, if_neg h2, if_neg h2, if_neg h3, if_neg h3]
    by_cases h4 : gb (Kit.nums s) i = 45
    · rw [if_pos h4, decide_eq_true (.inl h4)]
    rw [if_neg h4]
    by_cases h5 : 48 ≤ gb (Kit.nums s) i
    · rw [if_pos h5]
      by_cases h6 : gb (Kit.nums s) i ≤ 57
      · rw [decide_eq_true h6, decide_eq_true (.inr ⟨h5, h6⟩)]
      · rw [decide_eq_false h6, decide_eq_false (fun e => e.elim h4 (fun e => h6 e.2))]
    · rw [if_neg h5, decide_eq_false (fun e => e.elim h4 (fun e => h5 e.1))]
  have at0 : ∀ c : Int, c ≠ 0 → (at_ (Kit.nums s) i c ↔ gb (Kit.nums s) i = c) := fun c hc => ⟨fun h => h.2, fun h => ⟨gb_in (by rw [h]; exact hc), h⟩⟩
  by_cases h1 : gb (Kit.nums s) i = 123
  · have a1 := (at0 123 (by decide)).2 h1
    have hlt : i < s.size := by have := a1.1; omega
    obtain ⟨r, hr, hc, hl⟩ := HM hlt
    refine ⟨r.map fun r => (⟨6, (i : Int), (r.2.2 : Int), r.1, r.2.1⟩, r.2.2), fun n hn => ?_, ?_, ?_⟩
    · obtain ⟨n, rfl⟩ : ∃ x, n = x + 1 := ⟨n - 1, by omega⟩
      rw [val, if_pos a1, hr n (by omega)]
    · rcases r with _ | ⟨ns, ks, e⟩
      · obtain ⟨q0, q1, t, a, hc⟩ := hc
        exact ⟨_, _, _, _, _, _, _, Ev.step (fun k => (hgo k).trans (if_pos h1)) (Ev.bind hc (Ev.now _))⟩
      · exact Ev.step (fun k => (hgo k).trans (if_pos h1)) (Ev.bind hc (Ev.now _))
    · intro p e he
      rcases r with _ | ⟨ns, ks, e'⟩
      · cases he
      · simp only [Option.map_some, Option.some.injEq, Prod.mk.injEq] at he
        have := hl ns ks e' rfl
        omega
  have b1 : ¬ at_ (Kit.nums s) i 123 := fun h => h1 h.2
  by_cases h2 : gb (Kit.nums s) i = 91
  · have a2 := (at0 91 (by decide)).2 h2
    have hlt : i < s.size := by have := a2.1; omega
    obtain ⟨r, hr, hc, hl⟩ := HE hlt
    have hgo2 := fun k => (hgo k).trans ((if_neg h1).trans (if_pos h2))
    refine ⟨r.map fun r => (⟨5, (i : Int), (r.2 : Int), [], r.1⟩, r.2), fun n hn => ?_, ?_, ?_⟩
    · obtain ⟨n, rfl⟩ : ∃ x, n = x + 1 := ⟨n - 1, by omega⟩
      rw [val, if_neg b1, if_pos a2, hr n (by omega)]
    · rcases r with _ | ⟨ks, e⟩
      · obtain ⟨q1, t, a, hc⟩ := hc
        exact ⟨_, _, _, _, _, _, _, Ev.step hgo2 (Ev.bind hc (Ev.now _))⟩
      · exact Ev.step hgo2 (Ev.bind hc (Ev.now _))
    · intro p e he
      rcases r with _ | ⟨ks, e'⟩
      · cases he
      · simp only [Option.map_some, Option.some.injEq, Prod.mk.injEq] at he
        have := hl ks e' rfl
        omega
  have b2 : ¬ at_ (Kit.nums s) i 91 := fun h => h2 h.2
  by_cases h3 : gb (Kit.nums s) i = 34
  · have a3 := (at0 34 (by decide)).2 h3
    have hlt : i < s.size := by have := a3.1; omega
    have hc := quoted_ev hs i hi
    have hgo3 := fun k => (hgo k).trans ((if_neg h1).trans ((if_neg h2).trans (if_pos h3)))
    refine ⟨(st (Kit.nums s) (i + 1)).map fun (j : Nat) => (⟨4, (i : Int), (j : Int), [], []⟩, j), fun n hn => ?_, ?_, ?_⟩
    · obtain ⟨n, rfl⟩ : ∃ x, n = x + 1 := ⟨n - 1, by omega⟩
      rw [val, if_neg b1, if_neg b2, if_pos a3]
    · cases hS : st (Kit.nums s) (i + 1) with
      | none =>
        rw [hS] at hc
        obtain ⟨t, a, hc⟩ := hc
        exact ⟨_, _, _, _, _, _, _, Ev.step hgo3 (Ev.bind hc (Ev.now _))⟩
      | some j =>
        rw [hS] at hc
        exact Ev.step hgo3 (Ev.bind hc (Ev.now _))
    · intro p e he
      cases hS : st (Kit.nums s) (i + 1) with
      | none =>
        rw [hS] at he
        cases he
      | some j =>
        rw [hS] at he
        simp only [Option.map_some, Option.some.injEq, Prod.mk.injEq] at he
        have := st_le _ _ _ _ (Nat.le_refl _) hS
        omega
  have b3 : ¬ at_ (Kit.nums s) i 34 := fun h => h3 h.2
  have hgo4 := fun k => (hgo k).trans ((if_neg h1).trans ((if_neg h2).trans (if_neg h3)))
  by_cases h4 : gb (Kit.nums s) i = 45 ∨ isDig (gb (Kit.nums s) i)
  · have a4 : at_ (Kit.nums s) i 45 ∨ isDig (gb (Kit.nums s) i) := h4.imp (at0 45 (by decide)).2 id
    have hc := number_ev hs i hi
    have hgo5 : ∀ k, spec_reader_value.j0 (k + 1) true (decide (gb (Kit.nums s) i = 45 ∨ isDig (gb (Kit.nums s) i))) s i 0 i 0 = (spec_reader_number.f k s i).bind fun b => some (3, (i : Int), b.2.2, ([] : List S72), ([] : List S35), b.1, b.2.1, b.2.2) := by
      intro k
      rw [decide_eq_true h4]
      simp only [spec_reader_value.j0, if_true]
    have hgo6 : ∀ r, Ev (fun k => (spec_reader_number.f k s i).bind fun b => some (3, (i : Int), b.2.2, ([] : List S72), ([] : List S35), b.1, b.2.1, b.2.2)) r → Ev (fun k => spec_reader_value.f k s i) r := fun r hr => Ev.step hgo4 (Ev.step hgo5 hr)
    have hlt : ∀ j, numE (Kit.nums s) i = some j → i < j ∧ j ≤ s.size := fun j h => by
      have := numE_le (by omega) h
      omega
    refine ⟨(numE (Kit.nums s) i).map fun (j : Nat) => (⟨3, (i : Int), (j : Int), [], []⟩, j), fun n hn => ?_, ?_, ?_⟩
    · obtain ⟨n, rfl⟩ : ∃ x, n = x + 1 := ⟨n - 1, by omega⟩
      rw [val, if_neg b1, if_neg b2, if_neg b3, if_pos a4]
    · cases hS : numE (Kit.nums s) i with
      | none =>
        rw [hS] at hc
        obtain ⟨t, a, hc⟩ := hc
        exact ⟨_, _, _, _, _, _, _, hgo6 _ (Ev.bind hc (Ev.now _))⟩
      | some j =>
        rw [hS] at hc
        exact hgo6 _ (Ev.bind hc (Ev.now _))
    · intro p e he
      cases hS : numE (Kit.nums s) i with
      | none =>
        rw [hS] at he
        cases he
      | some j =>
        rw [hS] at he
        simp only [Option.map_some, Option.some.injEq, Prod.mk.injEq] at he
        have := hlt j hS
        omega
  have b4 : ¬ (at_ (Kit.nums s) i 45 ∨ isDig (gb (Kit.nums s) i)) := fun h => h4 (h.imp (fun h => h.2) id)
  have n1 : Kit.nums (⟨#[110, 117, 108, 108]⟩ : ByteArray) = [110, 117, 108, 108] := rfl
  have n2 : Kit.nums (⟨#[102, 97, 108, 115, 101]⟩ : ByteArray) = [102, 97, 108, 115, 101] := rfl
  have n3 : Kit.nums (⟨#[116, 114, 117, 101]⟩ : ByteArray) = [116, 114, 117, 101] := rfl
  have z1 : (⟨#[110, 117, 108, 108]⟩ : ByteArray).size = 4 := rfl
  have z2 : (⟨#[102, 97, 108, 115, 101]⟩ : ByteArray).size = 5 := rfl
  have z3 : (⟨#[116, 114, 117, 101]⟩ : ByteArray).size = 4 := rfl
  have w1 := word_f i hi hs (⟨#[110, 117, 108, 108]⟩ : ByteArray) (by rw [z1]; omega)
  have w2 := word_f i hi hs (⟨#[102, 97, 108, 115, 101]⟩ : ByteArray) (by rw [z2]; omega)
  have w3 := word_f i hi hs (⟨#[116, 114, 117, 101]⟩ : ByteArray) (by rw [z3]; omega)
  rw [n1, z1] at w1
  rw [n2, z2] at w2
  rw [n3, z3] at w3
  have hgo5 : ∀ k, spec_reader_value.j0 (k + 1) true (decide (gb (Kit.nums s) i = 45 ∨ isDig (gb (Kit.nums s) i))) s i 0 i 0 =
      if wordE (Kit.nums s) i [110, 117, 108, 108] then some (0, (i : Int), ((i + 4 : Nat) : Int), ([] : List S72), ([] : List S35), true, s, ((i + 4 : Nat) : Int))
      else if wordE (Kit.nums s) i [102, 97, 108, 115, 101] then some (1, (i : Int), ((i + 5 : Nat) : Int), [], [], true, s, ((i + 5 : Nat) : Int))
      else if wordE (Kit.nums s) i [116, 114, 117, 101] then some (2, (i : Int), ((i + 4 : Nat) : Int), [], [], true, s, ((i + 4 : Nat) : Int))
      else some (0, (i : Int), (i : Int), [], [], false, s, (i : Int)) := by
    intro k
    rw [decide_eq_false h4]
    simp only [spec_reader_value.j0, Bool.false_eq_true, if_false]
    by_cases e1 : wordE (Kit.nums s) i [110, 117, 108, 108]
    · rw [if_pos e1] at w1 ⊢
      simp only [w1, Option.bind_some, if_true]
    rw [if_neg e1] at w1 ⊢
    simp only [w1, Option.bind_some, Bool.false_eq_true, if_false]
    by_cases e2 : wordE (Kit.nums s) i [102, 97, 108, 115, 101]
    · rw [if_pos e2] at w2 ⊢
      simp only [w2, Option.bind_some, if_true]
    rw [if_neg e2] at w2 ⊢
    simp only [w2, Option.bind_some, Bool.false_eq_true, if_false]
    by_cases e3 : wordE (Kit.nums s) i [116, 114, 117, 101]
    · rw [if_pos e3] at w3 ⊢
      simp only [w3, Option.bind_some, if_true]
    rw [if_neg e3] at w3 ⊢
    simp only [w3, Option.bind_some, Bool.false_eq_true, if_false]
  by_cases e1 : wordE (Kit.nums s) i [110, 117, 108, 108]
  · refine ⟨some (⟨0, (i : Int), ((i + 4 : Nat) : Int), [], []⟩, i + 4), fun n hn => ?_, ?_, ?_⟩
    · obtain ⟨n, rfl⟩ : ∃ x, n = x + 1 := ⟨n - 1, by omega⟩
      rw [val, if_neg b1, if_neg b2, if_neg b3, if_neg b4, if_pos e1]
    · exact Ev.step hgo4 (Ev.step (fun k => (hgo5 k).trans (if_pos e1)) (Ev.now _))
    · intro p e he
      simp only [Option.some.injEq, Prod.mk.injEq] at he
      have := wordE_le e1 (by omega)
      simp only [List.length_cons, List.length_nil] at this
      omega
  by_cases e2 : wordE (Kit.nums s) i [102, 97, 108, 115, 101]
  · refine ⟨some (⟨1, (i : Int), ((i + 5 : Nat) : Int), [], []⟩, i + 5), fun n hn => ?_, ?_, ?_⟩
    · obtain ⟨n, rfl⟩ : ∃ x, n = x + 1 := ⟨n - 1, by omega⟩
      rw [val, if_neg b1, if_neg b2, if_neg b3, if_neg b4, if_neg e1, if_pos e2]
    · exact Ev.step hgo4 (Ev.step (fun k => (hgo5 k).trans ((if_neg e1).trans (if_pos e2))) (Ev.now _))
    · intro p e he
      simp only [Option.some.injEq, Prod.mk.injEq] at he
      have := wordE_le e2 (by omega)
      simp only [List.length_cons, List.length_nil] at this
      omega
  by_cases e3 : wordE (Kit.nums s) i [116, 114, 117, 101]
  · refine ⟨some (⟨2, (i : Int), ((i + 4 : Nat) : Int), [], []⟩, i + 4), fun n hn => ?_, ?_, ?_⟩
    · obtain ⟨n, rfl⟩ : ∃ x, n = x + 1 := ⟨n - 1, by omega⟩
      rw [val, if_neg b1, if_neg b2, if_neg b3, if_neg b4, if_neg e1, if_neg e2, if_pos e3]
    · exact Ev.step hgo4 (Ev.step (fun k => (hgo5 k).trans ((if_neg e1).trans ((if_neg e2).trans (if_pos e3)))) (Ev.now _))
    · intro p e he
      simp only [Option.some.injEq, Prod.mk.injEq] at he
      have := wordE_le e3 (by omega)
      simp only [List.length_cons, List.length_nil] at this
      omega
  refine ⟨none, fun n hn => ?_, ?_, ?_⟩
  · obtain ⟨n, rfl⟩ : ∃ x, n = x + 1 := ⟨n - 1, by omega⟩
    rw [val, if_neg b1, if_neg b2, if_neg b3, if_neg b4, if_neg e1, if_neg e2, if_neg e3]
  · exact ⟨_, _, _, _, _, _, _, Ev.step hgo4 (Ev.step (fun k => (hgo5 k).trans ((if_neg e1).trans ((if_neg e2).trans (if_neg e3)))) (Ev.now _))⟩
  · intro p e he
    cases he

include hs in
theorem mems_ok (i : Nat) (ns : List S72) (ks : List S35) (hi : i ≤ s.size) (hn : ns.length ≤ i) (hk : ks.length ≤ i) (HV : ∀ j, i < j → j ≤ s.size → ValOK s j)
    (H : ∀ j ns ks, i < j → j ≤ s.size → ns.length ≤ j → ks.length ≤ j → MemsOK s j ns ks) : MemsOK s i ns ks := by
  have hL := Kit.nums_len s
  have hgo : ∀ k, spec_reader_members.l0 (k + 1) ns ks s i = if gb (Kit.nums s) i = 34 then (spec_reader_quoted.f k s i).bind fun b => spec_reader_members.j1 k ns ks i (!b.1) b.2.1 b.2.2 else spec_reader_members.j1 k ns ks i true s i := by
    intro k
    simp only [spec_reader_members.l0, here_f, Option.bind_some]
  have hbad : ∀ t a, Ev (fun k => spec_reader_members.j1 k ns ks i true t a) ([], [], false, t, a) := fun t a => Ev.step (fun k => by simp only [spec_reader_members.j1, if_true]) (Ev.now _)
  by_cases h1 : gb (Kit.nums s) i = 34
  · have a1 : at_ (Kit.nums s) i 34 := ⟨gb_in (by rw [h1]; decide), h1⟩
    have hlt : i < s.size := by have := a1.1; omega
    have hgo1 := fun k => (hgo k).trans (if_pos h1)
    have hq := quoted_ev hs i hi
    cases hS : st (Kit.nums s) (i + 1) with
    | none =>
      rw [hS] at hq
      obtain ⟨t, a, hq⟩ := hq
      refine ⟨none, fun n hn => ?_, ⟨_, _, _, _, Ev.step hgo1 (Ev.bind hq (hbad t a))⟩, fun _ _ _ he => by cases he⟩
      obtain ⟨n, rfl⟩ : ∃ x, n = x + 1 := ⟨n - 1, by omega⟩
      rw [mems, if_pos a1, hS]
    | some j =>
      rw [hS] at hq
      have hj := st_le _ _ _ _ (Nat.le_refl _) hS
      have hgo2 : ∀ k, spec_reader_members.j1 (k + 1) ns ks i false s j = (spec_reader_blanks.f k s j).bind fun b => (spec_reader_take.f b.1 b.2 58).bind fun t => if t.1 = true then (spec_reader_blanks.f k t.2.1 t.2.2).bind fun c => (spec_reader_value.f k c.1 c.2).bind fun v =>
          if v.2.2.2.2.2.1 = true then (spec_reader_blanks.f k v.2.2.2.2.2.2.1 v.2.2.2.2.2.2.2).bind fun d => (spec_reader_take.f d.1 d.2 125).bind fun u => if u.1 = true then some (ns ++ [⟨(i : Int), (j : Int)⟩], ks ++ [⟨v.1, v.2.1, v.2.2.1, v.2.2.2.1, v.2.2.2.2.1⟩], true, u.2.1, u.2.2) else (spec_reader_take.f u.2.1 u.2.2 44).bind fun x => if x.1 = true then (spec_reader_blanks.f k x.2.1 x.2.2).bind fun y => spec_reader_members.l0 k (ns ++ [⟨(i : Int), (j : Int)⟩]) (ks ++ [⟨v.1, v.2.1, v.2.2.1, v.2.2.2.1, v.2.2.2.2.1⟩]) y.1 y.2 else some ([], [], false, x.2.1, x.2.2)
          else some ([], [], false, v.2.2.2.2.2.2.1, v.2.2.2.2.2.2.2) else some ([], [], false, t.2.1, t.2.2) := by
        intro k
        have h1 : ns.length < 8796093022208 := by omega
        have h2 : ks.length < 1954687338268 := by omega
        simp only [spec_reader_members.j1, Bool.false_eq_true, if_false, Option.bind_some, h1, h2, if_true]
      have hgoA : ∀ r, Ev (fun k => spec_reader_members.j1 k ns ks i false s j) r → Ev (fun k => spec_reader_members.l0 k ns ks s i) r := fun r hr => Ev.step hgo1 (Ev.bind hq hr)
      have hb1 := bl_le (Kit.nums s) j (by omega)
      have e1 := blanks_ev hs j (by omega)
      by_cases h2 : at_ (Kit.nums s) (bl (Kit.nums s) j) 58
      · have hb1' := h2.1
        have e2 := blanks_ev hs (bl (Kit.nums s) j + 1) (by omega)
        have hb2 := bl_le (Kit.nums s) (bl (Kit.nums s) j + 1) (by omega)
        obtain ⟨rv, hrv, hcv, hlv⟩ := HV (bl (Kit.nums s) (bl (Kit.nums s) j + 1)) (by omega) (by omega)
        rcases rv with _ | ⟨p, e⟩
        · obtain ⟨q0, q1, q2, q3, q4, t, a, hcv⟩ := hcv
          refine ⟨none, fun n hn => ?_, ⟨[], [], t, a, hgoA _ (Ev.step hgo2 (e1.bind ?_))⟩, fun _ _ _ he => by cases he⟩
          · obtain ⟨n, rfl⟩ : ∃ x, n = x + 1 := ⟨n - 1, by omega⟩
            rw [mems, if_pos a1, hS]
            simp only [if_pos h2]
            rw [hrv n (by omega)]
          · simp only [take_yes hs h2, Option.bind_some, if_true]
            refine e2.bind (hcv.bind ?_)
            simp only [Bool.false_eq_true, if_false]
            exact Ev.now _
        · have hle := hlv p e rfl
          have heta : (⟨p.f0, p.f1, p.f2, p.f3, p.f4⟩ : S35) = p := by cases p; rfl
          have e3 := blanks_ev hs e (by omega)
          have hb3 := bl_le (Kit.nums s) e (by omega)
          by_cases h3 : at_ (Kit.nums s) (bl (Kit.nums s) e) 125
          · have hb3' := h3.1
            refine ⟨some (ns ++ [⟨(i : Int), (j : Int)⟩], ks ++ [p], bl (Kit.nums s) e + 1), fun n hn => ?_, hgoA _ (Ev.step hgo2 (e1.bind ?_)), fun ns' ks' e' he => ?_⟩
            · obtain ⟨n, rfl⟩ : ∃ x, n = x + 1 := ⟨n - 1, by omega⟩
              rw [mems, if_pos a1, hS]
              simp only [if_pos h2]
              rw [hrv n (by omega)]
              simp only [if_pos h3]
            · simp only [take_yes hs h2, Option.bind_some, if_true]
              refine e2.bind (hcv.bind ?_)
              simp only [if_true]
              refine e3.bind ?_
              simp only [take_yes hs h3, Option.bind_some, if_true, heta]
              exact Ev.now _
            · simp only [Option.some.injEq, Prod.mk.injEq] at he
              omega
          · by_cases h4 : at_ (Kit.nums s) (bl (Kit.nums s) e) 44
            · have hb4' := h4.1
              have e4 := blanks_ev hs (bl (Kit.nums s) e + 1) (by omega)
              have hb4 := bl_le (Kit.nums s) (bl (Kit.nums s) e + 1) (by omega)
              obtain ⟨rr, hrr, hcr, hlr⟩ := H (bl (Kit.nums s) (bl (Kit.nums s) e + 1)) (ns ++ [⟨(i : Int), (j : Int)⟩]) (ks ++ [p]) (by omega) (by omega) (by simp; omega) (by simp; omega)
              refine ⟨rr, fun n hn => ?_, hcr.step fun r hr => hgoA _ (Ev.step hgo2 (e1.bind ?_)), fun ns' ks' e' he => ?_⟩
              · obtain ⟨n, rfl⟩ : ∃ x, n = x + 1 := ⟨n - 1, by omega⟩
                rw [mems, if_pos a1, hS]
                simp only [if_pos h2]
                rw [hrv n (by omega)]
                simp only [if_neg h3, if_pos h4]
                exact hrr n (by omega)
              · simp only [take_yes hs h2, Option.bind_some, if_true]
                refine e2.bind (hcv.bind ?_)
                simp only [if_true]
                refine e3.bind ?_
                simp only [take_no h3, Option.bind_some, Bool.false_eq_true, if_false, take_yes hs h4, if_true, heta]
                exact e4.bind hr
              · have := hlr _ _ _ he
                omega
            · refine ⟨none, fun n hn => ?_, ⟨[], [], s, ((bl (Kit.nums s) e : Nat) : Int), hgoA _ (Ev.step hgo2 (e1.bind ?_))⟩, fun _ _ _ he => by cases he⟩
              · obtain ⟨n, rfl⟩ : ∃ x, n = x + 1 := ⟨n - 1, by omega⟩
                rw [mems, if_pos a1, hS]
                simp only [if_pos h2]
                rw [hrv n (by omega)]
                simp only [if_neg h3, if_neg h4]
              · simp only [take_yes hs h2, Option.bind_some, if_true]
                refine e2.bind (hcv.bind ?_)
                simp only [if_true]
                refine e3.bind ?_
                simp only [take_no h3, Option.bind_some, Bool.false_eq_true, if_false, take_no h4]
                exact Ev.now _
      · refine ⟨none, fun n hn => ?_, ⟨[], [], s, ((bl (Kit.nums s) j : Nat) : Int), hgoA _ (Ev.step hgo2 (e1.bind ?_))⟩, fun _ _ _ he => by cases he⟩
        · obtain ⟨n, rfl⟩ : ∃ x, n = x + 1 := ⟨n - 1, by omega⟩
          rw [mems, if_pos a1, hS]
          simp only [if_neg h2]
        · simp only [take_no h2, Option.bind_some, Bool.false_eq_true, if_false]
          exact Ev.now _
  · refine ⟨none, fun n hn => ?_, ⟨_, _, _, _, Ev.step (fun k => (hgo k).trans (if_neg h1)) (hbad s i)⟩, fun _ _ _ he => by cases he⟩
    obtain ⟨n, rfl⟩ : ∃ x, n = x + 1 := ⟨n - 1, by omega⟩
    rw [mems, if_neg (fun h => h1 h.2)]

include hs in
theorem elts_ok (i : Nat) (ks : List S35) (hi : i ≤ s.size) (hk : ks.length ≤ i) (HV : ValOK s i)
    (H : ∀ j ks, i < j → j ≤ s.size → ks.length ≤ j → EltsOK s j ks) : EltsOK s i ks := by
  have hL := Kit.nums_len s
  have hgo : ∀ k, spec_reader_elements.l0 (k + 1) ks s i = (spec_reader_value.f k s i).bind fun v =>
          if v.2.2.2.2.2.1 = true then (spec_reader_blanks.f k v.2.2.2.2.2.2.1 v.2.2.2.2.2.2.2).bind fun d => (spec_reader_take.f d.1 d.2 93).bind fun u => if u.1 = true then some (ks ++ [⟨v.1, v.2.1, v.2.2.1, v.2.2.2.1, v.2.2.2.2.1⟩], true, u.2.1, u.2.2) else (spec_reader_take.f u.2.1 u.2.2 44).bind fun x => if x.1 = true then (spec_reader_blanks.f k x.2.1 x.2.2).bind fun y => spec_reader_elements.l0 k (ks ++ [⟨v.1, v.2.1, v.2.2.1, v.2.2.2.1, v.2.2.2.2.1⟩]) y.1 y.2 else some ([], false, x.2.1, x.2.2)
          else some ([], false, v.2.2.2.2.2.2.1, v.2.2.2.2.2.2.2) := by
    intro k
    have h2 : ks.length < 1954687338268 := by omega
    simp only [spec_reader_elements.l0, Option.bind_some, h2, if_true]
  obtain ⟨rv, hrv, hcv, hlv⟩ := HV
  rcases rv with _ | ⟨p, e⟩
  · obtain ⟨q0, q1, q2, q3, q4, t, a, hcv⟩ := hcv
    refine ⟨none, fun n hn => ?_, ⟨[], t, a, Ev.step hgo (hcv.bind ?_)⟩, fun _ _ he => by cases he⟩
    · obtain ⟨n, rfl⟩ : ∃ x, n = x + 1 := ⟨n - 1, by omega⟩
      rw [elts, hrv n (by omega)]
    · simp only [Bool.false_eq_true, if_false]
      exact Ev.now _
  · have hle := hlv p e rfl
    have heta : (⟨p.f0, p.f1, p.f2, p.f3, p.f4⟩ : S35) = p := by cases p; rfl
    have e3 := blanks_ev hs e (by omega)
    have hb3 := bl_le (Kit.nums s) e (by omega)
    by_cases h3 : at_ (Kit.nums s) (bl (Kit.nums s) e) 93
    · have hb3' := h3.1
      refine ⟨some (ks ++ [p], bl (Kit.nums s) e + 1), fun n hn => ?_, Ev.step hgo (hcv.bind ?_), fun ks' e' he => ?_⟩
      · obtain ⟨n, rfl⟩ : ∃ x, n = x + 1 := ⟨n - 1, by omega⟩
        rw [elts, hrv n (by omega)]
        simp only [if_pos h3]
      · simp only [if_true]
        refine e3.bind ?_
        simp only [take_yes hs h3, Option.bind_some, if_true, heta]
        exact Ev.now _
      · simp only [Option.some.injEq, Prod.mk.injEq] at he
        omega
    · by_cases h4 : at_ (Kit.nums s) (bl (Kit.nums s) e) 44
      · have hb4' := h4.1
        have e4 := blanks_ev hs (bl (Kit.nums s) e + 1) (by omega)
        have hb4 := bl_le (Kit.nums s) (bl (Kit.nums s) e + 1) (by omega)
        obtain ⟨rr, hrr, hcr, hlr⟩ := H (bl (Kit.nums s) (bl (Kit.nums s) e + 1)) (ks ++ [p]) (by omega) (by omega) (by simp; omega)
        refine ⟨rr, fun n hn => ?_, hcr.step fun r hr => Ev.step hgo (hcv.bind ?_), fun ks' e' he => ?_⟩
        · obtain ⟨n, rfl⟩ : ∃ x, n = x + 1 := ⟨n - 1, by omega⟩
          rw [elts, hrv n (by omega)]
          simp only [if_neg h3, if_pos h4]
          exact hrr n (by omega)
        · simp only [if_true]
          refine e3.bind ?_
          simp only [take_no h3, Option.bind_some, Bool.false_eq_true, if_false, take_yes hs h4, if_true, heta]
          exact e4.bind hr
        · have := hlr _ _ he
          omega
      · refine ⟨none, fun n hn => ?_, ⟨[], s, ((bl (Kit.nums s) e : Nat) : Int), Ev.step hgo (hcv.bind ?_)⟩, fun _ _ he => by cases he⟩
        · obtain ⟨n, rfl⟩ : ∃ x, n = x + 1 := ⟨n - 1, by omega⟩
          rw [elts, hrv n (by omega)]
          simp only [if_neg h3, if_neg h4]
        · simp only [if_true]
          refine e3.bind ?_
          simp only [take_no h3, Option.bind_some, Bool.false_eq_true, if_false, take_no h4]
          exact Ev.now _

include hs in
theorem all_ok : ∀ (d i : Nat), s.size - i ≤ d → i ≤ s.size → ValOK s i ∧ (∀ ns ks, ns.length ≤ i → ks.length ≤ i → MemsOK s i ns ks) ∧ (∀ ks, ks.length ≤ i → EltsOK s i ks) := by
  intro d
  induction d with
  | zero =>
    intro i hd hi
    have hv : ValOK s i := val_ok hs i hi (fun h => by omega) (fun h => by omega)
    exact ⟨hv, fun ns ks h1 h2 => mems_ok hs i ns ks hi h1 h2 (fun j h1 h2 => by omega) (fun j _ _ h1 h2 => by omega), fun ks h1 => elts_ok hs i ks hi h1 hv (fun j _ h1 h2 => by omega)⟩
  | succ d ih =>
    intro i hd hi
    have hv : ValOK s i := val_ok hs i hi (fun h => mem0_ok hs i h (fun j h1 h2 => (ih j (by omega) h2).2.1 [] [] (by simp) (by simp))) (fun h => elt0_ok hs i h (fun j h1 h2 => (ih j (by omega) h2).2.2 [] (by simp)))
    exact ⟨hv, fun ns ks h1 h2 => mems_ok hs i ns ks hi h1 h2 (fun j h1 h2 => (ih j (by omega) h2).1) (fun j ns ks h1 h2 h3 h4 => (ih j (by omega) h2).2.1 ns ks h3 h4), fun ks h1 => elts_ok hs i ks hi h1 hv (fun j ks h1 h2 h3 => (ih j (by omega) h2).2.2 ks h3)⟩
include hs in
theorem value_ok (i : Nat) (hi : i ≤ s.size) : ValOK s i := (all_ok hs _ i (Nat.le_refl _) hi).1
end
/-- spec.Places gives what the plain reader gives. -/
def PC (g : Nat → Option (Int × Int × Int × List S72 × List S35 × Bool)) : Option S35 → Prop
  | some p => Ev g (p.f0, p.f1, p.f2, p.f3, p.f4, true)
  | none => Ev g (0, 0, 0, [], [], false)
theorem places_ev (s : ByteArray) (hs : s.size ≤ 1099511627776) : PC (fun k => spec_Places.f k s) (places (Kit.nums s)) := by
  have hL := Kit.nums_len s
  have hb := bl_le (Kit.nums s) 0 (by omega)
  have e1 := blanks_ev hs 0 (by omega)
  obtain ⟨r, hr, hc, hl⟩ := value_ok hs (bl (Kit.nums s) 0) (by omega)
  unfold places
  rw [hr _ (by omega)]
  rcases r with _ | ⟨p, e⟩
  · obtain ⟨q0, q1, q2, q3, q4, t, a, hc⟩ := hc
    refine e1.bind (hc.bind ?_)
    simp only [Bool.false_eq_true, if_false]
    exact Ev.now _
  · have hle := hl p e rfl
    have e2 := blanks_ev hs e (by omega)
    by_cases h : bl (Kit.nums s) e = (Kit.nums s).length
    · simp only [if_pos h]
      refine e1.bind (hc.bind ?_)
      simp only [if_true]
      refine e2.bind ?_
      simp only [if_pos (show ((bl (Kit.nums s) e : Nat) : Int) = (s.size : Int) by omega)]
      exact Ev.now _
    · simp only [if_neg h]
      refine e1.bind (hc.bind ?_)
      simp only [if_true]
      refine e2.bind ?_
      simp only [if_neg (show ¬ ((bl (Kit.nums s) e : Nat) : Int) = (s.size : Int) by omega)]
      exact Ev.now _
/-! ### What is cut off has no value -/
theorem bl_yes {L : List Int} {i : Nat} (h : isBlank (gb L i)) : bl L i = bl L (i + 1) := by rw [bl, dif_pos h]
theorem bl_no {L : List Int} {i : Nat} (h : ¬ isBlank (gb L i)) : bl L i = i := by rw [bl, dif_neg h]
theorem bl_take (L : List Int) (cut : Nat) : ∀ (d i : Nat), L.length - i ≤ d → i ≤ cut → bl (L.take cut) i = min (bl L i) cut ∨ (cut < i) := by
  intro d
  induction d with
  | zero =>
    intro i hd hi
    left
    have n1 : ¬ isBlank (gb L i) := fun h => by have := blank_in h; omega
    have n2 : ¬ isBlank (gb (L.take cut) i) := fun h => by have := blank_in h; rw [List.length_take] at this; omega
    rw [bl_no n2, bl_no n1]
    omega
  | succ d ih =>
    intro i hd hi
    left
    by_cases hlt : i < cut
    · have e : gb (L.take cut) i = gb L i := gb_take hlt
      by_cases hb : isBlank (gb L i)
      · rw [bl_yes (L := L.take cut) (by rw [e]; exact hb), bl_yes hb]
        rcases ih (i + 1) (by have := blank_in hb; omega) (by omega) with h | h
        · exact h
        · omega
      · rw [bl_no (L := L.take cut) (by rw [e]; exact hb), bl_no hb]
        omega
    · have hic : i = cut := by omega
      have n2 : ¬ isBlank (gb (L.take cut) i) := fun h => by have := blank_in h; rw [List.length_take] at this; omega
      rw [bl_no n2]
      by_cases hil : i ≤ L.length
      · have := (bl_le L i hil).1
        omega
      · rw [bl_no (L := L) (fun h => by have := blank_in h; omega)]
        omega
/-- What stands first, its kind and its end, as jsonparser sees them. -/
def Fst (L : List Int) (b : Nat) (r : Option Nat) : Prop :=
  bl L 0 = b ∧ b < L.length ∧ ((gb L b = 34 ∧ r = qe L (b + 1) false) ∨ (gb L b = 91 ∧ r = be L 91 93 b 0) ∨ (gb L b = 123 ∧ r = be L 123 125 b 0))
theorem cut_law (L : List Int) (p : S35) (h : places L = some p) (hk : 4 ≤ p.f0) (cut : Nat) (hc : (cut : Int) < p.f2) :
    cut ≤ L.length ∧ (∃ b e, Fst L b (some e)) ∧ ((L.take cut).length ≤ bl (L.take cut) 0 ∨ ∃ b, Fst (L.take cut) b none) := by
  unfold places at h
  split at h
  · cases h
  rename_i p' e hv
  split at h
  case isFalse => cases h
  injection h with h
  subst h
  have hb := bl_le L 0 (Nat.zero_le _)
  obtain ⟨b, hbe⟩ : ∃ b, bl L 0 = b := ⟨_, rfl⟩
  rw [hbe] at hv hb
  have key : p'.f2 = (e : Int) ∧ b < L.length ∧ ((gb L b = 34 ∧ qe L (b + 1) false = some e) ∨ (gb L b = 91 ∧ be L 91 93 b 0 = some e) ∨ (gb L b = 123 ∧ be L 123 125 b 0 = some e)) := by
    have hvb := val_be hv
    rw [show 3 * L.length + 3 = (3 * L.length + 2) + 1 from rfl, val] at hv
    split at hv
    · rename_i ha
      obtain ⟨r, hr, he⟩ := Option.map_eq_some_iff.1 hv
      simp only [Prod.mk.injEq] at he
      obtain ⟨rfl, rfl⟩ := he
      exact ⟨rfl, ha.1, .inr (.inr ⟨ha.2, hvb.1 ha⟩)⟩
    split at hv
    · rename_i ha
      obtain ⟨r, hr, he⟩ := Option.map_eq_some_iff.1 hv
      simp only [Prod.mk.injEq] at he
      obtain ⟨rfl, rfl⟩ := he
      exact ⟨rfl, ha.1, .inr (.inl ⟨ha.2, hvb.2 ha⟩)⟩
    split at hv
    · rename_i ha
      obtain ⟨j, hj, he⟩ := Option.map_eq_some_iff.1 hv
      simp only [Prod.mk.injEq] at he
      obtain ⟨rfl, rfl⟩ := he
      exact ⟨rfl, ha.1, .inl ⟨ha.2, st_qe L _ _ _ (Nat.le_refl _) hj⟩⟩
    split at hv
    · obtain ⟨j, hj, he⟩ := Option.map_eq_some_iff.1 hv
      simp only [Prod.mk.injEq] at he
      obtain ⟨rfl, rfl⟩ := he
      simp at hk
    split at hv
    · injection hv with hv
      simp only [Prod.mk.injEq] at hv
      obtain ⟨rfl, rfl⟩ := hv
      simp at hk
    split at hv
    · injection hv with hv
      simp only [Prod.mk.injEq] at hv
      obtain ⟨rfl, rfl⟩ := hv
      simp at hk
    split at hv
    · injection hv with hv
      simp only [Prod.mk.injEq] at hv
      obtain ⟨rfl, rfl⟩ := hv
      simp at hk
    · cases hv
  obtain ⟨hf, hbl, hend⟩ := key
  have hce : cut < e := by omega
  have hel := ((be_val (L := L) (o := 91) (c := 93) (.inl ⟨rfl, rfl⟩) _).1 b p' e hb.2 hv).2.1
  refine ⟨by omega, ⟨b, e, hbe, hbl, ?_⟩, ?_⟩
  · rcases hend with ⟨h1, h2⟩ | ⟨h1, h2⟩ | ⟨h1, h2⟩
    · exact .inl ⟨h1, h2.symm⟩
    · exact .inr (.inl ⟨h1, h2.symm⟩)
    · exact .inr (.inr ⟨h1, h2.symm⟩)
  · have ht : bl (L.take cut) 0 = min b cut := by
      rcases bl_take L cut _ 0 (Nat.le_refl _) (Nat.zero_le _) with h | h
      · rw [h, hbe]
      · omega
    by_cases hbc : b < cut
    · right
      refine ⟨b, by rw [ht]; omega, by rw [List.length_take]; omega, ?_⟩
      rw [gb_take hbc]
      rcases hend with ⟨h1, h2⟩ | ⟨h1, h2⟩ | ⟨h1, h2⟩
      · exact .inl ⟨h1, (qe_cut L cut _ _ _ _ (Nat.le_refl _) h2 hce).symm⟩
      · exact .inr (.inl ⟨h1, (be_cut cut _ _ _ _ (Nat.le_refl _) h2 hce).symm⟩)
      · exact .inr (.inr ⟨h1, (be_cut cut _ _ _ _ (Nat.le_refl _) h2 hce).symm⟩)
    · left
      rw [ht, List.length_take]
      omega
/-- The printed reader of whole texts. -/
theorem jpPlaces_ev (s : ByteArray) : PC (fun k => laws_jpPlaces.f k s) (if s.size ≤ 65536 then places (Kit.nums s) else none) := by
  by_cases h : s.size ≤ 65536
  · rw [if_pos h]
    have e := places_ev s (by omega)
    have hf : (fun k => laws_jpPlaces.f k s) = fun k => (spec_Places.f k s).bind fun b => some (b.1, b.2.1, b.2.2.1, b.2.2.2.1, b.2.2.2.2.1, b.2.2.2.2.2) := by
      funext k
      unfold laws_jpPlaces.f
      rw [if_neg (by omega)]
    rw [hf]
    cases hp : places (Kit.nums s) with
    | none =>
      rw [hp] at e
      exact Ev.bind e (Ev.now _)
    | some p =>
      rw [hp] at e
      exact Ev.bind e (Ev.now _)
  · rw [if_neg h]
    have hf : (fun k => laws_jpPlaces.f k s) = fun _ => some (0, 0, 0, [], [], false) := by
      funext k
      unfold laws_jpPlaces.f
      rw [if_pos (by omega)]
    rw [hf]
    exact Ev.now _

end Go.Proofs.YtgbliniamkpocaaDoor.Pure
