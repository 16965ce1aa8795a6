/- Where jsonparser finds a value's end, in plain words. -/
import Derived.Test.YtgbliniamkpocaaDoorG10
namespace Go.Proofs.YtgbliniamkpocaaDoor.Pure
open Go.RowKit Go.Proofs.YtgbliniamkpocaaDoor.PPl Go.Proofs.YtgbliniamkpocaaDoor.Jp Go.Proofs.YtgbliniamkpocaaDoorW.PrintWords
/-! ### What stands in blanks, numbers and words -/
def Pn (c : Int) : Prop := isDig c ∨ c = 43 ∨ c = 45 ∨ c = 46 ∨ c = 101 ∨ c = 69
theorem pn_pl {c : Int} (h : Pn c) : Pl c := by unfold Pn isDig at h; unfold Pl; omega
theorem blank_pl {c : Int} (h : isBlank c) : Pl c := by unfold isBlank at h; unfold Pl; omega
theorem bl_all (L : List Int) : ∀ (d i k : Nat), L.length - i ≤ d → i ≤ k → k < bl L i → isBlank (gb L k) := by
  intro d
  induction d with
  | zero =>
    intro i k hd h1 h2
    rw [bl] at h2
    split at h2
    · rename_i hb
      have := blank_in hb
      omega
    · omega
  | succ d ih =>
    intro i k hd h1 h2
    rw [bl] at h2
    split at h2
    · rename_i hb
      have := blank_in hb
      by_cases e : k = i
      · subst e
        exact hb
      · exact ih (i + 1) k (by omega) (by omega) h2
    · omega
theorem dg_all (L : List Int) : ∀ (d i k : Nat), L.length - i ≤ d → i ≤ k → k < dg L i → isDig (gb L k) := by
  intro d
  induction d with
  | zero =>
    intro i k hd h1 h2
    rw [dg] at h2
    split at h2
    · rename_i hb
      have := dig_in hb
      omega
    · omega
  | succ d ih =>
    intro i k hd h1 h2
    rw [dg] at h2
    split at h2
    · rename_i hb
      have := dig_in hb
      by_cases e : k = i
      · subst e
        exact hb
      · exact ih (i + 1) k (by omega) (by omega) h2
    · omega
theorem exp_all {L : List Int} {i e k : Nat} (hi : i ≤ L.length) (h : expE L i = some e) (h1 : i ≤ k) (h2 : k < e) : Pn (gb L k) := by
  unfold expE at h
  split at h
  · rename_i ha
    have hlt : i < L.length := by unfold at_ at ha; omega
    split at h
    · injection h with h
      subst h
      by_cases e1 : k = i
      · subst e1
        unfold at_ at ha
        unfold Pn
        omega
      · by_cases e2 : k < signE L (i + 1)
        · unfold signE at e2
          split at e2
          · rename_i hs
            obtain rfl : k = i + 1 := by omega
            unfold at_ at hs
            unfold Pn
            omega
          · omega
        · exact .inl (dg_all L _ _ k (Nat.le_refl _) (by omega) h2)
    · cases h
  · injection h with h
    omega
theorem frac_all {L : List Int} {i e k : Nat} (hi : i ≤ L.length) (h : fracE L i = some e) (h1 : i ≤ k) (h2 : k < e) : Pn (gb L k) := by
  unfold fracE at h
  split at h
  · rename_i ha
    unfold at_ at ha
    split at h
    · rename_i hd
      have hdl := dg_le L (i + 1) (by omega)
      by_cases e1 : k = i
      · subst e1
        unfold Pn
        omega
      · by_cases e2 : k < dg L (i + 1)
        · exact .inl (dg_all L _ _ k (Nat.le_refl _) (by omega) e2)
        · exact exp_all (by omega) h (by omega) h2
    · cases h
  · exact exp_all hi h h1 h2
theorem num_all {L : List Int} {i e k : Nat} (hi : i ≤ L.length) (h : numE L i = some e) (h1 : i ≤ k) (h2 : k < e) : Pn (gb L k) := by
  have hm := minusE_le hi
  have hmin : k < minusE L i → Pn (gb L k) := by
    intro hk
    unfold minusE at hk
    split at hk
    · rename_i ha
      obtain rfl : k = i := by omega
      unfold at_ at ha
      unfold Pn
      omega
    · omega
  by_cases hk : k < minusE L i
  · exact hmin hk
  unfold numE at h
  split at h
  · rename_i ha
    unfold at_ at ha
    by_cases e1 : k = minusE L i
    · rw [e1, ha.2]
      unfold Pn isDig
      omega
    · exact frac_all (by omega) h (by omega) h2
  · split at h
    · have hdl := dg_le L (minusE L i) hm.2
      by_cases e2 : k < dg L (minusE L i)
      · exact .inl (dg_all L _ _ k (Nat.le_refl _) (by omega) e2)
      · exact frac_all (by omega) h (by omega) h2
    · cases h
theorem word_gb {L w : List Int} {i k : Nat} (h : wordE L i w) (hk : k < w.length) : gb L (i + k) = w.getD k 0 := by
  have := congrArg (·.getD k 0) h
  simp only [List.getD, List.getElem?_take, List.getElem?_drop, if_pos hk] at this
  exact this
/-- A word's letters. -/
def Pw (c : Int) : Prop := 97 ≤ c ∧ c ≤ 117
theorem pw_pl {c : Int} (h : Pw c) : Pl c := by unfold Pw at h; unfold Pl; omega
theorem word_all {L w : List Int} {i k : Nat} (hw : ∀ x ∈ w, Pw x) (h : wordE L i w) (h1 : i ≤ k) (h2 : k < i + w.length) : Pw (gb L k) := by
  have e := word_gb h (k := k - i) (by omega)
  rw [show i + (k - i) = k by omega] at e
  rw [e]
  have hk : k - i < w.length := by omega
  simp only [List.getD, List.getElem?_eq_getElem hk, Option.getD_some]
  exact hw _ (List.getElem_mem hk)
/-! ### A value is gone over -/
/-- Behind the bracket b's partner at e: the level outside is v. -/
def cl (L : List Int) (o c b : Int) (e : Nat) (v : Int) : Option Nat := if o = b ∧ v = 0 then some e else be L o c e v
def up (o b : Int) : Int := if o = b then 1 else 0
theorem be_shut {L : List Int} {o c b b' : Int} {i : Nat} {v : Int} (hoc : OC o c) (hb : OC b b') (h : at_ L i b') (hv : 1 ≤ v ∨ (v = 0 ∧ o = b)) : be L o c i (v + up o b) = cl L o c b (i + 1) v := by
  have h' := h
  obtain ⟨h1, h2⟩ := h
  unfold OC at hoc hb
  unfold cl up
  by_cases e : o = b
  · have ec : c = b' := by omega
    subst ec
    rw [if_pos e]
    by_cases v0 : v = 0
    · subst v0
      rw [if_pos ⟨e, rfl⟩]
      exact be_end hoc h'
    · rw [if_neg (by omega), be_close hoc h' (by omega)]
      congr 1
      omega
  · rw [if_neg e, if_neg (by omega), be_other h1 (by omega) (by omega) (by omega)]
    congr 1
    omega
theorem be_bl {L : List Int} {o c : Int} {i : Nat} {v : Int} (hoc : OC o c) (hi : i ≤ L.length) : be L o c i v = be L o c (bl L i) v :=
  be_run hoc _ _ _ rfl (bl_le L i hi).1 (bl_le L i hi).2 (fun k h1 h2 => blank_pl (bl_all L _ _ k (Nat.le_refl _) h1 h2))
theorem be_val {L : List Int} {o c : Int} (hoc : OC o c) : ∀ n : Nat,
    (∀ i p e, i ≤ L.length → val L n i = some (p, e) → i ≤ e ∧ e ≤ L.length ∧ ∀ v : Int, 1 ≤ v → be L o c i v = be L o c e v) ∧
    (∀ i r, at_ L i 123 → mem0 L n i = some r → i < r.2.2 ∧ r.2.2 ≤ L.length ∧ ∀ v : Int, (1 ≤ v ∨ (v = 0 ∧ o = 123)) → be L o c (i + 1) (v + up o 123) = cl L o c 123 r.2.2 v) ∧
    (∀ i ns ks r, i ≤ L.length → mems L n i ns ks = some r → i < r.2.2 ∧ r.2.2 ≤ L.length ∧ ∀ v : Int, (1 ≤ v ∨ (v = 0 ∧ o = 123)) → be L o c i (v + up o 123) = cl L o c 123 r.2.2 v) ∧
    (∀ i r, at_ L i 91 → elt0 L n i = some r → i < r.2 ∧ r.2 ≤ L.length ∧ ∀ v : Int, (1 ≤ v ∨ (v = 0 ∧ o = 91)) → be L o c (i + 1) (v + up o 91) = cl L o c 91 r.2 v) ∧
    (∀ i ks r, i ≤ L.length → elts L n i ks = some r → i < r.2 ∧ r.2 ≤ L.length ∧ ∀ v : Int, (1 ≤ v ∨ (v = 0 ∧ o = 91)) → be L o c i (v + up o 91) = cl L o c 91 r.2 v) := by
  have hup : ∀ b, 0 ≤ up o b := fun b => by unfold up; split <;> omega
  have hup1 : ∀ (v b : Int), (1 ≤ v ∨ (v = 0 ∧ o = b)) → 1 ≤ v + up o b := fun v b h => by unfold up; split <;> omega
  intro n
  induction n with
  | zero =>
    refine ⟨fun i p e _ h => ?_, fun i r _ h => ?_, fun i ns ks r _ h => ?_, fun i r _ h => ?_, fun i ks r _ h => ?_⟩
    · simp [val] at h
    · simp [mem0] at h
    · simp [mems] at h
    · simp [elt0] at h
    · simp [elts] at h
  | succ n ih =>
    obtain ⟨ihv, ihm0, ihm, ihe0, ihe⟩ := ih
    refine ⟨fun i p e hi h => ?_, fun i r ha h => ?_, fun i ns ks r hi h => ?_, fun i r ha h => ?_, fun i ks r hi h => ?_⟩
    · rw [val] at h
      split at h
      · rename_i ha
        obtain ⟨r, hr, he⟩ := Option.map_eq_some_iff.1 h
        obtain ⟨h1, h2, h3⟩ := ihm0 i r ha hr
        simp only [Prod.mk.injEq] at he
        obtain ⟨_, rfl⟩ := he
        refine ⟨by omega, h2, fun v hv => ?_⟩
        have := h3 v (.inl hv)
        rw [cl, if_neg (by omega)] at this
        rw [← this]
        by_cases ho : o = 123
        · subst ho
          rw [be_open hoc ha]
          simp [up]
        · have ha' := ha
          unfold at_ at ha'
          unfold OC at hoc
          rw [be_other ha'.1 (by omega) (by omega) (by omega)]
          simp [up, ho]
      rename_i n123
      split at h
      · rename_i ha
        obtain ⟨r, hr, he⟩ := Option.map_eq_some_iff.1 h
        obtain ⟨h1, h2, h3⟩ := ihe0 i r ha hr
        simp only [Prod.mk.injEq] at he
        obtain ⟨_, rfl⟩ := he
        refine ⟨by omega, h2, fun v hv => ?_⟩
        have := h3 v (.inl hv)
        rw [cl, if_neg (by omega)] at this
        rw [← this]
        by_cases ho : o = 91
        · subst ho
          rw [be_open hoc ha]
          simp [up]
        · have ha' := ha
          unfold at_ at ha'
          unfold OC at hoc
          rw [be_other ha'.1 (by omega) (by omega) (by omega)]
          simp [up, ho]
      rename_i n91
      split at h
      · rename_i ha
        obtain ⟨j, hj, he⟩ := Option.map_eq_some_iff.1 h
        simp only [Prod.mk.injEq] at he
        obtain ⟨_, rfl⟩ := he
        have hle := st_le L _ _ _ (Nat.le_refl _) hj
        exact ⟨by omega, hle.2, fun v _ => be_str ha.1 ha.2 (st_qe L _ _ _ (Nat.le_refl _) hj)⟩
      rename_i n34
      split at h
      · rename_i ha
        obtain ⟨j, hj, he⟩ := Option.map_eq_some_iff.1 h
        simp only [Prod.mk.injEq] at he
        obtain ⟨_, rfl⟩ := he
        have hle := numE_le hi hj
        exact ⟨by omega, hle.2, fun v _ => be_run hoc _ _ _ rfl (by omega) hle.2 (fun k h1 h2 => pn_pl (num_all hi hj h1 h2))⟩
      rename_i nnum
      split at h
      · rename_i hw
        have hle := wordE_le hw hi
        injection h with h
        simp only [Prod.mk.injEq] at h
        obtain ⟨_, rfl⟩ := h
        exact ⟨by omega, hle, fun v _ => be_run hoc _ _ _ rfl (by omega) hle (fun k h1 h2 => pw_pl (word_all (by simp [Pw]) hw h1 h2))⟩
      split at h
      · rename_i hw
        have hle := wordE_le hw hi
        injection h with h
        simp only [Prod.mk.injEq] at h
        obtain ⟨_, rfl⟩ := h
        exact ⟨by omega, hle, fun v _ => be_run hoc _ _ _ rfl (by omega) hle (fun k h1 h2 => pw_pl (word_all (by simp [Pw]) hw h1 h2))⟩
      split at h
      · rename_i hw
        have hle := wordE_le hw hi
        injection h with h
        simp only [Prod.mk.injEq] at h
        obtain ⟨_, rfl⟩ := h
        exact ⟨by omega, hle, fun v _ => be_run hoc _ _ _ rfl (by omega) hle (fun k h1 h2 => pw_pl (word_all (by simp [Pw]) hw h1 h2))⟩
      · cases h
    · have hil : i < L.length := ha.1
      have hbl := bl_le L (i + 1) (by omega)
      rw [mem0] at h
      split at h
      · rename_i hc
        injection h with h
        subst h
        have := hc.1
        refine ⟨by simp only; omega, by simp only; omega, fun v hv => ?_⟩
        rw [be_bl hoc (by omega)]
        exact be_shut hoc (.inr ⟨rfl, rfl⟩) hc hv
      · obtain ⟨h1, h2, h3⟩ := ihm _ _ _ _ hbl.2 h
        refine ⟨by omega, h2, fun v hv => ?_⟩
        rw [be_bl hoc (by omega)]
        exact h3 v hv
    · rw [mems] at h
      split at h
      · rename_i h34
        split at h
        · cases h
        · rename_i j hj
          have hle := st_le L _ _ _ (Nat.le_refl _) hj
          have hb1 := bl_le L j hle.2
          split at h
          · rename_i h58
            have l58 := h58.1
            have hb2 := bl_le L (bl L j + 1) (by omega)
            split at h
            · cases h
            · rename_i p e hv
              obtain ⟨v1, v2, v3⟩ := ihv _ _ _ hb2.2 hv
              have hb3 := bl_le L e v2
              have hgo : ∀ v : Int, 1 ≤ v → be L o c i v = be L o c (bl L e) v := by
                intro v hv
                rw [be_str h34.1 h34.2 (st_qe L _ _ _ (Nat.le_refl _) hj), be_bl hoc hle.2, be_plain hoc l58 (by rw [h58.2]; unfold Pl; omega), be_bl hoc (by omega), v3 v hv, be_bl hoc v2]
              split at h
              · rename_i hc
                have := hc.1
                injection h with h
                subst h
                refine ⟨by simp only; omega, by simp only; omega, fun v hv => ?_⟩
                rw [hgo _ (hup1 v 123 hv)]
                exact be_shut hoc (.inr ⟨rfl, rfl⟩) hc hv
              · split at h
                · rename_i hc
                  have := hc.1
                  have hb4 := bl_le L (bl L e + 1) (by omega)
                  obtain ⟨h1, h2, h3⟩ := ihm _ _ _ _ hb4.2 h
                  refine ⟨by omega, h2, fun v hv => ?_⟩
                  rw [hgo _ (hup1 v 123 hv), be_plain hoc hc.1 (by rw [hc.2]; unfold Pl; omega), be_bl hoc (by omega)]
                  exact h3 v hv
                · cases h
          · cases h
      · cases h
    · have hil : i < L.length := ha.1
      have hbl := bl_le L (i + 1) (by omega)
      rw [elt0] at h
      split at h
      · rename_i hc
        injection h with h
        subst h
        have := hc.1
        refine ⟨by simp only; omega, by simp only; omega, fun v hv => ?_⟩
        rw [be_bl hoc (by omega)]
        exact be_shut hoc (.inl ⟨rfl, rfl⟩) hc hv
      · obtain ⟨h1, h2, h3⟩ := ihe _ _ _ hbl.2 h
        refine ⟨by omega, h2, fun v hv => ?_⟩
        rw [be_bl hoc (by omega)]
        exact h3 v hv
    · rw [elts] at h
      split at h
      · cases h
      · rename_i p e hv
        obtain ⟨v1, v2, v3⟩ := ihv _ _ _ hi hv
        have hb3 := bl_le L e v2
        have hgo : ∀ v : Int, 1 ≤ v → be L o c i v = be L o c (bl L e) v := by
          intro v hv
          rw [v3 v hv, be_bl hoc v2]
        split at h
        · rename_i hc
          have := hc.1
          injection h with h
          subst h
          refine ⟨by simp only; omega, by simp only; omega, fun v hv => ?_⟩
          rw [hgo _ (hup1 v 91 hv)]
          exact be_shut hoc (.inl ⟨rfl, rfl⟩) hc hv
        · split at h
          · rename_i hc
            have := hc.1
            have hb4 := bl_le L (bl L e + 1) (by omega)
            obtain ⟨h1, h2, h3⟩ := ihe _ _ _ hb4.2 h
            refine ⟨by omega, h2, fun v hv => ?_⟩
            rw [hgo _ (hup1 v 91 hv), be_plain hoc hc.1 (by rw [hc.2]; unfold Pl; omega), be_bl hoc (by omega)]
            exact h3 v hv
          · cases h
/-- An object's, an array's end is where jsonparser finds it. -/
theorem val_be {L : List Int} {n i e : Nat} {p : S35} (h : val L n i = some (p, e)) :
    (at_ L i 123 → be L 123 125 i 0 = some e) ∧ (at_ L i 91 → be L 91 93 i 0 = some e) := by
  cases n with
  | zero => simp [val] at h
  | succ n =>
    constructor
    · intro ha
      have hoc : OC 123 125 := .inr ⟨rfl, rfl⟩
      rw [val, if_pos ha] at h
      obtain ⟨r, hr, he⟩ := Option.map_eq_some_iff.1 h
      simp only [Prod.mk.injEq] at he
      obtain ⟨_, rfl⟩ := he
      have := ((be_val hoc n).2.1 i r ha hr).2.2 0 (.inr ⟨rfl, rfl⟩)
      rw [be_open hoc ha]
      simpa [up, cl] using this
    · intro ha
      have hoc : OC 91 93 := .inl ⟨rfl, rfl⟩
      rw [val, if_neg (fun x => by unfold at_ at x ha; omega), if_pos ha] at h
      obtain ⟨r, hr, he⟩ := Option.map_eq_some_iff.1 h
      simp only [Prod.mk.injEq] at he
      obtain ⟨_, rfl⟩ := he
      have := ((be_val hoc n).2.2.2.1 i r ha hr).2.2 0 (.inr ⟨rfl, rfl⟩)
      rw [be_open hoc ha]
      simpa [up, cl] using this
/-! ### What is cut off has no value -/
theorem bl_yes {L : List Int} {i : Nat} (h : isBlank (gb L i)) : bl L i = bl L (i + 1) := by rw [bl, dif_pos h]
theorem bl_no {L : List Int} {i : Nat} (h : ¬ isBlank (gb L i)) : bl L i = i := by rw [bl, dif_neg h]
/-! ### What jsonparser takes for a value is the value -/
theorem pn_dl {c : Int} (h : Pn c) : ¬ isDl c := by unfold Pn isDig at h; unfold isDl; omega
theorem pw_dl {c : Int} (h : Pw c) : ¬ isDl c := by unfold Pw at h; unfold isDl; omega
/-- jsonparser's number for a kind of value. -/
def jk (k : Int) : Int := if k = 4 then 1 else if k = 3 then 2 else if k = 6 then 3 else if k = 5 then 4 else if k = 1 ∨ k = 2 then 5 else 6
theorem word_te {L w : List Int} {i : Nat} (hw : ∀ x ∈ w, Pw x) (h : wordE L i w) (hi : i ≤ L.length) (he : i + w.length = L.length ∨ isDl (gb L (i + w.length))) : te L i = i + w.length ∧ (L.take (te L i)).drop i = w := by
  have hle := wordE_le h hi
  have ht : te L i = i + w.length := te_end _ _ _ rfl (by omega) hle (fun k h1 h2 => pw_dl (word_all hw h h1 h2)) he
  refine ⟨ht, ?_⟩
  rw [ht, List.drop_take, Nat.add_sub_cancel_left]
  exact h
theorem val_gtv {L : List Int} {n i e : Nat} {p : S35} (h : val L n i = some (p, e)) (hi : i ≤ L.length) (he : e = L.length ∨ isDl (gb L e)) : Gtv L i (jk p.f0) e ∧ p.f1 = i ∧ p.f2 = e ∧ i < e ∧ e ≤ L.length := by
  have hvb := val_be h
  have hle := ((be_val (L := L) (o := 91) (c := 93) (.inl ⟨rfl, rfl⟩) n).1 i p e hi h)
  cases n with
  | zero => simp [val] at h
  | succ n =>
    rw [val] at h
    split at h
    · rename_i ha
      obtain ⟨r, hr, hre⟩ := Option.map_eq_some_iff.1 h
      simp only [Prod.mk.injEq] at hre
      obtain ⟨rfl, rfl⟩ := hre
      have := be_le L _ _ _ _ _ _ (Nat.le_refl _) (hvb.1 ha)
      exact ⟨.inr (.inr (.inl ⟨ha.2, rfl, hvb.1 ha⟩)), rfl, rfl, this.1, this.2⟩
    split at h
    · rename_i ha
      obtain ⟨r, hr, hre⟩ := Option.map_eq_some_iff.1 h
      simp only [Prod.mk.injEq] at hre
      obtain ⟨rfl, rfl⟩ := hre
      have := be_le L _ _ _ _ _ _ (Nat.le_refl _) (hvb.2 ha)
      exact ⟨.inr (.inl ⟨ha.2, rfl, hvb.2 ha⟩), rfl, rfl, this.1, this.2⟩
    split at h
    · rename_i ha
      obtain ⟨j, hj, hre⟩ := Option.map_eq_some_iff.1 h
      simp only [Prod.mk.injEq] at hre
      obtain ⟨rfl, rfl⟩ := hre
      have := st_le L _ _ _ (Nat.le_refl _) hj
      exact ⟨.inl ⟨ha.2, rfl, st_qe L _ _ _ (Nat.le_refl _) hj⟩, rfl, rfl, by omega, this.2⟩
    split at h
    · rename_i ha
      obtain ⟨j, hj, hre⟩ := Option.map_eq_some_iff.1 h
      simp only [Prod.mk.injEq] at hre
      obtain ⟨rfl, rfl⟩ := hre
      have hn := numE_le hi hj
      have hx : gb L i = 45 ∨ (48 ≤ gb L i ∧ gb L i ≤ 57) := by
        rcases ha with ha | ha
        · exact .inl ha.2
        · exact .inr ha
      exact ⟨.inr (.inr (.inr (.inl ⟨hx, rfl, te_end _ _ _ rfl (by omega) hn.2 (fun k h1 h2 => pn_dl (num_all hi hj h1 h2)) he⟩))), rfl, rfl, by omega, hn.2⟩
    split at h
    · rename_i hw
      have hwl := wordE_le hw hi
      injection h with h
      simp only [Prod.mk.injEq] at h
      obtain ⟨rfl, rfl⟩ := h
      have := word_te (by simp [Pw]) hw hi he
      exact ⟨.inr (.inr (.inr (.inr (.inr (.inr ⟨this.2, rfl, this.1⟩))))), rfl, rfl, by omega, hwl⟩
    split at h
    · rename_i hw
      have hwl := wordE_le hw hi
      injection h with h
      simp only [Prod.mk.injEq] at h
      obtain ⟨rfl, rfl⟩ := h
      have := word_te (by simp [Pw]) hw hi he
      exact ⟨.inr (.inr (.inr (.inr (.inr (.inl ⟨this.2, rfl, this.1⟩))))), rfl, rfl, by omega, hwl⟩
    split at h
    · rename_i hw
      have hwl := wordE_le hw hi
      injection h with h
      simp only [Prod.mk.injEq] at h
      obtain ⟨rfl, rfl⟩ := h
      have := word_te (by simp [Pw]) hw hi he
      exact ⟨.inr (.inr (.inr (.inr (.inl ⟨this.2, rfl, this.1⟩)))), rfl, rfl, by omega, hwl⟩
    · cases h

end Go.Proofs.YtgbliniamkpocaaDoor.Pure
