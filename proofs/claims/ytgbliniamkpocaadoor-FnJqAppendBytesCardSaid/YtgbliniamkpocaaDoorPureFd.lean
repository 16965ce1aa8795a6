/- The search for keys over the values of a JSON text; the reference's steps. -/
import Derived.Test.YtgbliniamkpocaaDoorPureGet
import Derived.Test.YtgbliniamkpocaaDoorG8
namespace Go.Proofs.YtgbliniamkpocaaDoor.Pure
open Go.RowKit Go.Proofs.YtgbliniamkpocaaDoor.PPl Go.Proofs.YtgbliniamkpocaaDoor.Jp Go.Proofs.YtgbliniamkpocaaDoorW.PrintWords
/-! ### The search for keys goes over a value -/
/-- What the search goes over byte by byte. -/
def Po (c : Int) : Prop := c ≠ 34 ∧ c ≠ 123 ∧ c ≠ 125 ∧ c ≠ 91 ∧ c ≠ 58
theorem pn_po {c : Int} (h : Pn c) : Po c := by unfold Pn isDig at h; unfold Po; omega
theorem blank_po {c : Int} (h : isBlank c) : Po c := by unfold isBlank at h; unfold Po; omega
theorem pw_po {c : Int} (h : Pw c) : Po c := by unfold Pw at h; unfold Po; omega
section
variable {S : Sk} {L : List Int} {lv kl : Int} {lm : Bool}
theorem sk_other {i : Nat} (h : i < L.length) (hp : Po (gb L i)) : sk S L i lv kl lm = sk S L (i + 1) lv kl lm := by
  obtain ⟨h1, h2, h3, h4, h5⟩ := hp
  exact sk_inr (r := (i + 1, lv, kl, lm)) h (by unfold skStep; rw [if_neg h1, if_neg h2, if_neg h3, if_neg h4, if_neg h5])
theorem sk_run : ∀ (d i e : Nat), e - i = d → i ≤ e → e ≤ L.length → (∀ k, i ≤ k → k < e → Po (gb L k)) → sk S L i lv kl lm = sk S L e lv kl lm := by
  intro d
  induction d with
  | zero =>
    intro i e hd h1 h2 hp
    obtain rfl : i = e := by omega
    rfl
  | succ d ih =>
    intro i e hd h1 h2 hp
    rw [sk_other (by omega) (hp i (Nat.le_refl _) (by omega))]
    exact ih (i + 1) e (by omega) (by omega) h2 (fun k h3 h4 => hp k (by omega) h4)
theorem sk_bl {i : Nat} (hi : i ≤ L.length) : sk S L i lv kl lm = sk S L (bl L i) lv kl lm :=
  sk_run _ _ _ rfl (bl_le L i hi).1 (bl_le L i hi).2 (fun k h1 h2 => blank_po (bl_all L _ _ k (Nat.le_refl _) h1 h2))
theorem sk_word {w : List Int} {i : Nat} (hw : ∀ x ∈ w, Pw x) (h : wordE L i w) (hi : i ≤ L.length) : sk S L i lv kl lm = sk S L (bl L (i + w.length)) lv kl lm := by
  have hle := wordE_le h hi
  rw [sk_run _ _ _ rfl (by omega) hle (fun k h1 h2 => pw_po (word_all hw h h1 h2)), sk_bl hle]
theorem sk_val {n i e : Nat} {p : S35} (h : val L n i = some (p, e)) (hi : i ≤ L.length) (hlm : lm = false ∨ p.f0 ≠ 6) (hix : ¬ (kl = lv ∧ S.ix lv.toNat = true) ∨ p.f0 ≠ 5) (hf : p.f0 ≠ 4 ∨ (bl L e < L.length ∧ gb L (bl L e) ≠ 58)) :
    sk S L i lv kl lm = sk S L (bl L e) lv kl lm := by
  have hvb := val_be h
  have hle := ((be_val (L := L) (o := 91) (c := 93) (.inl ⟨rfl, rfl⟩) n).1 i p e hi h).2.1
  cases n with
  | zero => simp [val] at h
  | succ n =>
    rw [val] at h
    split at h
    · rename_i ha
      obtain ⟨r, hr, hre⟩ := Option.map_eq_some_iff.1 h
      simp only [Prod.mk.injEq] at hre
      obtain ⟨rfl, rfl⟩ := hre
      have hl : lm = false := by
        rcases hlm with h | h
        · exact h
        · exact absurd rfl h
      subst hl
      have hb := hvb.1 ha
      have ha2 := ha.2
      rw [sk_inr (r := (r.2.2, lv, kl, false)) ha.1 (by unfold skStep; rw [if_neg (by omega), if_pos ha2, if_neg (by simp), hb])]
      exact sk_bl hle
    split at h
    · rename_i ha
      obtain ⟨r, hr, hre⟩ := Option.map_eq_some_iff.1 h
      simp only [Prod.mk.injEq] at hre
      obtain ⟨rfl, rfl⟩ := hre
      have hx : ¬ (kl = lv ∧ S.ix lv.toNat = true) := by
        rcases hix with h | h
        · exact h
        · exact absurd rfl h
      have hb := hvb.2 ha
      have ha2 := ha.2
      rw [sk_inr (r := (r.2, lv, kl, lm)) ha.1 (by unfold skStep; rw [if_neg (by omega), if_neg (by omega), if_neg (by omega), if_pos ha2, if_neg hx, hb])]
      exact sk_bl hle
    split at h
    · rename_i ha
      obtain ⟨j, hj, hre⟩ := Option.map_eq_some_iff.1 h
      simp only [Prod.mk.injEq] at hre
      obtain ⟨rfl, rfl⟩ := hre
      have hq := st_qe L _ _ _ (Nat.le_refl _) hj
      have hf2 := hf.resolve_left (fun h => h rfl)
      exact sk_inr (r := (bl L j, lv, kl, lm)) ha.1 (by unfold skStep; rw [if_pos ha.2, hq]; simp only; rw [if_pos hf2.1, if_neg hf2.2])
    split at h
    · obtain ⟨j, hj, hre⟩ := Option.map_eq_some_iff.1 h
      simp only [Prod.mk.injEq] at hre
      obtain ⟨rfl, rfl⟩ := hre
      have hn := numE_le hi hj
      rw [sk_run _ _ _ rfl (by omega) hn.2 (fun k h1 h2 => pn_po (num_all hi hj h1 h2))]
      exact sk_bl hle
    split at h
    · rename_i hw
      injection h with h
      simp only [Prod.mk.injEq] at h
      obtain ⟨rfl, rfl⟩ := h
      exact sk_word (by simp [Pw]) hw hi
    split at h
    · rename_i hw
      injection h with h
      simp only [Prod.mk.injEq] at h
      obtain ⟨rfl, rfl⟩ := h
      exact sk_word (by simp [Pw]) hw hi
    split at h
    · rename_i hw
      injection h with h
      simp only [Prod.mk.injEq] at h
      obtain ⟨rfl, rfl⟩ := h
      exact sk_word (by simp [Pw]) hw hi
    · cases h
end
theorem mems_pre {L : List Int} : ∀ (n i : Nat) (ns : List S72) (ks : List S35) (r : List S72 × List S35 × Nat), mems L n i ns ks = some r → ∀ x ∈ ns, x ∈ r.1 := by
  intro n
  induction n with
  | zero =>
    intro i ns ks r h
    simp [mems] at h
  | succ n ih =>
    intro i ns ks r h x hx
    rw [mems] at h
    repeat' split at h
    all_goals first
      | (cases h; done)
      | (injection h with h; subst h; simp [hx]; done)
      | exact ih _ _ _ _ h x (by simp [hx])
theorem mems_ext {L : List Int} : ∀ (n i : Nat) (ns : List S72) (ks : List S35) (r : List S72 × List S35 × Nat), mems L n i ns ks = some r → (∃ t, r.1 = ns ++ t) ∧ (∃ t, r.2.1 = ks ++ t) := by
  intro n
  induction n with
  | zero =>
    intro i ns ks r h
    simp [mems] at h
  | succ n ih =>
    intro i ns ks r h
    rw [mems] at h
    repeat' split at h
    all_goals first
      | (cases h; done)
      | (injection h with h; subst h; exact ⟨⟨_, rfl⟩, ⟨_, rfl⟩⟩)
      | (obtain ⟨⟨t1, e1⟩, ⟨t2, e2⟩⟩ := ih _ _ _ _ h; exact ⟨⟨_, by rw [e1, List.append_assoc]⟩, ⟨_, by rw [e2, List.append_assoc]⟩⟩)
theorem sk_q {S : Sk} {lv kl : Int} (hkl : kl = lv - 1 ∨ (kl = lv ∧ S.ix lv.toNat = false) ∨ lv < kl) (h : kl = lv) (h2 : S.ix lv.toNat = true) : False := by
  rcases hkl with h3 | h3 | h3
  · omega
  · rw [h3.2] at h2
    cases h2
  · omega
/-- No member from i on has the name that is sought: the search goes over them, and out of the object. -/
theorem sk_miss {S : Sk} {L : List Int} {lv kl : Int} (hkl : kl = lv - 1 ∨ (kl = lv ∧ S.ix lv.toNat = false) ∨ lv < kl) (h1 : 1 ≤ lv) (h2 : lv ≤ S.lk) : ∀ (n i : Nat) (ns : List S72) (ks : List S35) (r : List S72 × List S35 × Nat) (lm : Bool), i ≤ L.length → ns.length = ks.length → mems L n i ns ks = some r →
    (∀ k y, ns.length ≤ k → r.1[k]? = some y → ∀ a b : Nat, y.f0 = a → y.f1 = b → S.bad (a + 1) (b - 1) = false ∧ S.eq (a + 1) (b - 1) (lv - 1).toNat = false) →
    sk S L i lv kl lm = sk S L r.2.2 (lv - 1) (if kl = lv - 1 then kl - 1 else kl) false := by
  intro n
  induction n with
  | zero =>
    intro i ns ks r lm hi hlen h
    simp [mems] at h
  | succ n ih =>
    intro i ns ks r lm hi hlen h hno
    have hext := mems_ext _ _ _ _ _ h
    rw [mems] at h
    split at h
    · rename_i h34
      split at h
      · cases h
      · rename_i j hj
        have hle := st_le L _ _ _ (Nat.le_refl _) hj
        have hb1 := bl_le L j hle.2
        split at h
        · rename_i h58
          have l58 := h58.1
          have hb2 := bl_le L (bl L j + 1) (by omega)
          split at h
          · cases h
          · rename_i p e hv
            have hve := ((be_val (L := L) (o := 91) (c := 93) (.inl ⟨rfl, rfl⟩) n).1 _ p e hb2.2 hv).2.1
            have hb3 := bl_le L e hve
            have hq := st_qe L _ _ _ (Nat.le_refl _) hj
            have hgo : (S.bad (i + 1) (j - 1) = false ∧ S.eq (i + 1) (j - 1) (lv - 1).toNat = false) → bl L e < L.length → gb L (bl L e) ≠ 58 → sk S L i lv kl lm = sk S L (bl L e) lv kl false := by
              intro hn hl hc
              rw [sk_inr (r := (bl L j + 1, lv, kl, false)) h34.1 (by
                unfold skStep
                rw [if_pos h34.2, hq]
                simp only
                rw [if_pos l58, if_pos h58.2, if_neg (by omega), if_neg (by rw [hn.1]; simp), if_pos h2, if_neg (by rw [hn.2]; simp)])]
              show sk S L (bl L j + 1) lv kl false = _
              rw [sk_bl (by omega)]
              exact sk_val hv hb2.2 (.inl rfl) (.inl (fun hh => sk_q hkl hh.1 hh.2)) (.inr ⟨hl, hc⟩)
            split at h
            · rename_i hc
              injection h with h
              subst h
              have hn := hno ns.length ⟨(i : Int), (j : Int)⟩ (Nat.le_refl _) (by simp) i j rfl rfl
              have hc2 := hc.2
              rw [hgo hn hc.1 (by omega)]
              rw [sk_inr (r := (bl L e + 1, lv - 1, if lv - 1 = kl then kl - 1 else kl, false)) hc.1 (by unfold skStep; rw [if_neg (by omega), if_neg (by omega), if_pos hc2])]
              simp only [eq_comm]
            · split at h
              · rename_i hc
                have hc2 := hc.2
                have hb4 := bl_le L (bl L e + 1) (by have := hc.1; omega)
                have hn := hno ns.length ⟨(i : Int), (j : Int)⟩ (Nat.le_refl _) (by obtain ⟨⟨t1, e1⟩, _⟩ := mems_ext _ _ _ _ _ h; rw [e1]; simp) i j rfl rfl
                rw [hgo hn hc.1 (by omega), sk_other hc.1 (by unfold Po; omega), sk_bl (by have := hc.1; omega)]
                exact ih _ _ _ _ _ hb4.2 (by simp [hlen]) h (fun k y hk => hno k y (by simp at hk; omega))
              · cases h
        · cases h
    · cases h
/-- The first member that has the name that is sought: number m. -/
theorem sk_hit {S : Sk} {L : List Int} {lv kl : Int} (hkl : kl = lv - 1) (h1 : 1 ≤ lv) (h2 : lv ≤ S.lk) : ∀ (n i : Nat) (ns : List S72) (ks : List S35) (r : List S72 × List S35 × Nat) (lm : Bool) (m : Nat) (x : S72), i ≤ L.length → ns.length = ks.length → mems L n i ns ks = some r →
    ns.length ≤ m → r.1[m]? = some x → (∀ a b : Nat, x.f0 = a → x.f1 = b → S.bad (a + 1) (b - 1) = false ∧ S.eq (a + 1) (b - 1) (lv - 1).toNat = true) →
    (∀ k y, ns.length ≤ k → k < m → r.1[k]? = some y → ∀ a b : Nat, y.f0 = a → y.f1 = b → S.bad (a + 1) (b - 1) = false ∧ S.eq (a + 1) (b - 1) (lv - 1).toNat = false) →
    ∃ b p e n', r.2.1[m]? = some p ∧ b ≤ L.length ∧ val L n' (bl L b) = some (p, e) ∧ bl L e < L.length ∧ gb L (bl L e) ≠ 58 ∧ (gb L (bl L e) = 125 ∧ r.2.2 = bl L e + 1 ∨ gb L (bl L e) = 44 ∧ ∃ n2 ns2 ks2, mems L n2 (bl L (bl L e + 1)) ns2 ks2 = some r ∧ ns2.length = m + 1 ∧ ks2.length = m + 1) ∧ sk S L i lv kl lm = if lv = S.lk then (b : Int) else sk S L b lv lv true := by
  intro n
  induction n with
  | zero =>
    intro i ns ks r lm m x hi hlen h
    simp [mems] at h
  | succ n ih =>
    intro i ns ks r lm m x hi hlen h hm hx heq hno
    have hext := mems_ext _ _ _ _ _ h
    rw [mems] at h
    split at h
    · rename_i h34
      split at h
      · cases h
      · rename_i j hj
        have hle := st_le L _ _ _ (Nat.le_refl _) hj
        have hb1 := bl_le L j hle.2
        split at h
        · rename_i h58
          have l58 := h58.1
          have hb2 := bl_le L (bl L j + 1) (by omega)
          split at h
          · cases h
          · rename_i p e hv
            have hve := ((be_val (L := L) (o := 91) (c := 93) (.inl ⟨rfl, rfl⟩) n).1 _ p e hb2.2 hv).2.1
            have hb3 := bl_le L e hve
            have hq := st_qe L _ _ _ (Nat.le_refl _) hj
            have hstep : ∀ v, S.bad (i + 1) (j - 1) = false ∧ S.eq (i + 1) (j - 1) (lv - 1).toNat = v → skStep S L i lv kl lm = if v = true then (if kl + 1 = S.lk then .inl ((bl L j : Nat) + 1 : Int) else .inr (bl L j + 1, lv, kl + 1, true)) else .inr (bl L j + 1, lv, kl, false) := by
              intro v hv2
              unfold skStep
              rw [if_pos h34.2, hq]
              simp only
              rw [if_pos l58, if_pos h58.2, if_neg (by omega), if_neg (by rw [hv2.1]; simp), if_pos h2, hv2.2, if_pos hkl]
            have hgo : (S.bad (i + 1) (j - 1) = false ∧ S.eq (i + 1) (j - 1) (lv - 1).toNat = false) → bl L e < L.length → gb L (bl L e) ≠ 58 → sk S L i lv kl lm = sk S L (bl L e) lv kl false := by
              intro hn hl hc
              rw [sk_inr (r := (bl L j + 1, lv, kl, false)) h34.1 (by rw [hstep _ hn]; rfl)]
              show sk S L (bl L j + 1) lv kl false = _
              rw [sk_bl (by omega)]
              exact sk_val hv hb2.2 (.inl rfl) (.inl (fun hh => by have := hh.1; omega)) (.inr ⟨hl, hc⟩)
            have hnow : r.1[ns.length]? = some ⟨(i : Int), (j : Int)⟩ ∧ r.2.1[ns.length]? = some p ∧ bl L e < L.length ∧ gb L (bl L e) ≠ 58 ∧ (gb L (bl L e) = 125 ∧ r.2.2 = bl L e + 1 ∨ gb L (bl L e) = 44 ∧ ∃ n2 ns2 ks2, mems L n2 (bl L (bl L e + 1)) ns2 ks2 = some r ∧ ns2.length = ns.length + 1 ∧ ks2.length = ns.length + 1) := by
              split at h
              · rename_i hc
                have hc2 := hc.2
                injection h with h
                subst h
                exact ⟨by simp, by simp [hlen], hc.1, by omega, .inl ⟨hc2, rfl⟩⟩
              · split at h
                · rename_i hc
                  have hc2 := hc.2
                  obtain ⟨⟨t1, e1⟩, ⟨t2, e2⟩⟩ := mems_ext _ _ _ _ _ h
                  exact ⟨by rw [e1]; simp, by rw [e2]; simp [hlen], hc.1, by omega, .inr ⟨hc2, _, _, _, h, by simp, by simp [hlen]⟩⟩
                · cases h
            by_cases hmn : m = ns.length
            · subst hmn
              rw [hnow.1] at hx
              injection hx with hx
              subst hx
              have he := heq i j rfl rfl
              refine ⟨bl L j + 1, p, e, n, hnow.2.1, by omega, hv, hnow.2.2.1, hnow.2.2.2.1, hnow.2.2.2.2, ?_⟩
              by_cases hlk : lv = S.lk
              · rw [if_pos hlk]
                exact sk_inl h34.1 (by rw [hstep _ he, if_pos rfl, if_pos (by omega)]; rfl)
              · rw [if_neg hlk, sk_inr (r := (bl L j + 1, lv, kl + 1, true)) h34.1 (by rw [hstep _ he, if_pos rfl, if_neg (by omega)])]
                show sk S L (bl L j + 1) lv (kl + 1) true = _
                rw [show kl + 1 = lv by omega]
            · have hn := hno ns.length _ (Nat.le_refl _) (by omega) hnow.1 i j rfl rfl
              split at h
              · injection h with h
                subst h
                exfalso
                have := List.getElem?_eq_some_iff.1 hx
                obtain ⟨hl, _⟩ := this
                simp at hl
                omega
              · split at h
                · rename_i hc
                  have hc2 := hc.2
                  have hb4 := bl_le L (bl L e + 1) (by have := hc.1; omega)
                  obtain ⟨b, p2, e2, n2, g1, g2, g3, g4, g5, g7, g6⟩ := ih (bl L (bl L e + 1)) _ _ r false m x hb4.2 (by simp [hlen]) h (by simp; omega) hx heq (fun k y hk1 hk2 => hno k y (by simp at hk1; omega) hk2)
                  refine ⟨b, p2, e2, n2, g1, g2, g3, g4, g5, g7, ?_⟩
                  rw [hgo hn hnow.2.2.1 hnow.2.2.2.1, sk_other hc.1 (by unfold Po; omega), sk_bl (by have := hc.1; omega)]
                  exact g6
                · cases h
        · cases h
    · cases h
/-- Into an object whose name was matched (or the root). -/
theorem sk_in {S : Sk} {L : List Int} {lv : Int} {n i e : Nat} {p : S35} (h : val L n i = some (p, e)) (hk : p.f0 = 6) (hne : p.f3 ≠ []) :
    ∃ n' r, mems L n' (bl L (i + 1)) [] [] = some r ∧ r.1 = p.f3 ∧ r.2.1 = p.f4 ∧ r.2.2 = e ∧ bl L (i + 1) ≤ L.length ∧ sk S L i lv lv true = sk S L (bl L (i + 1)) (lv + 1) lv true := by
  cases n with
  | zero => simp [val] at h
  | succ n =>
    rw [val] at h
    split at h
    · rename_i ha
      obtain ⟨r, hr, hre⟩ := Option.map_eq_some_iff.1 h
      simp only [Prod.mk.injEq] at hre
      obtain ⟨rfl, rfl⟩ := hre
      have hil := ha.1
      have ha2 := ha.2
      have hb := bl_le L (i + 1) (by omega)
      cases n with
      | zero => simp [mem0] at hr
      | succ n =>
        rw [mem0] at hr
        split at hr
        · injection hr with hr
          subst hr
          exact absurd rfl hne
        · refine ⟨n, r, hr, rfl, rfl, rfl, hb.2, ?_⟩
          rw [sk_inr (r := (i + 1, lv + 1, lv, true)) hil (by unfold skStep; rw [if_neg (by omega), if_pos ha2, if_pos rfl])]
          show sk S L (i + 1) (lv + 1) lv true = _
          exact sk_bl (by omega)
    repeat' split at h
    all_goals first
      | (cases h; done)
      | (obtain ⟨r, hr, hre⟩ := Option.map_eq_some_iff.1 h; simp only [Prod.mk.injEq] at hre; obtain ⟨rfl, rfl⟩ := hre; simp at hk; done)
      | (injection h with h; simp only [Prod.mk.injEq] at h; obtain ⟨rfl, rfl⟩ := h; simp at hk; done)
/-! ### A window of a text: what lies whole in it is read there too -/
mutual
/-- The same place, o bytes nearer. -/
inductive Sh (o : Nat) : S35 → S35 → Prop
  | mk (k a b : Int) (ns : List S72) (ks ks' : List S35) : ShL o ks ks' → Sh o ⟨k, a, b, ns, ks⟩ ⟨k, a - (o : Int), b - (o : Int), ns.map (fun x => ⟨x.f0 - (o : Int), x.f1 - (o : Int)⟩), ks'⟩
inductive ShL (o : Nat) : List S35 → List S35 → Prop
  | nil : ShL o [] []
  | cons {p p' : S35} {ks ks' : List S35} : Sh o p p' → ShL o ks ks' → ShL o (p :: ks) (p' :: ks')
end
theorem ShL.append {o : Nat} : ∀ {a a' b b' : List S35}, ShL o a a' → ShL o b b' → ShL o (a ++ b) (a' ++ b')
  | [], _, _, _, .nil, h2 => h2
  | _ :: _, _, _, _, .cons h h1, h2 => .cons h (ShL.append h1 h2)
theorem ShL.length {o : Nat} : ∀ {a a' : List S35}, ShL o a a' → a'.length = a.length
  | [], _, .nil => rfl
  | _ :: _, _, .cons _ h1 => by simp [ShL.length h1]
theorem ShL.get {o : Nat} : ∀ {a a' : List S35} (k : Nat) (p : S35), ShL o a a' → a[k]? = some p → ∃ p', a'[k]? = some p' ∧ Sh o p p'
  | [], _, k, p, .nil, h => by simp at h
  | _ :: _, _, 0, p, .cons h1 h2, h => by
    simp only [List.getElem?_cons_zero, Option.some.injEq] at h
    subst h
    exact ⟨_, by simp, h1⟩
  | _ :: _, _, k + 1, p, .cons h1 h2, h => by
    simp only [List.getElem?_cons_succ] at h ⊢
    exact ShL.get k p h2 h
section
variable {L M : List Int} {o : Nat} (hE : ∀ i, i < M.length → gb L (i + o) = gb M i) (hM : M.length + o ≤ L.length)
include hE in
theorem c_at {i : Nat} {c : Int} (hi : i < M.length) (h : at_ L (i + o) c) : at_ M i c := ⟨hi, by rw [← hE i hi]; exact h.2⟩
include hE hM in
theorem c_not {i : Nat} {c : Int} (h : ¬ at_ L (i + o) c) : ¬ at_ M i c := fun h2 => h ⟨by have := h2.1; omega, by rw [hE i h2.1]; exact h2.2⟩
include hE hM in
theorem c_bl : ∀ (d i : Nat), M.length - i ≤ d → i ≤ M.length → bl L (i + o) < M.length + o → bl M i + o = bl L (i + o) := by
  intro d
  induction d with
  | zero =>
    intro i hd hi h
    have := (bl_le L (i + o) (by omega)).1
    omega
  | succ d ih =>
    intro i hd hi h
    have hge := (bl_le L (i + o) (by omega)).1
    have hlt : i < M.length := by omega
    by_cases hb : isBlank (gb M i)
    · have e1 : bl L (i + o) = bl L (i + 1 + o) := by rw [bl, dif_pos (by rw [hE i hlt]; exact hb), show i + o + 1 = i + 1 + o by omega]
      rw [e1] at h ⊢
      rw [bl, dif_pos hb]
      exact ih (i + 1) (by omega) (by omega) h
    · rw [bl, dif_neg hb, bl, dif_neg (by rw [hE i hlt]; exact hb)]
include hE hM in
theorem c_dg : ∀ (d i : Nat), M.length - i ≤ d → i ≤ M.length → dg L (i + o) ≤ M.length + o → dg M i + o = dg L (i + o) := by
  intro d
  induction d with
  | zero =>
    intro i hd hi h
    obtain rfl : i = M.length := by omega
    have := (dg_le L (M.length + o) (by omega)).1
    rw [dg, dif_neg (fun hb => by have := dig_in hb; omega)]
    omega
  | succ d ih =>
    intro i hd hi h
    by_cases hb : isDig (gb M i)
    · have hlt := dig_in hb
      have e1 : dg L (i + o) = dg L (i + 1 + o) := by rw [dg, dif_pos (by rw [hE i hlt]; exact hb), show i + o + 1 = i + 1 + o by omega]
      rw [e1] at h ⊢
      rw [dg, dif_pos hb]
      exact ih (i + 1) (by omega) (by omega) h
    · rw [dg, dif_neg hb]
      by_cases hlt : i < M.length
      · rw [dg, dif_neg (by rw [hE i hlt]; exact hb)]
      · have := (dg_le L (i + o) (by omega)).1
        omega
include hE in
theorem c_esc {i j : Nat} (h : escE L (i + o) = some (j + o)) (hj : j ≤ M.length) : escE M i = some j := by
  have hij := escE_le h
  unfold escE at h ⊢
  rw [hE i (by omega)] at h
  split at h
  · rename_i h1
    injection h with h
    rw [if_pos h1]
    congr 1
    omega
  · rename_i h1
    split at h
    · rename_i h2
      split at h
      · rename_i h3
        injection h with h
        rw [show i + o + 1 = (i + 1) + o by omega, show i + o + 2 = (i + 2) + o by omega, show i + o + 3 = (i + 3) + o by omega, show i + o + 4 = (i + 4) + o by omega, hE _ (by omega), hE _ (by omega), hE _ (by omega), hE _ (by omega)] at h3
        rw [if_neg h1, if_pos h2, if_pos h3]
        congr 1
        omega
      · cases h
    · cases h
include hE hM in
theorem c_st : ∀ (d i j : Nat), M.length - i ≤ d → st L (i + o) = some (j + o) → j ≤ M.length → st M i = some j := by
  have _ := hM
  intro d
  induction d with
  | zero =>
    intro i j hd h hj
    have := st_le L _ _ _ (Nat.le_refl _) h
    omega
  | succ d ih =>
    intro i j hd h hj
    have hle := st_le L _ _ _ (Nat.le_refl _) h
    have hlt : i < M.length := by omega
    rw [st, dif_pos (by omega), hE i hlt] at h
    rw [st, dif_pos hlt]
    split at h
    · rename_i h1
      injection h with h
      rw [if_pos h1]
      congr 1
      omega
    · rename_i h1
      rw [if_neg h1]
      split at h
      · cases h
      · rename_i h2
        rw [if_neg h2]
        split at h
        · rename_i h3
          rw [if_pos h3]
          split at h
          · cases h
          · rename_i m hm
            have hme := escE_le hm
            have hm2 := st_le L _ _ _ (Nat.le_refl _) h
            obtain ⟨m', rfl⟩ : ∃ m', m = m' + o := ⟨m - o, by omega⟩
            have hm' := c_esc hE (i := i + 1) (j := m') (by rw [show i + 1 + o = i + o + 1 by omega]; exact hm) (by omega)
            split
            · rename_i hn
              rw [hm'] at hn
              cases hn
            · rename_i m2 hn
              rw [hm'] at hn
              injection hn with hn
              rw [← hn]
              exact ih m' j (by omega) h hj
        · rename_i h3
          rw [if_neg h3]
          rw [show i + o + 1 = (i + 1) + o by omega] at h
          exact ih (i + 1) j (by omega) h hj
include hE hM in
theorem c_sign {i : Nat} (h : signE L (i + o) < M.length + o) : signE M i + o = signE L (i + o) := by
  unfold signE at h ⊢
  by_cases h1 : at_ L (i + o) 43 ∨ at_ L (i + o) 45
  · rw [if_pos h1] at h ⊢
    rw [if_pos (h1.imp (c_at hE (by omega)) (c_at hE (by omega)))]
    omega
  · rw [if_neg h1, if_neg (fun h2 => h2.elim (c_not hE hM (fun h => h1 (.inl h))) (c_not hE hM (fun h => h1 (.inr h))))]
include hE hM in
theorem c_exp {i e : Nat} (hi : i ≤ M.length) (h : expE L (i + o) = some (e + o)) (he : e ≤ M.length) : expE M i = some e := by
  have hle := expE_le (L := L) (by omega) h
  unfold expE at h ⊢
  split at h
  · rename_i h1
    split at h
    · rename_i h2
      injection h with h
      have hs := signE_le (L := L) (i := i + o + 1) (by have := h1.elim (fun h => h.1) (fun h => h.1); omega)
      have hlt : i < M.length := by omega
      have e1 := c_sign hE hM (i := i + 1) (by rw [show i + 1 + o = i + o + 1 by omega]; omega)
      rw [show i + 1 + o = i + o + 1 by omega] at e1
      rw [← e1] at h h2
      have e2 := c_dg hE hM _ (signE M (i + 1)) (Nat.le_refl _) (by omega) (by omega)
      rw [if_pos (h1.imp (c_at hE hlt) (c_at hE hlt)), if_pos (by omega)]
      congr 1
      omega
    · cases h
  · rename_i h1
    injection h with h
    rw [if_neg (fun h2 => h2.elim (c_not hE hM (fun h => h1 (.inl h))) (c_not hE hM (fun h => h1 (.inr h))))]
    congr 1
    omega
include hE hM in
theorem c_frac {i e : Nat} (hi : i ≤ M.length) (h : fracE L (i + o) = some (e + o)) (he : e ≤ M.length) : fracE M i = some e := by
  unfold fracE at h ⊢
  split at h
  · rename_i h1
    split at h
    · rename_i h2
      have hd := dg_le L (i + o + 1) (by have := h1.1; omega)
      have hle := expE_le (L := L) hd.2 h
      have hlt : i < M.length := by omega
      have e2 := c_dg hE hM _ (i + 1) (Nat.le_refl _) (by omega) (by rw [show i + 1 + o = i + o + 1 by omega]; omega)
      rw [show i + 1 + o = i + o + 1 by omega] at e2
      rw [← e2] at h h2
      rw [if_pos (c_at hE hlt h1), if_pos (by omega)]
      exact c_exp hE hM (by omega) h he
    · cases h
  · rename_i h1
    rw [if_neg (c_not hE hM h1)]
    exact c_exp hE hM hi h he
include hE hM in
theorem c_num {i e : Nat} (hi : i < M.length) (h : numE L (i + o) = some (e + o)) (he : e ≤ M.length) : numE M i = some e := by
  have hm : minusE M i + o = minusE L (i + o) := by
    unfold minusE
    by_cases h : at_ L (i + o) 45
    · rw [if_pos h, if_pos (c_at hE hi h)]
      omega
    · rw [if_neg h, if_neg (c_not hE hM h)]
  have hml := minusE_le (L := M) (i := i) (by omega)
  unfold numE at h ⊢
  rw [← hm] at h
  split at h
  · rename_i h1
    rw [show minusE M i + o + 1 = (minusE M i + 1) + o by omega] at h
    have hle := fracE_le (L := L) (by have := h1.1; omega) h
    rw [if_pos (c_at hE (by omega) h1)]
    exact c_frac hE hM (by omega) h he
  · rename_i h1
    split at h
    · rename_i h2
      have hd := dg_le L (minusE M i + o) (by omega)
      have hle := fracE_le hd.2 h
      have e2 := c_dg hE hM _ (minusE M i) (Nat.le_refl _) hml.2 (by omega)
      rw [← e2] at h h2
      rw [if_neg (c_not hE hM h1), if_pos (by omega)]
      exact c_frac hE hM (by omega) h he
    · cases h
include hE hM in
theorem c_word {i : Nat} {w : List Int} (hi : i + w.length ≤ M.length) : wordE L (i + o) w ↔ wordE M i w := by
  have e : (L.drop (i + o)).take w.length = (M.drop i).take w.length := by
    apply List.ext_getElem?
    intro k
    by_cases hk : k < w.length
    · simp only [List.getElem?_take_of_lt hk, List.getElem?_drop]
      have h1 : i + k < M.length := by omega
      have h2 : i + o + k < L.length := by omega
      have hg := hE (i + k) h1
      unfold gb at hg
      rw [List.getD_eq_getElem?_getD, List.getD_eq_getElem?_getD, show i + k + o = i + o + k by omega, List.getElem?_eq_getElem h2, List.getElem?_eq_getElem h1] at hg
      rw [List.getElem?_eq_getElem h2, List.getElem?_eq_getElem h1]
      simpa using hg
    · rw [List.getElem?_eq_none (by simp; omega), List.getElem?_eq_none (by simp; omega)]
  unfold wordE
  rw [e]
theorem word_room {M : List Int} {i : Nat} {w : List Int} (hi : i ≤ M.length) (h : wordE M i w) : i + w.length ≤ M.length := wordE_le h hi
include hE hM in
theorem c_noword {i : Nat} {w : List Int} (hi : i ≤ M.length) (h : ¬ wordE L (i + o) w) : ¬ wordE M i w := fun h2 => h ((c_word hE hM (wordE_le h2 hi)).2 h2)
include hE hM in
theorem c_all : ∀ n : Nat,
    (∀ i p e, val L n (i + o) = some (p, e) → e ≤ M.length + o → i ≤ M.length → ∃ p' e', e = e' + o ∧ val M n i = some (p', e') ∧ Sh o p p') ∧
    (∀ i a b e, mem0 L n (i + o) = some (a, b, e) → e ≤ M.length + o → i < M.length → ∃ b' e', e = e' + o ∧ mem0 M n i = some (a.map (fun x => ⟨x.f0 - (o : Int), x.f1 - (o : Int)⟩), b', e') ∧ ShL o b b') ∧
    (∀ i ns ks ks' a b e, mems L n (i + o) ns ks = some (a, b, e) → e ≤ M.length + o → i ≤ M.length → ShL o ks ks' → ∃ b' e', e = e' + o ∧ mems M n i (ns.map (fun x => ⟨x.f0 - (o : Int), x.f1 - (o : Int)⟩)) ks' = some (a.map (fun x => ⟨x.f0 - (o : Int), x.f1 - (o : Int)⟩), b', e') ∧ ShL o b b') ∧
    (∀ i b e, elt0 L n (i + o) = some (b, e) → e ≤ M.length + o → i < M.length → ∃ b' e', e = e' + o ∧ elt0 M n i = some (b', e') ∧ ShL o b b') ∧
    (∀ i ks ks' b e, elts L n (i + o) ks = some (b, e) → e ≤ M.length + o → i ≤ M.length → ShL o ks ks' → ∃ b' e', e = e' + o ∧ elts M n i ks' = some (b', e') ∧ ShL o b b') := by
  intro n
  induction n with
  | zero =>
    refine ⟨fun i p e h => ?_, fun i a b e h => ?_, fun i ns ks ks' a b e h => ?_, fun i b e h => ?_, fun i ks ks' b e h => ?_⟩
    · rw [val] at h; cases h
    · rw [mem0] at h; cases h
    · rw [mems] at h; cases h
    · rw [elt0] at h; cases h
    · rw [elts] at h; cases h
  | succ n ih =>
    obtain ⟨ihv, ihm0, ihm, ihe0, ihe⟩ := ih
    have bv := fun m => v_lt (L := L) m
    refine ⟨fun i p e h he hi => ?_, fun i a b e h he hi => ?_, fun i ns ks ks' a b e h he hi hk => ?_, fun i b e h he hi => ?_, fun i ks ks' b e h he hi hk => ?_⟩
    · have hie : i + o < e := by
        exact ((bv (n + 1)).1 _ p e (by omega) h).1
      rw [val] at h ⊢
      split at h
      · rename_i h1
        obtain ⟨⟨a, b, e1⟩, hm, h⟩ := Option.map_eq_some_iff.mp h
        simp only [Prod.mk.injEq] at h
        obtain ⟨rfl, rfl⟩ := h
        have hlt : i < M.length := by omega
        obtain ⟨b', e', rfl, hm', hs⟩ := ihm0 _ _ _ _ hm he hlt
        rw [if_pos (c_at hE hlt h1), hm']
        refine ⟨_, e', rfl, rfl, ?_⟩
        have := Sh.mk (o := o) 6 ((i + o : Nat) : Int) ((e' + o : Nat) : Int) a b b' hs
        simpa using this
      · rename_i h1
        rw [if_neg (c_not hE hM h1)]
        split at h
        · rename_i h2
          obtain ⟨⟨b, e1⟩, hm, h⟩ := Option.map_eq_some_iff.mp h
          simp only [Prod.mk.injEq] at h
          obtain ⟨rfl, rfl⟩ := h
          have hlt : i < M.length := by omega
          obtain ⟨b', e', rfl, hm', hs⟩ := ihe0 _ _ _ hm he hlt
          rw [if_pos (c_at hE hlt h2), hm']
          refine ⟨_, e', rfl, rfl, ?_⟩
          have := Sh.mk (o := o) 5 ((i + o : Nat) : Int) ((e' + o : Nat) : Int) [] b b' hs
          simpa using this
        · rename_i h2
          rw [if_neg (c_not hE hM h2)]
          have scal : ∀ (k : Int) (j : Nat), Sh o ⟨k, ((i + o : Nat) : Int), ((j + o : Nat) : Int), [], []⟩ ⟨k, (i : Int), (j : Int), [], []⟩ := by
            intro k j
            have := Sh.mk (o := o) k ((i + o : Nat) : Int) ((j + o : Nat) : Int) [] [] [] .nil
            simpa using this
          split at h
          · rename_i h3
            obtain ⟨j, hm, h⟩ := Option.map_eq_some_iff.mp h
            simp only [Prod.mk.injEq] at h
            obtain ⟨rfl, rfl⟩ := h
            obtain ⟨j', rfl⟩ : ∃ j', j = j' + o := ⟨j - o, by omega⟩
            have hs := c_st hE hM _ (i + 1) j' (Nat.le_refl _) (by rw [show i + 1 + o = i + o + 1 by omega]; exact hm) (by omega)
            rw [if_pos (c_at hE (by omega) h3), hs]
            exact ⟨_, j', rfl, rfl, scal 4 j'⟩
          · rename_i h3
            rw [if_neg (c_not hE hM h3)]
            split at h
            · rename_i h4
              obtain ⟨j, hm, h⟩ := Option.map_eq_some_iff.mp h
              simp only [Prod.mk.injEq] at h
              obtain ⟨rfl, rfl⟩ := h
              obtain ⟨j', rfl⟩ : ∃ j', j = j' + o := ⟨j - o, by omega⟩
              have hlt : i < M.length := by omega
              rw [if_pos (h4.imp (c_at hE hlt) (fun h => by rw [← hE i hlt]; exact h)), c_num hE hM hlt hm (by omega)]
              exact ⟨_, j', rfl, rfl, scal 3 j'⟩
            · rename_i h4
              rw [if_neg (fun h => h4 (h.imp (fun h => ⟨by have := h.1; omega, by rw [hE i h.1]; exact h.2⟩) (fun h => by rw [hE i (dig_in h)]; exact h)))]
              split at h
              · rename_i hw
                simp only [Option.some.injEq, Prod.mk.injEq] at h
                obtain ⟨rfl, rfl⟩ := h
                rw [if_pos ((c_word hE hM (by simp; omega)).1 hw)]
                refine ⟨_, i + 4, by omega, rfl, ?_⟩
                have := scal 0 (i + 4)
                rwa [show i + 4 + o = i + o + 4 by omega] at this
              · rename_i hw1
                rw [if_neg (c_noword hE hM hi hw1)]
                split at h
                · rename_i hw
                  simp only [Option.some.injEq, Prod.mk.injEq] at h
                  obtain ⟨rfl, rfl⟩ := h
                  rw [if_pos ((c_word hE hM (by simp; omega)).1 hw)]
                  refine ⟨_, i + 5, by omega, rfl, ?_⟩
                  have := scal 1 (i + 5)
                  rwa [show i + 5 + o = i + o + 5 by omega] at this
                · rename_i hw2
                  rw [if_neg (c_noword hE hM hi hw2)]
                  split at h
                  · rename_i hw
                    simp only [Option.some.injEq, Prod.mk.injEq] at h
                    obtain ⟨rfl, rfl⟩ := h
                    rw [if_pos ((c_word hE hM (by simp; omega)).1 hw)]
                    refine ⟨_, i + 4, by omega, rfl, ?_⟩
                    have := scal 2 (i + 4)
                    rwa [show i + 4 + o = i + o + 4 by omega] at this
                  · cases h
    · rw [mem0] at h ⊢
      have hb := bl_le L (i + o + 1) (by omega)
      have hbl : bl L (i + o + 1) < M.length + o := by
        split at h
        · rename_i h1
          simp only [Option.some.injEq, Prod.mk.injEq] at h
          omega
        · have := (bv n).2.2.1 _ _ _ _ hb.2 h
          simp only at this
          omega
      have hbb := c_bl hE hM _ (i + 1) (Nat.le_refl _) (by omega) (by rw [show i + 1 + o = i + o + 1 by omega]; exact hbl)
      rw [show i + 1 + o = i + o + 1 by omega] at hbb
      rw [← hbb] at h hbl
      split at h
      · rename_i h1
        simp only [Option.some.injEq, Prod.mk.injEq] at h
        obtain ⟨rfl, rfl, rfl⟩ := h
        rw [if_pos (c_at hE (by omega) h1)]
        exact ⟨_, bl M (i + 1) + 1, by omega, rfl, .nil⟩
      · rename_i h1
        rw [if_neg (c_not hE hM h1)]
        have := ihm _ [] [] [] _ _ _ h he (by omega) .nil
        simpa using this
    · rw [mems] at h ⊢
      split at h
      case isFalse => cases h
      case isTrue h1 =>
      split at h
      · cases h
      · rename_i j hj
        have hjl := st_le L _ _ _ (Nat.le_refl _) hj
        have hb1 := bl_le L j hjl.2
        split at h
        case isFalse => cases h
        case isTrue h2 =>
        have hl2 := h2.1
        have hb2 := bl_le L (bl L j + 1) (by omega)
        split at h
        · cases h
        · rename_i p e1 hv
          have hve := (bv n).1 _ p e1 hb2.2 hv
          have hb3 := bl_le L e1 hve.2
          have hend : bl L e1 < M.length + o ∧ (at_ L (bl L e1) 44 ∧ ¬ at_ L (bl L e1) 125 → bl L (bl L e1 + 1) < M.length + o) := by
            split at h
            · rename_i h3
              simp only [Option.some.injEq, Prod.mk.injEq] at h
              exact ⟨by omega, fun hh => absurd h3 hh.2⟩
            · split at h
              · rename_i h3
                have h3l := h3.1
                have hb4 := bl_le L (bl L e1 + 1) (by omega)
                have := (bv n).2.2.1 _ _ _ _ hb4.2 h
                simp only at this
                exact ⟨by omega, fun _ => by omega⟩
              · cases h
          have hlt : i < M.length := by omega
          obtain ⟨j', rfl⟩ : ∃ j', j = j' + o := ⟨j - o, by omega⟩
          have hs := c_st hE hM _ (i + 1) j' (Nat.le_refl _) (by rw [show i + 1 + o = i + o + 1 by omega]; exact hj) (by omega)
          have f1 := c_bl hE hM _ j' (Nat.le_refl _) (by omega) (by omega)
          rw [← f1] at hv h2 hb2 hve
          rw [show bl M j' + o + 1 = bl M j' + 1 + o by omega] at hv hb2 hve
          have f2 := c_bl hE hM _ (bl M j' + 1) (Nat.le_refl _) (by omega) (by omega)
          rw [← f2] at hv
          obtain ⟨p', e1', rfl, hv', hsp⟩ := ihv _ _ _ hv (by omega) (by omega)
          have f3 := c_bl hE hM _ e1' (Nat.le_refl _) (by omega) hend.1
          rw [if_pos (c_at hE hlt h1), hs]
          simp only
          rw [if_pos (c_at hE (by omega) h2), hv']
          simp only
          rw [← f3] at h
          have hnm : (ns ++ [(⟨((i + o : Nat) : Int), ((j' + o : Nat) : Int)⟩ : S72)]).map (fun x => (⟨x.f0 - (o : Int), x.f1 - (o : Int)⟩ : S72)) = ns.map (fun x => (⟨x.f0 - (o : Int), x.f1 - (o : Int)⟩ : S72)) ++ [⟨(i : Int), (j' : Int)⟩] := by
            simp
          have hkk : ShL o (ks ++ [p]) (ks' ++ [p']) := hk.append (.cons hsp .nil)
          split at h
          · rename_i h3
            simp only [Option.some.injEq, Prod.mk.injEq] at h
            obtain ⟨rfl, rfl, rfl⟩ := h
            rw [if_pos (c_at hE (by omega) h3)]
            exact ⟨_, bl M e1' + 1, by omega, by rw [hnm], hkk⟩
          · rename_i h3
            rw [if_neg (c_not hE hM h3)]
            split at h
            · rename_i h4
              have hx := hend.2 (by rw [← f3]; exact ⟨h4, h3⟩)
              rw [← f3, show bl M e1' + o + 1 = bl M e1' + 1 + o by omega] at hx
              have f4 := c_bl hE hM _ (bl M e1' + 1) (Nat.le_refl _) (by omega) hx
              rw [show bl M e1' + o + 1 = bl M e1' + 1 + o by omega, ← f4] at h
              rw [if_pos (c_at hE (by omega) h4)]
              obtain ⟨b', e', he', hm', hs'⟩ := ihm _ _ _ _ _ _ _ h he (by omega) hkk
              rw [hnm] at hm'
              exact ⟨b', e', he', hm', hs'⟩
            · cases h
    · rw [elt0] at h ⊢
      have hb := bl_le L (i + o + 1) (by omega)
      have hbl : bl L (i + o + 1) < M.length + o := by
        split at h
        · rename_i h1
          simp only [Option.some.injEq, Prod.mk.injEq] at h
          omega
        · have := (bv n).2.2.2.2 _ _ _ hb.2 h
          simp only at this
          omega
      have hbb := c_bl hE hM _ (i + 1) (Nat.le_refl _) (by omega) (by rw [show i + 1 + o = i + o + 1 by omega]; exact hbl)
      rw [show i + 1 + o = i + o + 1 by omega] at hbb
      rw [← hbb] at h hbl
      split at h
      · rename_i h1
        simp only [Option.some.injEq, Prod.mk.injEq] at h
        obtain ⟨rfl, rfl⟩ := h
        rw [if_pos (c_at hE (by omega) h1)]
        exact ⟨_, bl M (i + 1) + 1, by omega, rfl, .nil⟩
      · rename_i h1
        rw [if_neg (c_not hE hM h1)]
        exact ihe _ [] [] _ _ h he (by omega) .nil
    · rw [elts] at h ⊢
      split at h
      · cases h
      · rename_i p e1 hv
        have hve := (bv n).1 _ p e1 (by omega) hv
        have hb3 := bl_le L e1 hve.2
        have hend : bl L e1 < M.length + o ∧ (at_ L (bl L e1) 44 ∧ ¬ at_ L (bl L e1) 93 → bl L (bl L e1 + 1) < M.length + o) := by
          split at h
          · rename_i h3
            simp only [Option.some.injEq, Prod.mk.injEq] at h
            exact ⟨by omega, fun hh => absurd h3 hh.2⟩
          · split at h
            · rename_i h3
              have h3l := h3.1
              have hb4 := bl_le L (bl L e1 + 1) (by omega)
              have := (bv n).2.2.2.2 _ _ _ hb4.2 h
              simp only at this
              exact ⟨by omega, fun _ => by omega⟩
            · cases h
        obtain ⟨p', e1', rfl, hv', hsp⟩ := ihv _ _ _ hv (by omega) (by omega)
        have f3 := c_bl hE hM _ e1' (Nat.le_refl _) (by omega) hend.1
        rw [hv']
        simp only
        rw [← f3] at h
        have hkk : ShL o (ks ++ [p]) (ks' ++ [p']) := hk.append (.cons hsp .nil)
        split at h
        · rename_i h3
          simp only [Option.some.injEq, Prod.mk.injEq] at h
          obtain ⟨rfl, rfl⟩ := h
          rw [if_pos (c_at hE (by omega) h3)]
          exact ⟨_, bl M e1' + 1, by omega, rfl, hkk⟩
        · rename_i h3
          rw [if_neg (c_not hE hM h3)]
          split at h
          · rename_i h4
            have hx := hend.2 (by rw [← f3]; exact ⟨h4, h3⟩)
            rw [← f3, show bl M e1' + o + 1 = bl M e1' + 1 + o by omega] at hx
            have f4 := c_bl hE hM _ (bl M e1' + 1) (Nat.le_refl _) (by omega) hx
            rw [show bl M e1' + o + 1 = bl M e1' + 1 + o by omega, ← f4] at h
            rw [if_pos (c_at hE (by omega) h4)]
            exact ihe _ _ _ _ _ h he (by omega) hkk
          · cases h
end
/-! ### Names of a JSON text, and what keys lead to -/
theorem cutI_len {L : List Int} {a b : Nat} (h : b ≤ L.length) : (cutI L a b).length = b - a := by
  unfold cutI
  rw [List.length_drop, List.length_take]
  omega
theorem cutI_gb {L : List Int} {a b k : Nat} (h : a + k < b) : gb (cutI L a b) k = gb L (a + k) := by
  unfold cutI
  rw [gb_drop, gb_take h]
theorem cutI_drop {L : List Int} {a b m : Nat} : (cutI L a b).drop m = cutI L (a + m) b := by
  unfold cutI
  rw [List.drop_drop]
theorem cutI_cut {L : List Int} {o c a b : Nat} (h : b + o ≤ c) : cutI (cutI L o c) a b = cutI L (a + o) (b + o) := by
  unfold cutI
  rw [List.take_drop, List.take_take, List.drop_drop, show min (o + b) c = b + o by omega, show o + a = a + o by omega]
theorem cutI_self {L : List Int} {a : Nat} : cutI L a a = [] := by
  unfold cutI
  exact List.drop_eq_nil_of_le (by rw [List.length_take]; omega)
theorem cutI_cons {L : List Int} {a b : Nat} (h : a < b) (hb : b ≤ L.length) : cutI L a b = gb L a :: cutI L (a + 1) b := by
  unfold cutI
  have hl : a < (L.take b).length := by rw [List.length_take]; omega
  rw [List.drop_eq_getElem_cons hl]
  congr 1
  unfold gb
  rw [List.getD, List.getElem?_eq_getElem (by omega), List.getElem_take]
  rfl
theorem hx_hex {c : Int} (h : isHex c) : hx c ≠ -1 := by
  unfold isHex at h
  unfold hx
  repeat' split
  all_goals omega
theorem un_u1 {r bs : List Int} {m : Nat} (h : u1 (92 :: r) = some (m, bs)) (h2 : un ((92 :: r).drop m) ≠ none) : un (92 :: r) ≠ none := by
  rw [un_some h]
  intro h3
  exact h2 (by simpa using h3)
theorem sg_ok {l : List Int} (h : 6 ≤ l.length) (h2 : isHex (gb l 2)) (h3 : isHex (gb l 3)) (h4 : isHex (gb l 4)) (h5 : isHex (gb l 5)) : (sg l).2 = true := by
  unfold sg
  have e2 := hx_hex h2
  have e3 := hx_hex h3
  have e4 := hx_hex h4
  have e5 := hx_hex h5
  unfold gb at e2 e3 e4 e5
  rw [if_neg (by omega), if_neg (by rintro (h | h | h | h) <;> contradiction)]
theorem un_ok {L : List Int} : ∀ (d a c : Nat), L.length - a ≤ d → st L a = some c → un (cutI L a (c - 1)) ≠ none := by
  intro d
  induction d with
  | zero =>
    intro a c hd h
    have := st_le L _ _ _ (Nat.le_refl _) h
    omega
  | succ d ih =>
    intro a c hd h
    have hle := st_le L _ _ _ (Nat.le_refl _) h
    rw [st, dif_pos (by omega)] at h
    split at h
    · injection h with h
      subst h
      rw [show a + 1 - 1 = a by omega, cutI_self, un_nil]
      simp
    · split at h
      · cases h
      · split at h
        · rename_i h34 h32 h92
          split at h
          · cases h
          · rename_i j hj
            have hj2 := escE_le hj
            have hjc := st_le L _ _ _ (Nat.le_refl _) h
            have hI := ih j c (by omega) h
            have hcons : cutI L a (c - 1) = 92 :: cutI L (a + 1) (c - 1) := by rw [cutI_cons (by omega) (by omega), h92]
            have hlen := cutI_len (L := L) (a := a) (b := c - 1) (by omega)
            unfold escE at hj
            split at hj
            · rename_i hs
              injection hj with hj
              subst hj
              have hu : u1 (92 :: cutI L (a + 1) (c - 1)) = some (2, [sh (gb L (a + 1))]) := by
                rw [← hcons]
                unfold u1
                have e1 : (cutI L a (c - 1)).getD 1 0 = gb L (a + 1) := by
                  have := cutI_gb (L := L) (a := a) (b := c - 1) (k := 1) (by omega)
                  rw [← this]
                  rfl
                rw [if_neg (by omega), e1, if_pos (by unfold isShort at hs; unfold isSh; exact hs.elim .inl (fun h => by omega))]
              rw [hcons]
              refine un_u1 hu ?_
              rw [← hcons, cutI_drop, show a + 2 = a + 1 + 1 by omega]
              exact hI
            · rename_i hns
              split at hj
              · rename_i h117
                split at hj
                · rename_i hx4
                  injection hj with hj
                  subst hj
                  obtain ⟨x1, x2, x3, x4⟩ := hx4
                  have g : ∀ k, k < c - 1 - a → (cutI L a (c - 1)).getD k 0 = gb L (a + k) := fun k hk => by
                    have := cutI_gb (L := L) (a := a) (b := c - 1) (k := k) (by omega)
                    rw [← this]
                    rfl
                  have gg : ∀ k, k < c - 1 - a → gb (cutI L a (c - 1)) k = gb L (a + k) := fun k hk => cutI_gb (by omega)
                  have hsg : (sg (cutI L a (c - 1))).2 = true := by
                    apply sg_ok (by omega)
                    · rw [gg 2 (by omega)]; exact x1
                    · rw [gg 3 (by omega)]; exact x2
                    · rw [gg 4 (by omega)]; exact x3
                    · rw [gg 5 (by omega)]; exact x4
                  have e1 : (cutI L a (c - 1)).getD 1 0 = 117 := by rw [g 1 (by omega), h117]
                  have hu : ∀ n : Nat, (dec (cutI L a (c - 1))).2 = n → u1 (92 :: cutI L (a + 1) (c - 1)) = some (n, Lib.encodeRuneZ (dec (cutI L a (c - 1))).1) := by
                    intro n hn
                    rw [← hcons]
                    unfold u1
                    rw [if_neg (by omega), e1, if_neg (by decide), if_pos rfl, if_neg (by rw [hn]; omega), hn]
                    rfl
                  have h6 : (dec (cutI L a (c - 1))).2 = 6 → un (cutI L a (c - 1)) ≠ none := by
                    intro h6
                    rw [hcons]
                    refine un_u1 (hu 6 h6) ?_
                    rw [← hcons, cutI_drop, show a + 6 = a + 1 + 5 by omega]
                    exact hI
                  by_cases d1 : ¬ (55296 ≤ (sg (cutI L a (c - 1))).1 ∧ (sg (cutI L a (c - 1))).1 ≤ 57343)
                  · exact h6 (by unfold dec; rw [if_neg (by rw [hsg]; simp), if_pos d1])
                  by_cases d2 : 56320 ≤ (sg (cutI L a (c - 1))).1
                  · exact h6 (by unfold dec; rw [if_neg (by rw [hsg]; simp), if_neg d1, if_pos d2])
                  by_cases d3 : (cutI L a (c - 1)).length < 8 ∨ (cutI L a (c - 1)).getD 6 0 ≠ 92 ∨ (cutI L a (c - 1)).getD 7 0 ≠ 117
                  · exact h6 (by unfold dec; rw [if_neg (by rw [hsg]; simp), if_neg d1, if_neg d2, if_pos d3])
                  have l8 : 8 ≤ (cutI L a (c - 1)).length := Nat.le_of_not_lt fun h => d3 (.inl h)
                  have e6 : gb L (a + 6) = 92 := by
                    rw [← g 6 (by omega)]
                    exact Decidable.byContradiction fun h => d3 (.inr (.inl h))
                  have e7 : gb L (a + 7) = 117 := by
                    rw [← g 7 (by omega)]
                    exact Decidable.byContradiction fun h => d3 (.inr (.inr h))
                  rw [show a + 1 + 5 = a + 6 by omega, st, dif_pos (by omega), e6, if_neg (by decide), if_neg (by decide), if_pos rfl] at h
                  split at h
                  · cases h
                  · rename_i j2 hj2'
                    have hjc2 := st_le L _ _ _ (Nat.le_refl _) h
                    unfold escE at hj2'
                    rw [show a + 6 + 1 = a + 7 by omega, e7, if_neg (by decide), if_pos rfl] at hj2'
                    split at hj2'
                    · rename_i hy
                      injection hj2' with hj2'
                      subst hj2'
                      obtain ⟨y1, y2, y3, y4⟩ := hy
                      have hsg2 : (sg ((cutI L a (c - 1)).drop 6)).2 = true := by
                        rw [cutI_drop]
                        have hl2 := cutI_len (L := L) (a := a + 6) (b := c - 1) (by omega)
                        apply sg_ok (by omega)
                        · rw [cutI_gb (by omega)]; exact y1
                        · rw [cutI_gb (by omega)]; exact y2
                        · rw [cutI_gb (by omega)]; exact y3
                        · rw [cutI_gb (by omega)]; exact y4
                      by_cases d4 : (sg ((cutI L a (c - 1)).drop 6)).1 < 56320 ∨ 57343 < (sg ((cutI L a (c - 1)).drop 6)).1
                      · exact h6 (by unfold dec; rw [if_neg (by rw [hsg]; simp), if_neg d1, if_neg d2, if_neg d3, if_neg (by rw [hsg2]; simp), if_pos d4])
                      · have h12 : (dec (cutI L a (c - 1))).2 = 12 := by unfold dec; rw [if_neg (by rw [hsg]; simp), if_neg d1, if_neg d2, if_neg d3, if_neg (by rw [hsg2]; simp), if_neg d4]
                        rw [hcons]
                        refine un_u1 (hu 12 h12) ?_
                        rw [← hcons, cutI_drop]
                        exact ih (a + 12) c (by omega) (by rw [show a + 7 + 5 = a + 12 by omega] at h; exact h)
                    · cases hj2'
                · cases hj
              · cases hj
        · rename_i h34 h32 h92
          have hle2 := st_le L _ _ _ (Nat.le_refl _) h
          rw [cutI_cons (by omega) (by omega), un_cons _ h92]
          have := ih (a + 1) c (by omega) h
          intro h3
          exact this (by simpa using h3)
/-- A name's bytes, unescaped. -/
def nmI (L : List Int) (x : S72) : List Int := cutI L (x.f0.toNat + 1) (x.f1.toNat - 1)
theorem dl_of {L : List Int} {e : Nat} (h : gb L (bl L e) = 44 ∨ gb L (bl L e) = 125 ∨ gb L (bl L e) = 93) : isDl (gb L e) := by
  by_cases hb : isBlank (gb L e)
  · unfold isBlank at hb
    unfold isDl
    omega
  · rw [bl_stop hb] at h
    unfold isDl
    omega
theorem val_pos {L : List Int} {n i e : Nat} {p : S35} (h : val L n i = some (p, e)) : p.f1 = (i : Int) ∧ p.f2 = (e : Int) := by
  cases n with
  | zero => simp [val] at h
  | succ n =>
    rw [val] at h
    repeat' split at h
    all_goals first
      | (cases h; done)
      | (obtain ⟨r, hr, hre⟩ := Option.map_eq_some_iff.1 h; simp only [Prod.mk.injEq] at hre; obtain ⟨rfl, rfl⟩ := hre; exact ⟨rfl, rfl⟩)
      | (injection h with h; simp only [Prod.mk.injEq] at h; obtain ⟨rfl, rfl⟩ := h; exact ⟨rfl, rfl⟩)
theorem val_str {L : List Int} {n i e : Nat} {p : S35} (h : val L n i = some (p, e)) (hk : jk p.f0 = 1) : i + 2 ≤ e := by
  cases n with
  | zero => simp [val] at h
  | succ n =>
    rw [val] at h
    repeat' split at h
    all_goals first
      | (cases h; done)
      | (obtain ⟨r, hr, hre⟩ := Option.map_eq_some_iff.1 h; simp only [Prod.mk.injEq] at hre; obtain ⟨rfl, rfl⟩ := hre; first | (simp [jk] at hk; done) | (have := st_le L _ _ _ (Nat.le_refl _) hr; omega))
      | (injection h with h; simp only [Prod.mk.injEq] at h; obtain ⟨rfl, rfl⟩ := h; simp [jk] at hk; done)
/-- The members of an object: each one's name and value. -/
theorem mems_kid {L : List Int} : ∀ (n i : Nat) (ns : List S72) (ks : List S35) (r : List S72 × List S35 × Nat), i ≤ L.length → ns.length = ks.length → mems L n i ns ks = some r →
    r.1.length = r.2.1.length ∧ ∀ m kid, ks.length ≤ m → r.2.1[m]? = some kid → ∃ n' b e' x a c, val L n' b = some (kid, e') ∧ i < b ∧ b ≤ L.length ∧ e' < r.2.2 ∧ isDl (gb L e') ∧ r.1[m]? = some x ∧ x = ⟨((a : Nat) : Int), ((c : Nat) : Int)⟩ ∧ i ≤ a ∧ st L (a + 1) = some c ∧ c < b := by
  intro n
  induction n with
  | zero =>
    intro i ns ks r hi hlen h
    simp [mems] at h
  | succ n ih =>
    intro i ns ks r hi hlen h
    rw [mems] at h
    split at h
    · rename_i h34
      have h34l := h34.1
      split at h
      · cases h
      · rename_i j hj
        have hle := st_le L _ _ _ (Nat.le_refl _) hj
        have hb1 := bl_le L j hle.2
        split at h
        · rename_i h58
          have l58 := h58.1
          have hb2 := bl_le L (bl L j + 1) (by omega)
          split at h
          · cases h
          · rename_i p e hv
            have hve := (v_lt n).1 _ p e hb2.2 hv
            have hb3 := bl_le L e hve.2
            split at h
            · rename_i hc
              injection h with h
              subst h
              refine ⟨by simp [hlen], fun m kid hm hk => ?_⟩
              obtain rfl : m = ks.length := by
                have := (List.getElem?_eq_some_iff.1 hk).1
                simp at this
                omega
              simp only [List.getElem?_concat_length, Option.some.injEq] at hk
              subst hk
              refine ⟨n, _, e, _, i, j, hv, by omega, hb2.2, by simp only; omega, dl_of (.inr (.inl hc.2)), ?_, rfl, Nat.le_refl _, hj, by omega⟩
              simp only
              rw [← hlen, List.getElem?_concat_length]
            · split at h
              · rename_i hc
                have hcl := hc.1
                have hb4 := bl_le L (bl L e + 1) (by omega)
                obtain ⟨g1, g2⟩ := ih _ _ _ _ hb4.2 (by simp [hlen]) h
                refine ⟨g1, fun m kid hm hk => ?_⟩
                have hend := (v_lt n).2.2.1 _ _ _ _ hb4.2 h
                by_cases hmk : m = ks.length
                · subst hmk
                  obtain ⟨⟨t1, e1⟩, ⟨t2, e2⟩⟩ := mems_ext _ _ _ _ _ h
                  rw [e2] at hk
                  simp at hk
                  subst hk
                  refine ⟨n, _, e, ⟨(i : Int), (j : Int)⟩, i, j, hv, by omega, hb2.2, by omega, dl_of (.inl hc.2), ?_, rfl, Nat.le_refl _, hj, by omega⟩
                  rw [e1, ← hlen]
                  simp
                · obtain ⟨n', b, e', x, a, c, f1, f2, f3, f4, f5, f6, f7, f8, f9, f10⟩ := g2 m kid (by simp; omega) hk
                  exact ⟨n', b, e', x, a, c, f1, by omega, f3, f4, f5, f6, f7, by omega, f9, f10⟩
              · cases h
        · cases h
    · cases h
theorem elts_ext {L : List Int} : ∀ (n i : Nat) (ks : List S35) (r : List S35 × Nat), elts L n i ks = some r → ∃ t, r.1 = ks ++ t := by
  intro n
  induction n with
  | zero =>
    intro i ks r h
    simp [elts] at h
  | succ n ih =>
    intro i ks r h
    rw [elts] at h
    repeat' split at h
    all_goals first
      | (cases h; done)
      | (injection h with h; subst h; exact ⟨_, rfl⟩)
      | (obtain ⟨t, e⟩ := ih _ _ _ h; exact ⟨_, by rw [e, List.append_assoc]⟩)
/-- The elements of an array. -/
theorem elts_kid {L : List Int} : ∀ (n i : Nat) (ks : List S35) (r : List S35 × Nat), i ≤ L.length → elts L n i ks = some r →
    ∀ m kid, ks.length ≤ m → r.1[m]? = some kid → ∃ n' b e', val L n' b = some (kid, e') ∧ i ≤ b ∧ b ≤ L.length ∧ e' < r.2 ∧ isDl (gb L e') := by
  intro n
  induction n with
  | zero =>
    intro i ks r hi h
    simp [elts] at h
  | succ n ih =>
    intro i ks r hi h m kid hm hk
    rw [elts] at h
    split at h
    · cases h
    · rename_i p e hv
      have hve := (v_lt n).1 _ p e hi hv
      have hb3 := bl_le L e hve.2
      split at h
      · rename_i hc
        injection h with h
        subst h
        obtain rfl : m = ks.length := by
          have := (List.getElem?_eq_some_iff.1 hk).1
          simp at this
          omega
        simp only [List.getElem?_concat_length, Option.some.injEq] at hk
        subst hk
        exact ⟨n, _, e, hv, by omega, hi, by simp only; omega, dl_of (.inr (.inr hc.2))⟩
      · split at h
        · rename_i hc
          have hcl := hc.1
          have hb4 := bl_le L (bl L e + 1) (by omega)
          have hend := (v_lt n).2.2.2.2 _ _ _ hb4.2 h
          by_cases hmk : m = ks.length
          · subst hmk
            have hx : r.1[ks.length]? = some p := by
              obtain ⟨t, et⟩ : ∃ t, r.1 = (ks ++ [p]) ++ t := elts_ext _ _ _ _ h
              rw [et]
              simp
            rw [hx] at hk
            injection hk with hk
            subst hk
            exact ⟨n, _, e, hv, by omega, hi, by omega, dl_of (.inl hc.2)⟩
          · obtain ⟨n', b, e', f1, f2, f3, f4, f5⟩ := ih _ _ _ hb4.2 h m kid (by simp; omega) hk
            exact ⟨n', b, e', f1, by omega, f3, f4, f5⟩
        · cases h
theorem bl_nb {L : List Int} : ∀ (d i : Nat), L.length - i ≤ d → ¬ isBlank (gb L (bl L i)) := by
  intro d
  induction d with
  | zero =>
    intro i hd
    have hn : ¬ isBlank (gb L i) := fun h => by have := blank_in h; omega
    rw [bl_stop hn]
    exact hn
  | succ d ih =>
    intro i hd
    by_cases hb : isBlank (gb L i)
    · have := blank_in hb
      rw [bl_go hb]
      exact ih (i + 1) (by omega)
    · rw [bl_stop hb]
      exact hb
theorem bl_bl {L : List Int} (i : Nat) : bl L (bl L i) = bl L i := bl_stop (bl_nb _ i (Nat.le_refl _))
theorem val_obj {L : List Int} {n i e : Nat} {p : S35} (h : val L n i = some (p, e)) (hk : p.f0 = 6) :
    at_ L i 123 ∧ (p.f3 = [] ∧ p.f4 = [] ∧ at_ L (bl L (i + 1)) 125 ∧ e = bl L (i + 1) + 1 ∨ ∃ n2 r, mems L n2 (bl L (i + 1)) [] [] = some r ∧ r.1 = p.f3 ∧ r.2.1 = p.f4 ∧ e = r.2.2) := by
  cases n with
  | zero => simp [val] at h
  | succ n =>
    rw [val] at h
    split at h
    · rename_i ha
      obtain ⟨r, hr, hre⟩ := Option.map_eq_some_iff.1 h
      simp only [Prod.mk.injEq] at hre
      obtain ⟨rfl, rfl⟩ := hre
      refine ⟨ha, ?_⟩
      cases n with
      | zero => simp [mem0] at hr
      | succ n =>
        rw [mem0] at hr
        split at hr
        · rename_i h1
          injection hr with hr
          subst hr
          exact .inl ⟨rfl, rfl, h1, rfl⟩
        · exact .inr ⟨n, r, hr, rfl, rfl, rfl⟩
    repeat' split at h
    all_goals first
      | (cases h; done)
      | (obtain ⟨r, hr, hre⟩ := Option.map_eq_some_iff.1 h; simp only [Prod.mk.injEq] at hre; obtain ⟨rfl, rfl⟩ := hre; simp at hk; done)
      | (injection h with h; simp only [Prod.mk.injEq] at h; obtain ⟨rfl, rfl⟩ := h; simp at hk; done)
theorem val_arr {L : List Int} {n i e : Nat} {p : S35} (h : val L n i = some (p, e)) (hk : p.f0 = 5) :
    at_ L i 91 ∧ (p.f4 = [] ∧ at_ L (bl L (i + 1)) 93 ∧ e = bl L (i + 1) + 1 ∨ ¬ at_ L (bl L (i + 1)) 93 ∧ ∃ n2 r, elts L n2 (bl L (i + 1)) [] = some r ∧ r.1 = p.f4 ∧ e = r.2) := by
  cases n with
  | zero => simp [val] at h
  | succ n =>
    rw [val] at h
    split at h
    · obtain ⟨r, hr, hre⟩ := Option.map_eq_some_iff.1 h
      simp only [Prod.mk.injEq] at hre
      obtain ⟨rfl, rfl⟩ := hre
      simp at hk
    split at h
    · rename_i ha
      obtain ⟨r, hr, hre⟩ := Option.map_eq_some_iff.1 h
      simp only [Prod.mk.injEq] at hre
      obtain ⟨rfl, rfl⟩ := hre
      refine ⟨ha, ?_⟩
      cases n with
      | zero => simp [elt0] at hr
      | succ n =>
        rw [elt0] at hr
        split at hr
        · rename_i h1
          injection hr with hr
          subst hr
          exact .inl ⟨rfl, h1, rfl⟩
        · rename_i h1
          exact .inr ⟨h1, n, r, hr, rfl, rfl⟩
    repeat' split at h
    all_goals first
      | (cases h; done)
      | (obtain ⟨r, hr, hre⟩ := Option.map_eq_some_iff.1 h; simp only [Prod.mk.injEq] at hre; obtain ⟨rfl, rfl⟩ := hre; simp at hk; done)
      | (injection h with h; simp only [Prod.mk.injEq] at h; obtain ⟨rfl, rfl⟩ := h; simp at hk; done)
theorem val_nb {L : List Int} {n i e : Nat} {p : S35} (h : val L n i = some (p, e)) (hi : i ≤ L.length) : ¬ isBlank (gb L i) := by
  intro hb
  cases n with
  | zero => simp [val] at h
  | succ n =>
    have hw : ∀ (c : Int) (w : List Int), ¬ isBlank c → ¬ wordE L i (c :: w) := fun c w hc hw => by
      have hle := wordE_le hw hi
      simp only [List.length_cons] at hle
      have := congrArg (fun l => l.getD 0 0) hw
      simp [List.getD, List.getElem?_drop] at this
      unfold gb at hb
      rw [List.getD] at hb
      rw [this] at hb
      exact hc hb
    unfold isBlank at hb
    rw [val, if_neg (fun h => by have := h.2; omega), if_neg (fun h => by have := h.2; omega), if_neg (fun h => by have := h.2; omega), if_neg (fun h => h.elim (fun h => by have := h.2; omega) (fun h => by unfold isDig at h; omega)), if_neg (hw _ _ (by decide)), if_neg (hw _ _ (by decide)), if_neg (hw _ _ (by decide))] at h
    cases h
theorem obj_kid {L : List Int} {n i e m : Nat} {p kid : S35} (h : val L n i = some (p, e)) (hi : i ≤ L.length) (hk : p.f0 = 6) (hm : p.f4[m]? = some kid) :
    ∃ n' b e', val L n' b = some (kid, e') ∧ i < b ∧ b ≤ L.length ∧ e' < e ∧ isDl (gb L e') := by
  obtain ⟨ha, h1⟩ := val_obj h hk
  have hal := ha.1
  have hb := bl_le L (i + 1) (by omega)
  rcases h1 with ⟨_, h4, _⟩ | ⟨n2, r, hr, _, e4, ee⟩
  · rw [h4] at hm
    simp at hm
  · obtain ⟨n', b, e', x, a, c, f1, f2, f3, f4, f5, _⟩ := (mems_kid _ _ _ _ _ hb.2 rfl hr).2 m kid (Nat.zero_le _) (by rw [e4]; exact hm)
    exact ⟨n', b, e', f1, by omega, f3, by omega, f5⟩
theorem obj_name {L : List Int} {n i e m : Nat} {p : S35} {x : S72} (h : val L n i = some (p, e)) (hi : i ≤ L.length) (hk : p.f0 = 6) (hm : p.f3[m]? = some x) :
    ∃ a c : Nat, x = ⟨(a : Int), (c : Int)⟩ ∧ i < a ∧ st L (a + 1) = some c ∧ c < e := by
  obtain ⟨ha, h1⟩ := val_obj h hk
  have hal := ha.1
  have hb := bl_le L (i + 1) (by omega)
  rcases h1 with ⟨h3, _⟩ | ⟨n2, r, hr, e3, e4, ee⟩
  · rw [h3] at hm
    simp at hm
  · obtain ⟨g1, g2⟩ := mems_kid _ _ _ _ _ hb.2 rfl hr
    have hlt := (List.getElem?_eq_some_iff.1 hm).1
    have hlt2 : m < r.2.1.length := by rw [← g1, e3]; exact hlt
    obtain ⟨n', b, e', y, a, c, f1, f2, f3, f4, f5, f6, f7, f8, f9, f10⟩ := g2 m r.2.1[m] (Nat.zero_le _) (List.getElem?_eq_getElem hlt2)
    rw [e3, hm] at f6
    injection f6 with f6
    subst f6
    have := (v_lt n').1 _ _ _ f3 f1
    exact ⟨a, c, f7, by omega, f9, by omega⟩
theorem arr_kid {L : List Int} {n i e m : Nat} {p kid : S35} (h : val L n i = some (p, e)) (hi : i ≤ L.length) (hk : p.f0 = 5) (hm : p.f4[m]? = some kid) :
    ∃ n' b e', val L n' b = some (kid, e') ∧ i < b ∧ b ≤ L.length ∧ e' < e ∧ isDl (gb L e') := by
  obtain ⟨ha, h1⟩ := val_arr h hk
  have hal := ha.1
  have hb := bl_le L (i + 1) (by omega)
  rcases h1 with ⟨h4, _⟩ | ⟨_, n2, r, hr, e4, ee⟩
  · rw [h4] at hm
    simp at hm
  · obtain ⟨n', b, e', f1, f2, f3, f4, f5⟩ := elts_kid _ _ _ _ hb.2 hr m kid (Nat.zero_le _) (by rw [e4]; exact hm)
    exact ⟨n', b, e', f1, by omega, f3, by omega, f5⟩
/-- The elements of an array, as ArrayEach goes over them. -/
theorem els_from {L : List Int} {a : Nat} : ∀ (n o : Nat) (ks : List S35) (r : List S35 × Nat), a ≤ o → o ≤ L.length → elts L n (bl L o) ks = some r →
    ∃ es, ElsFrom (L.drop a) (o - a) es ∧ r.1.length = ks.length + es.length ∧ ∀ (m : Nat) (kid : S35), r.1[ks.length + m]? = some kid → ∃ (b e : Nat) (k : Int) (n' : Nat), es[m]? = some (b, e, k) ∧ val L n' (a + b) = some (kid, a + e) ∧ a + b ≤ L.length ∧ a + e ≤ L.length := by
  intro n
  induction n with
  | zero =>
    intro o ks r ha ho h
    simp [elts] at h
  | succ n ih =>
    intro o ks r ha ho h
    have hb := bl_le L o ho
    rw [elts] at h
    split at h
    · cases h
    · rename_i p e hv
      have hve := (v_lt n).1 _ _ _ hb.2 hv
      have hb3 := bl_le L e hve.2
      have hq := bl_drop L o _ 0 (Nat.le_refl _)
      rw [Nat.add_zero] at hq
      have hlo : (L.drop o).length = L.length - o := List.length_drop
      have hv2 := hv
      rw [← hq, Nat.add_comm] at hv2
      obtain ⟨p', e', rfl, hv', hsh⟩ := (c_all (L := L) (M := L.drop o) (o := o) (fun i _ => by rw [gb_drop, Nat.add_comm]) (by omega) n).1 _ _ _ hv2 (by omega) (by omega)
      have hdd : (L.drop a).drop (o - a) = L.drop o := by rw [List.drop_drop, show a + (o - a) = o by omega]
      have hbe := bl_drop L a _ (o - a + e') (Nat.le_refl _)
      rw [show a + (o - a + e') = e' + o by omega] at hbe
      have hla : (L.drop a).length = L.length - a := List.length_drop
      have hdl : (gb L (bl L (e' + o)) = 44 ∨ gb L (bl L (e' + o)) = 125 ∨ gb L (bl L (e' + o)) = 93) → Gtv ((L.drop a).drop (o - a)) (bl (L.drop o) 0) (jk p'.f0) e' := by
        intro hx
        rw [hdd]
        refine (val_gtv hv' (by omega) (.inr ?_)).1
        rw [gb_drop, Nat.add_comm]
        exact dl_of hx
      have hks : jk p'.f0 = 1 ∧ bl (L.drop o) 0 + 2 ≤ e' ∨ jk p'.f0 ≠ 1 ∧ bl (L.drop o) 0 < e' := by
        by_cases hj : jk p'.f0 = 1
        · exact .inl ⟨hj, val_str hv' hj⟩
        · exact .inr ⟨hj, by omega⟩
      have hkid0 : ∀ kid, some kid = some p → ∃ b e k n', (o - a + bl (L.drop o) 0, o - a + e', jk p'.f0) = (b, e, k) ∧ val L n' (a + b) = some (kid, a + e) ∧ a + b ≤ L.length ∧ a + e ≤ L.length := by
        intro kid hk
        injection hk with hk
        subst hk
        refine ⟨_, _, _, n, rfl, ?_, by omega, by omega⟩
        rw [show a + (o - a + bl (L.drop o) 0) = bl L o by omega, show a + (o - a + e') = e' + o by omega]
        exact hv
      split at h
      · rename_i hc
        have hcl := hc.1
        injection h with h
        subst h
        refine ⟨_, .last (o - a) _ e' (jk p'.f0) (by omega) (by rw [hdd]) (hdl (.inr (.inr hc.2))) hks (by omega) (by omega) (by rw [gb_drop, hbe]; exact hc.2), by simp, fun m kid hm => ?_⟩
        obtain rfl : m = 0 := by
          have := (List.getElem?_eq_some_iff.1 hm).1
          simp at this
          omega
        simp only [Nat.add_zero, List.getElem?_concat_length] at hm
        obtain ⟨b, e, k, n', g1, g2⟩ := hkid0 kid hm.symm
        exact ⟨b, e, k, n', by rw [← g1]; rfl, g2⟩
      · split at h
        · rename_i hc
          have hcl := hc.1
          obtain ⟨es, g1, g2, g3⟩ := ih (bl L (e' + o) + 1) _ _ (by omega) (by omega) h
          refine ⟨_, .more (o - a) _ e' (jk p'.f0) es (by omega) (by rw [hdd]) (hdl (.inl hc.2)) hks (by omega) (by omega) (by rw [gb_drop, hbe]; exact hc.2) (by rw [show bl (L.drop a) (o - a + e') + 1 = bl L (e' + o) + 1 - a by omega]; exact g1), by rw [g2]; simp; omega, fun m kid hm => ?_⟩
          cases m with
          | zero =>
            obtain ⟨t, et⟩ := elts_ext _ _ _ _ h
            rw [et] at hm
            simp at hm
            obtain ⟨b, e, k, n', g1, g2⟩ := hkid0 kid (by rw [hm])
            exact ⟨b, e, k, n', by rw [← g1]; rfl, g2⟩
          | succ m =>
            obtain ⟨b, e, k, n', f1, f2⟩ := g3 m kid (by rw [← hm]; congr 1; simp; omega)
            exact ⟨b, e, k, n', by simpa using f1, f2⟩
        · cases h
theorem els_of {L : List Int} {n i e : Nat} {p : S35} (h : val L n i = some (p, e)) (hi : i ≤ L.length) (hk : p.f0 = 5) :
    ∃ es, Els (L.drop i) es ∧ p.f4.length = es.length ∧ ∀ (m : Nat) (kid : S35), p.f4[m]? = some kid → ∃ (b e : Nat) (k : Int) (n' : Nat), es[m]? = some (b, e, k) ∧ val L n' (i + b) = some (kid, i + e) ∧ i + b ≤ L.length ∧ i + e ≤ L.length := by
  obtain ⟨ha, h1⟩ := val_arr h hk
  have hal := ha.1
  have hb := bl_le L (i + 1) (by omega)
  have hbd := bl_drop L i _ 1 (Nat.le_refl _)
  have hll : (L.drop i).length = L.length - i := List.length_drop
  have h0 : gb (L.drop i) 0 = 91 := by rw [gb_drop, Nat.add_zero]; exact ha.2
  rcases h1 with ⟨h4, h93, he⟩ | ⟨h93, n2, r, hr, e4, ee⟩
  · have hl := h93.1
    refine ⟨[], ⟨h0, by omega, .inl ⟨?_, rfl⟩⟩, by rw [h4]; rfl, fun m kid hm => by rw [h4] at hm; simp at hm⟩
    rw [gb_drop, hbd]
    exact h93.2
  · have hl : bl L (i + 1) < L.length := by
      have := (v_lt n2).2.2.2.2 _ _ _ hb.2 hr
      omega
    obtain ⟨es, g1, g2, g3⟩ := els_from (a := i) n2 (bl L (i + 1)) [] r (by omega) hb.2 (by rw [bl_bl]; exact hr)
    refine ⟨es, ⟨h0, by omega, .inr ⟨?_, by rw [show bl (L.drop i) 1 = bl L (i + 1) - i by omega]; exact g1⟩⟩, by rw [← e4, g2]; simp, fun m kid hm => ?_⟩
    · rw [gb_drop, hbd]
      exact fun h => h93 ⟨hl, h⟩
    · exact g3 m kid (by rw [e4]; simpa using hm)
/-- Keys lead from a place to a place. -/
inductive Ld (L : List Int) : S35 → List (List Int) → S35 → Prop
  | nil (p : S35) : Ld L p [] p
  | name (p : S35) (key : List Int) (keys : List (List Int)) (m : Nat) (x : S72) (kid q : S35) : p.f0 = 6 → p.f3[m]? = some x → un (nmI L x) = some key → (∀ (k : Nat) (y : S72), k < m → p.f3[k]? = some y → un (nmI L y) ≠ some key) → p.f4[m]? = some kid → Ld L kid keys q → Ld L p (key :: keys) q
  | elt (p : S35) (key : List Int) (keys : List (List Int)) (k : Nat) (kid q : S35) : p.f0 = 5 → Brk key k → p.f4[k]? = some kid → Ld L kid keys q → Ld L p (key :: keys) q
theorem Ld.val {L : List Int} {p q : S35} {keys : List (List Int)} (hL : Ld L p keys q) : ∀ (n i e : Nat), val L n i = some (p, e) → i ≤ L.length → (e = L.length ∨ isDl (gb L e)) → ∃ n' b e', Pure.val L n' b = some (q, e') ∧ i ≤ b ∧ b ≤ L.length ∧ e' ≤ e ∧ (e' = L.length ∨ isDl (gb L e')) := by
  induction hL with
  | nil p => exact fun n i e h hi he => ⟨n, i, e, h, Nat.le_refl _, hi, Nat.le_refl _, he⟩
  | name p key keys m x kid q hk _ _ _ hm _ ih =>
    intro n i e h hi he
    obtain ⟨n', b, e', f1, f2, f3, f4, f5⟩ := obj_kid h hi hk hm
    obtain ⟨n2, b2, e2, g1, g2, g3, g4, g5⟩ := ih n' b e' f1 f3 (.inr f5)
    exact ⟨n2, b2, e2, g1, by omega, g3, by omega, g5⟩
  | elt p key keys k kid q hk _ hm _ ih =>
    intro n i e h hi he
    obtain ⟨n', b, e', f1, f2, f3, f4, f5⟩ := arr_kid h hi hk hm
    obtain ⟨n2, b2, e2, g1, g2, g3, g4, g5⟩ := ih n' b e' f1 f3 (.inr f5)
    exact ⟨n2, b2, e2, g1, by omega, g3, by omega, g5⟩
theorem nm_win {L : List Int} {o c0 a c : Nat} (h1 : o ≤ a) (h2 : a + 1 < c) (h3 : c ≤ c0) : nmI (cutI L o c0) ⟨(a : Int) - (o : Int), (c : Int) - (o : Int)⟩ = nmI L ⟨(a : Int), (c : Int)⟩ := by
  unfold nmI
  simp only
  rw [show ((a : Int) - (o : Int)).toNat + 1 = a - o + 1 by omega, show ((c : Int) - (o : Int)).toNat - 1 = c - o - 1 by omega, cutI_cut (by omega), show a - o + 1 + o = (a : Int).toNat + 1 by omega, show c - o - 1 + o = (c : Int).toNat - 1 by omega]
theorem nm_at {L : List Int} {n i e k o c0 : Nat} {p : S35} {y : S72} (h : val L n i = some (p, e)) (hi : i ≤ L.length) (hk : p.f0 = 6) (ho : o ≤ i) (hc : e ≤ c0) (hy : p.f3[k]? = some y) :
    nmI (cutI L o c0) ⟨y.f0 - (o : Int), y.f1 - (o : Int)⟩ = nmI L y := by
  obtain ⟨a, c, rfl, f1, f2, f3⟩ := obj_name h hi hk hy
  have := st_le L _ _ _ (Nat.le_refl _) f2
  exact nm_win (by omega) (by omega) (by omega)
theorem Ld.shift {L : List Int} {o c0 : Nat} {p q : S35} {keys : List (List Int)} (hL : Ld L p keys q) : ∀ (n i e : Nat) (p' : S35), Pure.val L n i = some (p, e) → i ≤ L.length → o ≤ i → e ≤ c0 → Sh o p p' → ∃ q', Ld (cutI L o c0) p' keys q' ∧ Sh o q q' := by
  induction hL with
  | nil p => exact fun n i e p' h hi ho hc hs => ⟨p', .nil p', hs⟩
  | name p key keys m x kid q hk hx hu hf hm _ ih =>
    intro n i e p' h hi ho hc hs
    obtain ⟨n', b, e', f1, f2, f3, f4, f5⟩ := obj_kid h hi hk hm
    cases hs with
    | mk k0 a0 b0 ns ks ks' hkk =>
      obtain ⟨kid', g1, g2⟩ := hkk.get m kid hm
      obtain ⟨q', hq, hsq⟩ := ih n' b e' kid' f1 f3 (by omega) (by omega) g2
      refine ⟨q', .name _ key keys m ⟨x.f0 - (o : Int), x.f1 - (o : Int)⟩ kid' q' hk ?_ ?_ ?_ g1 hq, hsq⟩
      · simp only [List.getElem?_map]
        rw [show ns[m]? = some x from hx]
        rfl
      · rw [nm_at h hi hk ho hc hx]
        exact hu
      · intro k y hkm hy
        simp only [List.getElem?_map, Option.map_eq_some_iff] at hy
        obtain ⟨z, hz, rfl⟩ := hy
        rw [nm_at h hi hk ho hc hz]
        exact hf k z hkm hz
  | elt p key keys k kid q hk hb hm _ ih =>
    intro n i e p' h hi ho hc hs
    obtain ⟨n', b, e', f1, f2, f3, f4, f5⟩ := arr_kid h hi hk hm
    cases hs with
    | mk k0 a0 b0 ns ks ks' hkk =>
      obtain ⟨kid', g1, g2⟩ := hkk.get k kid hm
      obtain ⟨q', hq, hsq⟩ := ih n' b e' kid' f1 f3 (by omega) (by omega) g2
      exact ⟨q', .elt _ key keys k kid' q' hk hb g1 hq, hsq⟩
/-- Keys lead nowhere: where and why. -/
inductive Ms (L : List Int) : S35 → List (List Int) → Prop
  | name (p : S35) (key : List Int) (keys : List (List Int)) : p.f0 = 6 → (∀ (k : Nat) (y : S72), p.f3[k]? = some y → un (nmI L y) ≠ some key) → Ms L p (key :: keys)
  | flat (p : S35) (key : List Int) (keys : List (List Int)) : p.f0 ≠ 6 → gb key 0 ≠ 91 → Ms L p (key :: keys)
  | far (p : S35) (key : List Int) (keys : List (List Int)) (k : Nat) : p.f0 = 5 → Brk key k → p.f4.length ≤ k → Ms L p (key :: keys)
  | inName (p : S35) (key : List Int) (keys : List (List Int)) (m : Nat) (x : S72) (kid : S35) : p.f0 = 6 → p.f3[m]? = some x → un (nmI L x) = some key → (∀ (k : Nat) (y : S72), k ≠ m → p.f3[k]? = some y → un (nmI L y) ≠ some key) → p.f4[m]? = some kid → Ms L kid keys → Ms L p (key :: keys)
  | inElt (p : S35) (key : List Int) (keys : List (List Int)) (k : Nat) (kid : S35) : p.f0 = 5 → Brk key k → p.f4[k]? = some kid → Ms L kid keys → Ms L p (key :: keys)
theorem Ms.shift {L : List Int} {o c0 : Nat} {p : S35} {keys : List (List Int)} (hL : Ms L p keys) : ∀ (n i e : Nat) (p' : S35), Pure.val L n i = some (p, e) → i ≤ L.length → o ≤ i → e ≤ c0 → Sh o p p' → Ms (cutI L o c0) p' keys := by
  induction hL with
  | name p key keys hk hn =>
    intro n i e p' h hi ho hc hs
    cases hs with
    | mk k0 a0 b0 ns ks ks' hkk =>
      refine .name _ _ _ hk (fun k y hy => ?_)
      simp only [List.getElem?_map, Option.map_eq_some_iff] at hy
      obtain ⟨z, hz, rfl⟩ := hy
      rw [nm_at h hi hk ho hc hz]
      exact hn k z hz
  | flat p key keys hk hn =>
    intro n i e p' h hi ho hc hs
    cases hs with
    | mk k0 a0 b0 ns ks ks' hkk => exact .flat _ _ _ hk hn
  | far p key keys k hk hb hn =>
    intro n i e p' h hi ho hc hs
    cases hs with
    | mk k0 a0 b0 ns ks ks' hkk => exact .far _ _ _ k hk hb (by have := hkk.length; simp only at hn ⊢; omega)
  | inName p key keys m x kid hk hx hu hf hm _ ih =>
    intro n i e p' h hi ho hc hs
    obtain ⟨n', b, e', f1, f2, f3, f4, f5⟩ := obj_kid h hi hk hm
    cases hs with
    | mk k0 a0 b0 ns ks ks' hkk =>
      obtain ⟨kid', g1, g2⟩ := hkk.get m kid hm
      refine .inName _ key keys m ⟨x.f0 - (o : Int), x.f1 - (o : Int)⟩ kid' hk ?_ ?_ ?_ g1 (ih n' b e' kid' f1 f3 (by omega) (by omega) g2)
      · simp only [List.getElem?_map]
        rw [show ns[m]? = some x from hx]
        rfl
      · rw [nm_at h hi hk ho hc hx]
        exact hu
      · intro k y hkm hy
        simp only [List.getElem?_map, Option.map_eq_some_iff] at hy
        obtain ⟨z, hz, rfl⟩ := hy
        rw [nm_at h hi hk ho hc hz]
        exact hf k z hkm hz
  | inElt p key keys k kid hk hb hm _ ih =>
    intro n i e p' h hi ho hc hs
    obtain ⟨n', b, e', f1, f2, f3, f4, f5⟩ := arr_kid h hi hk hm
    cases hs with
    | mk k0 a0 b0 ns ks ks' hkk =>
      obtain ⟨kid', g1, g2⟩ := hkk.get k kid hm
      exact .inElt _ key keys k kid' hk hb g1 (ih n' b e' kid' f1 f3 (by omega) (by omega) g2)
theorem sk_strend {S : Sk} {L : List Int} {n i e : Nat} {p : S35} {lv kl : Int} {lm : Bool} (h : val L n i = some (p, e)) (hi : i ≤ L.length) (hk : p.f0 = 4) (he : bl L e = L.length) : sk S L i lv kl lm = -1 := by
  cases n with
  | zero => simp [val] at h
  | succ n =>
    rw [val] at h
    repeat' split at h
    all_goals first
      | (cases h; done)
      | (obtain ⟨r, hr, hre⟩ := Option.map_eq_some_iff.1 h; simp only [Prod.mk.injEq] at hre; obtain ⟨rfl, rfl⟩ := hre; first | (simp at hk; done) | skip)
      | (injection h with h; simp only [Prod.mk.injEq] at h; obtain ⟨rfl, rfl⟩ := h; simp at hk; done)
    rename_i _ _ h34
    exact sk_inl h34.1 (by unfold skStep; rw [if_pos h34.2, st_qe L _ _ _ (Nat.le_refl _) hr]; simp only; rw [if_neg (by omega)])
theorem win_len {L : List Int} {a b : Nat} (h : a ≤ b) (hb : b ≤ L.length) : (cutI L a b).length + a = b := by rw [cutI_len hb]; omega
/-- A value of a text, cut out, is a text's value. -/
theorem val_win {L : List Int} {n b e : Nat} {p : S35} (h : val L n b = some (p, e)) (hb : b ≤ L.length) : ∃ p', val (cutI L b e) n 0 = some (p', (cutI L b e).length) ∧ Sh b p p' := by
  have hl := (v_lt n).1 _ _ _ hb h
  have hw := win_len (L := L) (a := b) (b := e) (by omega) hl.2
  obtain ⟨p', e', he, hv, hs⟩ := (c_all (L := L) (M := cutI L b e) (o := b) (fun i hi => by rw [cutI_gb (by omega), Nat.add_comm]) (by omega) n).1 0 p e (by rw [Nat.zero_add]; exact h) (by omega) (Nat.zero_le _)
  obtain rfl : e' = (cutI L b e).length := by omega
  exact ⟨p', hv, hs⟩
theorem w_bl {L : List Int} {b e z : Nat} (hbe : b ≤ e) (he : e ≤ L.length) (h : bl (cutI L b e) z < (cutI L b e).length) : bl L (b + z) = b + bl (cutI L b e) z := by
  have hw := win_len (L := L) hbe he
  suffices hs : ∀ (d z : Nat), (cutI L b e).length - z ≤ d → bl (cutI L b e) z < (cutI L b e).length → bl L (b + z) = b + bl (cutI L b e) z from hs _ z (Nat.le_refl _) h
  intro d
  induction d with
  | zero =>
    intro z hd h
    have hn : ¬ isBlank (gb (cutI L b e) z) := fun h => by have := blank_in h; omega
    rw [bl_stop hn] at h
    omega
  | succ d ih =>
    intro z hd h
    by_cases hz : z < (cutI L b e).length
    · have hg := cutI_gb (L := L) (a := b) (b := e) (k := z) (by omega)
      by_cases hb : isBlank (gb (cutI L b e) z)
      · rw [bl_go hb] at h ⊢
        rw [bl_go (by rw [← hg]; exact hb)]
        exact ih (z + 1) (by omega) h
      · rw [bl_stop hb, bl_stop (by rw [← hg]; exact hb)]
    · have hn : ¬ isBlank (gb (cutI L b e) z) := fun h => by have := blank_in h; omega
      rw [bl_stop hn] at h
      omega
theorem drop_key {keys rest : List (List Int)} {key : List Int} {n : Nat} (h : keys.drop n = key :: rest) : keys.getD n [] = key ∧ keys.drop (n + 1) = rest ∧ keys.length = n + 1 + rest.length := by
  have h1 : (keys.drop n)[0]? = some key := by rw [h]; rfl
  rw [List.getElem?_drop, Nat.add_zero] at h1
  refine ⟨by rw [List.getD, h1]; rfl, ?_, ?_⟩
  · have := congrArg (List.drop 1) h
    rw [List.drop_drop] at this
    simpa using this
  · have := congrArg List.length h
    rw [List.length_drop, List.length_cons] at this
    omega
theorem sk_ix {S : Sk} {L : List Int} {i : Nat} {lv : Int} {lm : Bool} (hi : i < L.length) (h : gb L i = 91) (hx : S.ix lv.toNat = true) : sk S L i lv lv lm = S.at_ i lv.toNat :=
  sk_inl hi (by unfold skStep; rw [if_neg (by omega), if_neg (by omega), if_neg (by omega), if_pos h, if_pos ⟨rfl, hx⟩])
/-- Where keys lead to a place the search finds it. -/
theorem fnd_at : ∀ (rest : List (List Int)) (L : List Int) (keys : List (List Int)) (lvn n i e : Nat) (p q : S35), keys.drop lvn = rest → rest ≠ [] → val L n i = some (p, e) → i ≤ L.length → (e = L.length ∨ isDl (gb L e)) → Ld L p rest q →
    ∃ (at_ : Nat → Nat → Int) (z : Nat), sk (skS keys L at_) L i lvn lvn true = (z : Int) ∧ bl L z = q.f1.toNat ∧ z ≤ L.length ∧ ∀ i n, at_ i n ≠ -7 → Ixr keys L i n (at_ i n) := by
  intro rest
  induction rest with
  | nil => exact fun L keys lvn n i e p q _ h => absurd rfl h
  | cons key rest ih =>
    intro L keys lvn n i e p q hdr _ hv hi he hL
    obtain ⟨hkey, hdr2, hlen⟩ := drop_key hdr
    cases hL with
    | name _ _ _ m x kid _ hk hx hu hf hm hL2 =>
      have hne : p.f3 ≠ [] := fun h => by rw [h] at hx; simp at hx
      suffices hs : ∀ at_ : Nat → Nat → Int, ∃ b e2 n2, b ≤ L.length ∧ val L n2 (bl L b) = some (kid, e2) ∧ isDl (gb L e2) ∧ sk (skS keys L at_) L i lvn lvn true = if rest = [] then (b : Int) else sk (skS keys L at_) L (bl L b) ((lvn + 1 : Nat) : Int) ((lvn + 1 : Nat) : Int) true by
        by_cases hr : rest = []
        · subst hr
          cases hL2
          obtain ⟨b, e2, n2, hb, hv2, _, hsk⟩ := hs (fun _ _ => -7)
          rw [if_pos rfl] at hsk
          exact ⟨_, b, hsk, by rw [(val_pos hv2).1]; rfl, hb, fun i n h => absurd rfl h⟩
        · obtain ⟨b0, e0, n0, hb0, hv0, hd0, _⟩ := hs (fun _ _ => -7)
          obtain ⟨at_, z, h1, h2, h3, h4⟩ := ih L keys (lvn + 1) n0 (bl L b0) e0 kid q hdr2 hr hv0 (bl_le L b0 hb0).2 (.inr hd0) hL2
          obtain ⟨b, e2, n2, hb, hv2, _, hsk⟩ := hs at_
          rw [if_neg hr] at hsk
          have hbb : bl L b = bl L b0 := by
            have x1 := (val_pos hv2).1
            have x2 := (val_pos hv0).1
            omega
          exact ⟨at_, z, by rw [hsk, hbb]; exact h1, h2, h3, h4⟩
      intro at_
      obtain ⟨n', r, hr, e3, e4, hre0, hbl, hsk⟩ := sk_in (S := skS keys L at_) (lv := (lvn : Int)) hv hk hne
      have hin : ∀ (k : Nat) (y : S72), r.1[k]? = some y → ∀ a b : Nat, y.f0 = a → y.f1 = b → (skS keys L at_).bad (a + 1) (b - 1) = false ∧ ((skS keys L at_).eq (a + 1) (b - 1) ((lvn : Int) + 1 - 1).toNat = decide (un (nmI L y) = some key)) := by
        intro k y hy a b ha hb
        obtain ⟨a', c', rfl, f1, f2, f3⟩ := obj_name hv hi hk (by rw [← e3]; exact hy)
        simp only [Int.natCast_inj] at ha hb
        subst ha
        subst hb
        have hok := un_ok _ _ _ (Nat.le_refl _) f2
        refine ⟨?_, ?_⟩
        · show (un (cutI L (a' + 1) (c' - 1))).isNone = false
          cases hc : un (cutI L (a' + 1) (c' - 1)) with
          | none => exact absurd hc hok
          | some _ => rfl
        · show decide (un (cutI L (a' + 1) (c' - 1)) = some (keys.getD ((lvn : Int) + 1 - 1).toNat [])) = _
          rw [show ((lvn : Int) + 1 - 1).toNat = lvn by omega, hkey]
          rfl
      obtain ⟨b, p2, e2, n2, g1, g2, g3, g4, g5, g6, g7⟩ := sk_hit (S := skS keys L at_) (L := L) (lv := (lvn : Int) + 1) (kl := (lvn : Int)) (by omega) (by omega) (by show (lvn : Int) + 1 ≤ (keys.length : Nat); omega) n' _ [] [] r true m x hbl rfl hr (Nat.zero_le _) (by rw [e3]; exact hx)
        (fun a b ha hb => by
          obtain ⟨h1, h2⟩ := hin m x (by rw [e3]; exact hx) a b ha hb
          exact ⟨h1, by rw [h2]; simpa using hu⟩)
        (fun k y _ hkm hy a b ha hb => by
          obtain ⟨h1, h2⟩ := hin k y hy a b ha hb
          exact ⟨h1, by rw [h2]; simpa using hf k y hkm (by rw [← e3]; exact hy)⟩)
      rw [e4, hm] at g1
      injection g1 with g1
      subst g1
      have hdl : isDl (gb L e2) := dl_of (by rcases g6 with ⟨h, _⟩ | ⟨h, _⟩ <;> omega)
      refine ⟨b, e2, n2, g2, g3, hdl, ?_⟩
      rw [hsk, g7]
      by_cases hr0 : rest = []
      · subst hr0
        rw [if_pos rfl, if_pos (by show (lvn : Int) + 1 = (keys.length : Nat); rw [hlen]; simp)]
      · have : rest.length ≠ 0 := fun h => hr0 (List.eq_nil_of_length_eq_zero h)
        rw [if_neg hr0, if_neg (by show ¬ (lvn : Int) + 1 = (keys.length : Nat); omega), sk_bl g2]
        push_cast
        rfl
    | elt _ _ _ k kid _ hk hb hm hL2 =>
      obtain ⟨es, hes, hel, hek⟩ := els_of hv hi hk
      obtain ⟨b, e2, t, n2, f1, f2, f3, f4⟩ := hek k kid hm
      have ha := (val_arr hv hk).1
      have hbe := (v_lt n2).1 _ _ _ f3 f2
      obtain ⟨kid', hw, hsh⟩ := val_win f2 f3
      have hixr : ∀ at_ : Nat → Nat → Int, sk (skS keys L at_) L i lvn lvn true = at_ i lvn := fun at_ => by
        rw [sk_ix ha.1 ha.2 (by show decide (gb (keys.getD (lvn : Int).toNat []) 0 = 91) = true; rw [Int.toNat_natCast, hkey]; simpa using hb.2.2.1)]
        show at_ i (lvn : Int).toNat = _
        rw [Int.toNat_natCast]
      have key2 : ∀ z : Nat, Fnd rest (cutI L (i + b) (i + e2)) z → Ixr keys L i lvn ((i + b + z : Nat) : Int) := fun z hz =>
        .at_ keys L i lvn k b e2 z t es (by rw [hkey]; exact hb) hes f1 (by rw [hdr2]; exact hz)
      suffices hs : ∃ z : Nat, Fnd rest (cutI L (i + b) (i + e2)) z ∧ bl L (i + b + z) = q.f1.toNat ∧ i + b + z ≤ L.length by
        obtain ⟨z, h1, h2, h3⟩ := hs
        refine ⟨fun i' n' => if i' = i ∧ n' = lvn then ((i + b + z : Nat) : Int) else -7, i + b + z, ?_, h2, h3, ?_⟩
        · rw [hixr]
          simp
        · intro i' n' hne
          simp only at hne ⊢
          split at hne
          · rename_i hc
            obtain ⟨rfl, rfl⟩ := hc
            rw [if_pos ⟨rfl, rfl⟩]
            exact key2 z h1
          · exact absurd rfl hne
      by_cases hr : rest = []
      · subst hr
        cases hL2
        refine ⟨0, .nil _, ?_, by omega⟩
        rw [Nat.add_zero, bl_stop (val_nb f2 f3), (val_pos f2).1]
        rfl
      · obtain ⟨q', hq', hsq⟩ := hL2.shift (o := i + b) (c0 := i + e2) n2 (i + b) (i + e2) kid' f2 f3 (Nat.le_refl _) (Nat.le_refl _) hsh
        obtain ⟨at_, z, h1, h2, h3, h4⟩ := ih (cutI L (i + b) (i + e2)) rest 0 n2 0 _ kid' q' rfl hr hw (Nat.zero_le _) (.inl rfl) hq'
        obtain ⟨n3, b3, e3, v1, v2, v3, v4, v5⟩ := hq'.val n2 0 _ hw (Nat.zero_le _) (.inl rfl)
        have hq1 := (val_pos v1).1
        have hlt3 := (v_lt n3).1 _ _ _ v3 v1
        have hwl := win_len (L := L) (a := i + b) (b := i + e2) (by omega) hbe.2
        refine ⟨z, .mk rest _ _ at_ hr h4 h1 (by omega), ?_, by omega⟩
        have hb3 : bl (cutI L (i + b) (i + e2)) z = b3 := by rw [h2, hq1]; rfl
        rw [w_bl (by omega) hbe.2 (by omega), hb3]
        cases hsq with
        | mk k0 a0 b0 ns ks ks' hkk =>
          simp only at hq1 ⊢
          omega
/-- Where keys lead nowhere the search finds nothing. -/
theorem fnd_no : ∀ (rest : List (List Int)) (L : List Int) (keys : List (List Int)) (lvn n i e : Nat) (p : S35), keys.drop lvn = rest → val L n i = some (p, e) → i ≤ L.length → (bl L e < L.length ∧ gb L (bl L e) ≠ 58 ∨ bl L e = L.length) → Ms L p rest →
    ∃ (at_ : Nat → Nat → Int), (∀ i n, at_ i n ≠ -7 → Ixr keys L i n (at_ i n)) ∧ (sk (skS keys L at_) L i lvn lvn true = -1 ∨ (bl L e < L.length ∧ ∃ kl lm, sk (skS keys L at_) L i lvn lvn true = sk (skS keys L at_) L (bl L e) lvn kl lm ∧ (kl = (lvn : Int) - 1 ∨ (kl = (lvn : Int) ∧ (skS keys L at_).ix lvn = false) ∨ (lvn : Int) < kl))) := by
  intro rest
  induction rest with
  | nil =>
    intro L keys lvn n i e p _ _ _ _ hM
    cases hM
  | cons key rest ih =>
    intro L keys lvn n i e p hdr hv hi hf hM
    obtain ⟨hkey, hdr2, hlen⟩ := drop_key hdr
    have hve := (v_lt n).1 _ _ _ hi hv
    have hend : ∀ (S : Sk) (kl : Int) (lm : Bool), sk S L i lvn lvn true = sk S L e lvn kl lm → (kl = (lvn : Int) - 1 ∨ (kl = (lvn : Int) ∧ S.ix lvn = false) ∨ (lvn : Int) < kl) → sk S L i lvn lvn true = -1 ∨ (bl L e < L.length ∧ ∃ kl lm, sk S L i lvn lvn true = sk S L (bl L e) lvn kl lm ∧ (kl = (lvn : Int) - 1 ∨ (kl = (lvn : Int) ∧ S.ix lvn = false) ∨ (lvn : Int) < kl)) := by
      intro S kl lm h1 h2
      rw [sk_bl hve.2] at h1
      rcases hf with hf | hf
      · exact .inr ⟨hf.1, kl, lm, h1, h2⟩
      · exact .inl (by rw [h1, sk_out (by omega)])
    have hnames : p.f0 = 6 → ∀ (at_ : Nat → Nat → Int) (k : Nat) (y : S72), p.f3[k]? = some y → ∀ a b : Nat, y.f0 = a → y.f1 = b → (skS keys L at_).bad (a + 1) (b - 1) = false ∧ ((skS keys L at_).eq (a + 1) (b - 1) ((lvn : Int) + 1 - 1).toNat = decide (un (nmI L y) = some key)) := by
      intro hk at_ k y hy a b ha hb
      obtain ⟨a', c', rfl, f1, f2, f3⟩ := obj_name hv hi hk hy
      simp only [Int.natCast_inj] at ha hb
      subst ha
      subst hb
      have hok := un_ok _ _ _ (Nat.le_refl _) f2
      refine ⟨?_, ?_⟩
      · show (un (cutI L (a' + 1) (c' - 1))).isNone = false
        cases hc : un (cutI L (a' + 1) (c' - 1)) with
        | none => exact absurd hc hok
        | some _ => rfl
      · show decide (un (cutI L (a' + 1) (c' - 1)) = some (keys.getD ((lvn : Int) + 1 - 1).toNat [])) = _
        rw [show ((lvn : Int) + 1 - 1).toNat = lvn by omega, hkey]
        rfl
    cases hM with
    | name _ _ _ hk hn =>
      refine ⟨fun _ _ => -7, fun i n h => absurd rfl h, ?_⟩
      obtain ⟨ha, h1⟩ := val_obj hv hk
      have hal := ha.1
      by_cases hne : p.f3 = []
      · rcases h1 with ⟨_, _, h125, he⟩ | ⟨n2, r, hr, e3, e4, ee⟩
        · have ha2 := ha.2
          have h125l := h125.1
          have h1252 := h125.2
          refine hend _ ((lvn : Int) - 1) true ?_ (.inl rfl)
          rw [sk_inr (r := (i + 1, (lvn : Int) + 1, (lvn : Int), true)) hal (by unfold skStep; rw [if_neg (by omega), if_pos ha2, if_pos rfl])]
          show sk _ L (i + 1) ((lvn : Int) + 1) (lvn : Int) true = _
          rw [sk_bl (by omega), sk_inr (r := (bl L (i + 1) + 1, (lvn : Int) + 1 - 1, (lvn : Int) - 1, true)) h125l (by unfold skStep; rw [if_neg (by omega), if_neg (by omega), if_pos h1252, if_pos (by omega)])]
          show sk _ L (bl L (i + 1) + 1) ((lvn : Int) + 1 - 1) ((lvn : Int) - 1) true = _
          rw [he, show (lvn : Int) + 1 - 1 = (lvn : Int) by omega]
        · exfalso
          have hg := (mems_kid _ _ _ _ _ (bl_le L (i + 1) (by omega)).2 rfl hr).1
          obtain ⟨⟨t1, x1⟩, _⟩ := mems_ext _ _ _ _ _ hr
          cases n2 with
          | zero => simp [mems] at hr
          | succ n2 =>
            rw [mems] at hr
            repeat' split at hr
            all_goals first
              | (cases hr; done)
              | (injection hr with hr; subst hr; simp at e3; rw [← e3] at hne; simp at hne; done)
              | (obtain ⟨⟨t, et⟩, _⟩ := mems_ext _ _ _ _ _ hr; rw [← e3, et] at hne; simp at hne; done)
      · obtain ⟨n', r, hr, e3, e4, hre0, hbl, hsk⟩ := sk_in (S := skS keys L (fun _ _ => -7)) (lv := (lvn : Int)) hv hk hne
        have hmiss := sk_miss (S := skS keys L (fun _ _ => -7)) (L := L) (lv := (lvn : Int) + 1) (kl := (lvn : Int)) (.inl (by omega)) (by omega) (by show (lvn : Int) + 1 ≤ (keys.length : Nat); omega) n' _ [] [] r true hbl rfl hr
          (fun k y _ hy a b ha hb => by
            obtain ⟨h1, h2⟩ := hnames hk (fun _ _ => -7) k y (by rw [← e3]; exact hy) a b ha hb
            exact ⟨h1, by rw [h2]; simpa using hn k y (by rw [← e3]; exact hy)⟩)
        have hre : r.2.2 = e := hre0
        rw [if_pos (by omega), hre, show (lvn : Int) + 1 - 1 = (lvn : Int) by omega] at hmiss
        exact hend _ _ _ (hsk.trans hmiss) (.inl rfl)
    | flat _ _ _ hk hn =>
      refine ⟨fun _ _ => -7, fun i n h => absurd rfl h, ?_⟩
      have hix : (skS keys L (fun _ _ => -7)).ix (lvn : Int).toNat = false := by
        show decide (gb (keys.getD (lvn : Int).toNat []) 0 = 91) = false
        rw [Int.toNat_natCast, hkey]
        simpa using hn
      rcases hf with hf | hf
      · right
        refine ⟨hf.1, lvn, true, sk_val hv hi (.inr hk) (.inl (fun h => by rw [hix] at h; exact absurd h.2 (by simp))) (.inr hf), .inr (.inl ⟨rfl, ?_⟩)⟩
        rw [Int.toNat_natCast] at hix
        exact hix
      · left
        by_cases h4 : p.f0 = 4
        · exact sk_strend hv hi h4 hf
        · rw [sk_val hv hi (.inr hk) (.inl (fun h => by rw [hix] at h; exact absurd h.2 (by simp))) (.inl h4), sk_out (by omega)]
    | far _ _ _ k hk hb hn =>
      obtain ⟨es, hes, hel, _⟩ := els_of hv hi hk
      have ha := (val_arr hv hk).1
      refine ⟨fun i' n' => if i' = i ∧ n' = lvn then -1 else -7, ?_, .inl ?_⟩
      · intro i' n' hne
        simp only at hne ⊢
        split at hne
        · rename_i hc
          obtain ⟨rfl, rfl⟩ := hc
          rw [if_pos ⟨rfl, rfl⟩]
          exact .far keys L _ _ k es (by rw [hkey]; exact hb) hes (by omega)
        · exact absurd rfl hne
      · rw [sk_ix ha.1 ha.2 (by show decide (gb (keys.getD (lvn : Int).toNat []) 0 = 91) = true; rw [Int.toNat_natCast, hkey]; simpa using hb.2.2.1)]
        show (if i = i ∧ (lvn : Int).toNat = lvn then (-1 : Int) else -7) = -1
        rw [if_pos ⟨rfl, Int.toNat_natCast _⟩]
    | inElt _ _ _ k kid hk hb hm hM2 =>
      obtain ⟨es, hes, hel, hek⟩ := els_of hv hi hk
      obtain ⟨b, e2, t, n2, f1, f2, f3, f4⟩ := hek k kid hm
      have ha := (val_arr hv hk).1
      obtain ⟨kid', hw, hsh⟩ := val_win f2 f3
      have hM3 := hM2.shift (o := i + b) (c0 := i + e2) n2 (i + b) (i + e2) kid' f2 f3 (Nat.le_refl _) (Nat.le_refl _) hsh
      have hbw : bl (cutI L (i + b) (i + e2)) (cutI L (i + b) (i + e2)).length = (cutI L (i + b) (i + e2)).length := bl_stop (fun h => by have := blank_in h; omega)
      obtain ⟨at_, h1, h2⟩ := ih (cutI L (i + b) (i + e2)) rest 0 n2 0 _ kid' rfl hw (Nat.zero_le _) (.inr hbw) hM3
      have hF : Fnd rest (cutI L (i + b) (i + e2)) (-1) := by
        refine .mk rest _ _ at_ (fun h => by subst h; cases hM2) h1 ?_ (by decide)
        rcases h2 with h2 | ⟨h2, _⟩
        · exact h2
        · omega
      refine ⟨fun i' n' => if i' = i ∧ n' = lvn then -1 else -7, ?_, .inl ?_⟩
      · intro i' n' hne
        simp only at hne ⊢
        split at hne
        · rename_i hc
          obtain ⟨rfl, rfl⟩ := hc
          rw [if_pos ⟨rfl, rfl⟩]
          exact .miss keys L _ _ k b e2 t (-1) es (by rw [hkey]; exact hb) hes f1 (by rw [hdr2]; exact hF) (by decide)
        · exact absurd rfl hne
      · rw [sk_ix ha.1 ha.2 (by show decide (gb (keys.getD (lvn : Int).toNat []) 0 = 91) = true; rw [Int.toNat_natCast, hkey]; simpa using hb.2.2.1)]
        show (if i = i ∧ (lvn : Int).toNat = lvn then (-1 : Int) else -7) = -1
        rw [if_pos ⟨rfl, Int.toNat_natCast _⟩]
    | inName _ _ _ m x kid hk hx hu hno hm hM2 =>
      have hne : p.f3 ≠ [] := fun h => by rw [h] at hx; simp at hx
      have hrne : rest ≠ [] := fun h => by subst h; cases hM2
      have hrl : rest.length ≠ 0 := fun h => hrne (List.eq_nil_of_length_eq_zero h)
      have hnlk : ¬ (lvn : Int) + 1 = (keys.length : Int) := by clear hnames hend; omega
      suffices hs : ∀ at_ : Nat → Nat → Int, ∃ b e2 n2, b ≤ L.length ∧ val L n2 (bl L b) = some (kid, e2) ∧ bl L e2 < L.length ∧ gb L (bl L e2) ≠ 58 ∧ sk (skS keys L at_) L i lvn lvn true = sk (skS keys L at_) L (bl L b) ((lvn + 1 : Nat) : Int) ((lvn + 1 : Nat) : Int) true ∧
          ∀ kl lm, (kl = ((lvn + 1 : Nat) : Int) - 1 ∨ (kl = ((lvn + 1 : Nat) : Int) ∧ (skS keys L at_).ix (lvn + 1) = false) ∨ ((lvn + 1 : Nat) : Int) < kl) → ∃ kl2 lm2, sk (skS keys L at_) L (bl L e2) ((lvn + 1 : Nat) : Int) kl lm = sk (skS keys L at_) L e lvn kl2 lm2 ∧ (kl2 = (lvn : Int) - 1 ∨ (lvn : Int) < kl2) by
        obtain ⟨b0, e0, n0, hb0, hv0, hl0, hc0, _, _⟩ := hs (fun _ _ => -7)
        obtain ⟨at_, h1, h2⟩ := ih L keys (lvn + 1) n0 (bl L b0) e0 kid hdr2 hv0 (bl_le L b0 hb0).2 (.inl ⟨hl0, hc0⟩) hM2
        refine ⟨at_, h1, ?_⟩
        obtain ⟨b, e2, n2, hb, hv2, hl2, hc2, hsk, hgo⟩ := hs at_
        have hbb : bl L b = bl L b0 := by
          have x1 := (val_pos hv2).1
          have x2 := (val_pos hv0).1
          omega
        have hee : e2 = e0 := by
          have x1 := (val_pos hv2).2
          have x2 := (val_pos hv0).2
          omega
        subst hee
        rw [hbb] at hsk
        rcases h2 with h2 | ⟨_, kl, lm, h2, h3⟩
        · exact .inl (by rw [hsk]; exact h2)
        · obtain ⟨kl2, lm2, g1, g2⟩ := hgo kl lm h3
          exact hend _ kl2 lm2 (by rw [hsk, h2, g1]) (g2.imp id .inr)
      intro at_
      obtain ⟨n', r, hr, e3, e4, hre0, hbl, hsk⟩ := sk_in (S := skS keys L at_) (lv := (lvn : Int)) hv hk hne
      have hre : r.2.2 = e := hre0
      obtain ⟨b, p2, e2, n2, g1, g2, g3, g4, g5, g6, g7⟩ := sk_hit (S := skS keys L at_) (L := L) (lv := (lvn : Int) + 1) (kl := (lvn : Int)) (by omega) (by omega) (by show (lvn : Int) + 1 ≤ (keys.length : Nat); omega) n' _ [] [] r true m x hbl rfl hr (Nat.zero_le _) (by rw [e3]; exact hx)
        (fun a b ha hb => by
          obtain ⟨h1, h2⟩ := hnames hk at_ m x hx a b ha hb
          exact ⟨h1, by rw [h2]; simpa using hu⟩)
        (fun k y _ hkm hy a b ha hb => by
          obtain ⟨h1, h2⟩ := hnames hk at_ k y (by rw [← e3]; exact hy) a b ha hb
          exact ⟨h1, by rw [h2]; simpa using hno k y (by omega) (by rw [← e3]; exact hy)⟩)
      rw [e4, hm] at g1
      injection g1 with g1
      subst g1
      refine ⟨b, e2, n2, g2, g3, g4, g5, ?_, ?_⟩
      · rw [hsk, g7, if_neg (show ¬ (lvn : Int) + 1 = ((skS keys L at_).lk : Int) from hnlk), sk_bl g2]
        push_cast
        rfl
      · intro kl lm hq
        have hq2 : (kl = (lvn : Int) + 1 - 1 ∨ (kl = (lvn : Int) + 1 ∧ (skS keys L at_).ix ((lvn : Int) + 1).toNat = false) ∨ (lvn : Int) + 1 < kl) := by
          rw [show ((lvn : Int) + 1).toNat = lvn + 1 by omega]
          push_cast at hq
          exact hq
        push_cast
        rcases g6 with ⟨h125, hr2⟩ | ⟨h44, n3, ns3, ks3, hm3, hl3, hl4⟩
        · refine ⟨if (lvn : Int) + 1 - 1 = kl then kl - 1 else kl, lm, ?_, ?_⟩
          · rw [sk_inr (r := (bl L e2 + 1, (lvn : Int) + 1 - 1, if (lvn : Int) + 1 - 1 = kl then kl - 1 else kl, lm)) g4 (by unfold skStep; rw [if_neg (by omega), if_neg (by omega), if_pos h125])]
            show sk _ L (bl L e2 + 1) ((lvn : Int) + 1 - 1) (if (lvn : Int) + 1 - 1 = kl then kl - 1 else kl) lm = _
            rw [← hre, hr2, show (lvn : Int) + 1 - 1 = (lvn : Int) by omega]
          · split
            · left; omega
            · right; rcases hq2 with h | h | h <;> omega
        · have hb4 := bl_le L (bl L e2 + 1) (by omega)
          have hmiss := sk_miss (S := skS keys L at_) (L := L) (lv := (lvn : Int) + 1) (kl := kl) hq2 (by omega) (by show (lvn : Int) + 1 ≤ (keys.length : Nat); omega) n3 _ ns3 ks3 r lm hb4.2 (by omega) hm3
            (fun k y hkl hy a b ha hb => by
              obtain ⟨h1, h2⟩ := hnames hk at_ k y (by rw [← e3]; exact hy) a b ha hb
              exact ⟨h1, by rw [h2]; simpa using hno k y (by omega) (by rw [← e3]; exact hy)⟩)
          refine ⟨if kl = (lvn : Int) + 1 - 1 then kl - 1 else kl, false, ?_, ?_⟩
          · rw [sk_other g4 (by unfold Po; omega), sk_bl (by omega), hmiss, hre, show (lvn : Int) + 1 - 1 = (lvn : Int) by omega]
          · split
            · left; omega
            · right; rcases hq2 with h | h | h <;> omega
/-- A whole text, from its first byte on. -/
theorem fnd_hit {L : List Int} {keys : List (List Int)} {p q : S35} (h : Doc L p) (hL : Ld L p keys q) :
    ∃ z : Nat, Fnd keys L z ∧ bl L z = q.f1.toNat ∧ z ≤ L.length ∧ ∃ n' e', val L n' (bl L z) = some (q, e') ∧ (e' = L.length ∨ isDl (gb L e')) := by
  obtain ⟨n0, e, hv, he⟩ := h
  have hb := bl_le L 0 (Nat.zero_le _)
  have hve := (v_lt _).1 _ _ _ hb.2 hv
  have hed : e = L.length ∨ isDl (gb L e) := by
    by_cases hel : e = L.length
    · exact .inl hel
    · right
      by_cases hb : isBlank (gb L e)
      · unfold isBlank at hb
        unfold isDl
        omega
      · rw [bl_stop hb] at he
        exact absurd he hel
  obtain ⟨n3, b3, e3, v1, v2, v3, v4, v5⟩ := hL.val _ _ _ hv hb.2 hed
  have hp := (val_pos v1).1
  by_cases hk : keys = []
  · subst hk
    cases hL
    have hp2 := (val_pos hv).1
    refine ⟨0, .nil L, by rw [hp2]; rfl, Nat.zero_le _, _, e, hv, hed⟩
  · obtain ⟨at_, z, h1, h2, h3, h4⟩ := fnd_at keys L keys 0 _ _ _ _ _ rfl hk hv hb.2 hed hL
    refine ⟨z, .mk keys L z at_ hk h4 ?_ (by omega), h2, h3, n3, e3, ?_, v5⟩
    · rw [sk_bl (Nat.zero_le _)]
      exact h1
    · rw [h2, hp]
      exact v1
theorem fnd_miss {L : List Int} {keys : List (List Int)} {p : S35} (h : Doc L p) (hL : Ms L p keys) : Fnd keys L (-1) := by
  obtain ⟨n0, e, hv, he⟩ := h
  have hb := bl_le L 0 (Nat.zero_le _)
  obtain ⟨at_, h1, h2⟩ := fnd_no keys L keys 0 _ _ _ _ rfl hv hb.2 (.inr he) hL
  refine .mk keys L _ at_ (fun h => by subst h; cases hL) h1 ?_ (by decide)
  rw [sk_bl (Nat.zero_le _)]
  rcases h2 with h2 | ⟨h2, _⟩
  · exact h2
  · omega

end Go.Proofs.YtgbliniamkpocaaDoor.Pure
