/- What the reference's guards say, in plain words. -/
import Derived.Test.YtgbliniamkpocaaDoorPureFd
import Derived.Test.YtgbliniamkpocaaDoorJpGuard
namespace Go.Proofs.YtgbliniamkpocaaDoor.Pure
open Go.RowKit Go.Proofs.YtgbliniamkpocaaDoor.PPl Go.Proofs.YtgbliniamkpocaaDoor.Jp Go.Proofs.YtgbliniamkpocaaDoorW.PrintWords
def brkL (key : List Int) : Option Int :=
  if 3 ≤ key.length ∧ gb key 0 = 91 ∧ gb key (key.length - 1) = 93 then ixR (cutI key 1 (key.length - 1)) else none
theorem brk_L (s : ByteArray) : brkR s = brkL (Kit.nums s) := by
  unfold brkR brkL
  rw [Kit.nums_len, Kit.nums_extract]
  unfold cutI
  rw [List.drop_take]
/-- What the reference's steps come to, in plain words. -/
def nmd (L key : List Int) : List S72 → Nat → Option Nat
  | [], _ => none
  | x :: r, k => if un (nmI L x) = some key then some k else nmd L key r (k + 1)
theorem nmd_none {L key : List Int} : ∀ (ns : List S72) (k : Nat), nmd L key ns k = none → ∀ (j : Nat) (y : S72), ns[j]? = some y → un (nmI L y) ≠ some key := by
  intro ns
  induction ns with
  | nil =>
    intro k _ j y hy
    simp at hy
  | cons x r ih =>
    intro k h j y hy
    unfold nmd at h
    split at h
    · cases h
    · rename_i hx
      cases j with
      | zero =>
        simp at hy
        subst hy
        exact hx
      | succ j => exact ih _ h j y (by simpa using hy)
theorem nmd_some {L key : List Int} : ∀ (ns : List S72) (k m : Nat), nmd L key ns k = some m → k ≤ m ∧ (∃ x, ns[m - k]? = some x ∧ un (nmI L x) = some key) ∧ ∀ (j : Nat) (y : S72), j < m - k → ns[j]? = some y → un (nmI L y) ≠ some key := by
  intro ns
  induction ns with
  | nil => intro k m h; cases h
  | cons x r ih =>
    intro k m h
    unfold nmd at h
    split at h
    · rename_i hx
      injection h with h
      subst h
      exact ⟨Nat.le_refl _, ⟨x, by simp, hx⟩, fun j y hj => by omega⟩
    · rename_i hx
      obtain ⟨h1, ⟨y, h2, h3⟩, h4⟩ := ih _ m h
      refine ⟨by omega, ⟨y, ?_, h3⟩, fun j z hj hz => ?_⟩
      · rw [show m - k = (m - (k + 1)) + 1 by omega]
        simpa using h2
      · cases j with
        | zero =>
          simp at hz
          subst hz
          exact hx
        | succ j => exact h4 j z (by omega) (by simpa using hz)
/-- How often a name is there. -/
def cnt (L key : List Int) (ns : List S72) : Nat := (ns.filter fun x => decide (un (nmI L x) = some key)).length
theorem cnt_one {L key : List Int} : ∀ (ns : List S72), cnt L key ns ≤ 1 → ∀ (j m : Nat) (x y : S72), ns[m]? = some x → un (nmI L x) = some key → j ≠ m → ns[j]? = some y → un (nmI L y) ≠ some key := by
  intro ns
  induction ns with
  | nil => intro _ j m x y hx; simp at hx
  | cons a r ih =>
    intro hc j m x y hx hux hjm hy huy
    have h0 : ∀ (ns : List S72) (k : Nat) (z : S72), ns[k]? = some z → un (nmI L z) = some key → 1 ≤ cnt L key ns := by
      intro ns k z hz hu
      have : z ∈ ns.filter fun x => decide (un (nmI L x) = some key) := List.mem_filter.2 ⟨List.mem_of_getElem? hz, by simpa using hu⟩
      exact List.length_pos_of_mem this
    cases m with
    | zero =>
      simp at hx
      subst hx
      cases j with
      | zero => exact hjm rfl
      | succ j =>
        have := h0 r j y (by simpa using hy) huy
        unfold cnt at hc this
        rw [List.filter_cons, if_pos (by simpa using hux), List.length_cons] at hc
        omega
    | succ m =>
      cases j with
      | zero =>
        simp at hy
        subst hy
        have := h0 r m x (by simpa using hx) hux
        unfold cnt at hc this
        rw [List.filter_cons, if_pos (by simpa using huy), List.length_cons] at hc
        omega
      | succ j =>
        refine ih ?_ j m x y (by simpa using hx) hux (by omega) (by simpa using hy) huy
        unfold cnt at hc ⊢
        rw [List.filter_cons] at hc
        split at hc
        · rw [List.length_cons] at hc
          omega
        · exact hc
/-- One step. -/
def stp (L : List Int) (p : S35) (key : List Int) : Option S35 :=
  if p.f0 = 6 then (match nmd L key p.f3 0 with | none => none | some k => p.f4[k]?)
  else if p.f0 = 5 then (match brkL key with | none => none | some k => if k < (p.f4.length : Int) then p.f4[k.toNat]? else none)
  else none
def On (L : List Int) : S35 → List (List Int) → Prop
  | _, [] => True
  | p, key :: r => (p.f0 = 6 → cnt L key p.f3 ≤ 1) ∧ (match stp L p key with | none => True | some q => On L q r)
def rch (L : List Int) : S35 → List (List Int) → Nat → S35 × Nat
  | p, [], n => (p, n)
  | p, key :: r, n => match stp L p key with | none => (p, n) | some q => rch L q r (n + 1)
theorem ixF_big : ∀ (l : List Int) (n m : Int), 288230376151711744 ≤ n → ixF l n = some m → 288230376151711744 ≤ m := by
  intro l
  induction l with
  | nil =>
    intro n m hn h
    unfold ixF at h
    injection h with h
    omega
  | cons c r ih =>
    intro n m hn h
    unfold ixF at h
    split at h
    · cases h
    · rw [if_neg (by omega)] at h
      exact ih _ m (by omega) h
theorem ixF_dec : ∀ (l : List Int) (n m : Int) (a : Nat), 0 ≤ n → (n = (a : Int) ∨ (288230376151711744 ≤ n ∧ 288230376151711744 ≤ a)) → ixF l n = some m → (∀ x ∈ l, 48 ≤ x ∧ x ≤ 57) ∧ (m = (l.foldl (fun a c => 10 * a + (c - 48).toNat) a : Nat) ∨ (288230376151711744 ≤ m ∧ 288230376151711744 ≤ l.foldl (fun a c => 10 * a + (c - 48).toNat) a)) := by
  intro l
  induction l with
  | nil =>
    intro n m a hn ha h
    unfold ixF at h
    injection h with h
    subst h
    exact ⟨fun x hx => (by cases hx), ha⟩
  | cons c r ih =>
    intro n m a hn ha h
    unfold ixF at h
    split at h
    · cases h
    · rename_i hc
      have hc' : 48 ≤ c ∧ c ≤ 57 := by omega
      obtain ⟨h1, h2⟩ := ih _ m (10 * a + (c - 48).toNat) (by split <;> omega) (by split <;> omega) h
      refine ⟨fun x hx => ?_, h2⟩
      rcases List.mem_cons.1 hx with rfl | hx
      · exact hc'
      · exact h1 x hx
theorem ixF_len : ∀ (l : List Int) (n m : Int) (a : Nat), (a : Int) ≤ n → m < 288230376151711744 → ixF l n = some m → a * 10 ^ l.length ≤ m.toNat := by
  intro l
  induction l with
  | nil =>
    intro n m a hn hm h
    unfold ixF at h
    injection h with h
    subst h
    simp
    omega
  | cons c r ih =>
    intro n m a hn hm h
    unfold ixF at h
    split at h
    · cases h
    · split at h
      · have := ih _ m (10 * a) (by omega) hm h
        rw [List.length_cons, Nat.pow_succ, Nat.mul_comm (10 ^ r.length) 10, ← Nat.mul_assoc, Nat.mul_comm a 10]
        exact this
      · have := ixF_big r _ m (by omega) h
        omega
theorem brk_of {key : List Int} {m : Int} (h : brkL key = some m) (hk : key.length ≤ 20 ∨ m < 288230376151711744) : ∃ k : Nat, Brk key k ∧ (m = (k : Int) ∨ (288230376151711744 ≤ m ∧ 288230376151711744 ≤ k)) := by
  unfold brkL at h
  split at h
  · rename_i hb
    obtain ⟨h3, h91, h93⟩ := hb
    unfold ixR at h
    split at h
    · cases h
    · rename_i hz
      obtain ⟨hd, hm⟩ := ixF_dec _ 0 m 0 (by omega) (.inl rfl) h
      have hcl : (cutI key 1 (key.length - 1)).length = key.length - 2 := by
        unfold cutI
        rw [List.length_drop, List.length_take]
        omega
      have h20 : key.length ≤ 20 := by
        rcases hk with hk | hk
        · exact hk
        · by_cases h4 : key.length ≤ 20
          · exact h4
          · exfalso
            cases hl : cutI key 1 (key.length - 1) with
            | nil =>
              rw [hl] at hcl
              simp at hcl
              omega
            | cons c r =>
              rw [hl] at hz h hd hcl
              have hc := hd c (by simp)
              have hc2 : c ≠ 48 := fun e => hz (.inr ⟨by rw [hcl]; omega, by rw [e]; rfl⟩)
              unfold ixF at h
              rw [if_neg (by omega), if_pos (by omega)] at h
              have := ixF_len r _ m 1 (by omega) hk h
              rw [List.length_cons] at hcl
              have h5 : 10 ^ 18 ≤ 10 ^ r.length := Nat.pow_le_pow_right (by omega) (by omega)
              omega
      exact ⟨_, ⟨h3, h20, h91, h93, hd, rfl⟩, hm⟩
  · cases h
theorem kids_le {L : List Int} : ∀ n : Nat, (∀ i ns ks r, i ≤ L.length → mems L n i ns ks = some r → r.2.1.length + i ≤ ks.length + r.2.2) ∧ (∀ i ks r, i ≤ L.length → elts L n i ks = some r → r.1.length + i ≤ ks.length + r.2) := by
  intro n
  induction n with
  | zero => refine ⟨fun _ _ _ _ _ h => ?_, fun _ _ _ _ h => ?_⟩ <;> simp [mems, elts] at h
  | succ n ih =>
    obtain ⟨i1, i2⟩ := ih
    refine ⟨fun i ns ks r hi h => ?_, fun i ks r hi h => ?_⟩
    · rw [mems] at h
      split at h
      · cases hs : st L (i + 1) with
        | none => rw [hs] at h; cases h
        | some j =>
          rw [hs] at h
          simp only at h
          have hj := st_le L _ _ _ (Nat.le_refl _) hs
          have hbj := bl_le L j hj.2
          split at h
          · rename_i hc
            have hcl := hc.1
            have hb2 := bl_le L (bl L j + 1) (by omega)
            cases hv : val L n (bl L (bl L j + 1)) with
            | none => rw [hv] at h; cases h
            | some pe =>
              obtain ⟨p, e⟩ := pe
              have hve := (v_lt n).1 _ _ _ hb2.2 hv
              have hbe := bl_le L e hve.2
              rw [hv] at h
              simp only at h
              split at h
              · injection h with h
                subst h
                simp
                omega
              split at h
              · rename_i hc2
                have hb3 := bl_le L (bl L e + 1) (by have := hc2.1; omega)
                have := i1 _ _ _ _ hb3.2 h
                simp at this
                omega
              · cases h
          · cases h
      · cases h
    · rw [elts] at h
      cases hv : val L n i with
      | none => rw [hv] at h; cases h
      | some pe =>
        obtain ⟨p, e⟩ := pe
        have hve := (v_lt n).1 _ _ _ hi hv
        have hbe := bl_le L e hve.2
        rw [hv] at h
        simp only at h
        split at h
        · injection h with h
          subst h
          simp
          omega
        split at h
        · rename_i hc2
          have hb3 := bl_le L (bl L e + 1) (by have := hc2.1; omega)
          have := i2 _ _ _ hb3.2 h
          simp at this
          omega
        · cases h
theorem val_kids {L : List Int} {n i e : Nat} {p : S35} (h : val L n i = some (p, e)) (hi : i ≤ L.length) (hk : p.f0 = 5) : p.f4.length ≤ L.length := by
  have he := (v_lt n).1 _ _ _ hi h
  obtain ⟨ha, h1⟩ := val_arr h hk
  have hal := ha.1
  have hb := bl_le L (i + 1) (by omega)
  rcases h1 with ⟨h4, _⟩ | ⟨_, n2, r, hr, e4, ee⟩
  · rw [h4]
    simp
  · have := (kids_le n2).2 _ _ _ hb.2 hr
    rw [e4] at this
    simp at this
    omega
/-- A key that leads nowhere from a place, and why. -/
theorem ms_here {L key : List Int} {keys : List (List Int)} {p : S35} (hk5 : p.f0 = 5 → p.f4.length ≤ L.length) (hL : L.length < 288230376151711744) (h : stp L p key = none) (hlen : p.f0 = 6 → p.f3.length = p.f4.length)
    (hi : gb key 0 ≠ 91 ∨ (p.f0 = 5 ∧ brkL key ≠ none ∧ key.length ≤ 20)) : Ms L p (key :: keys) := by
  unfold stp at h
  split at h
  · rename_i h6
    cases hn : nmd L key p.f3 0 with
    | none => exact .name p key keys h6 (fun k y hy => nmd_none _ _ hn k y hy)
    | some m =>
      rw [hn] at h
      simp only at h
      obtain ⟨_, ⟨x, hx, _⟩, _⟩ := nmd_some _ _ _ hn
      rw [Nat.sub_zero] at hx
      have := (List.getElem?_eq_some_iff.1 hx).1
      have := List.getElem?_eq_none_iff.1 h
      have := hlen h6
      omega
  · rename_i h6
    rcases hi with hi | ⟨h5, hb, h20⟩
    · exact .flat p key keys h6 hi
    · rw [if_pos h5] at h
      cases hm : brkL key with
      | none => exact absurd hm hb
      | some m =>
        rw [hm] at h
        simp only at h
        obtain ⟨k, hB, hmk⟩ := brk_of hm (.inl h20)
        refine .far p key keys k h5 hB ?_
        have := hk5 h5
        rcases hmk with rfl | ⟨h1, h2⟩
        · split at h
          · rename_i hlt
            have := List.getElem?_eq_none_iff.1 h
            omega
          · omega
        · omega
/-- A key that leads somewhere. -/
theorem stp_some {L key : List Int} {p q : S35} (hk5 : p.f0 = 5 → p.f4.length ≤ L.length) (hL : L.length < 288230376151711744) (h : stp L p key = some q) :
    (p.f0 = 6 ∧ ∃ m x, p.f3[m]? = some x ∧ un (nmI L x) = some key ∧ (∀ (k : Nat) (y : S72), k < m → p.f3[k]? = some y → un (nmI L y) ≠ some key) ∧ p.f4[m]? = some q) ∨ (p.f0 = 5 ∧ ∃ k, Brk key k ∧ p.f4[k]? = some q) := by
  unfold stp at h
  split at h
  · rename_i h6
    cases hn : nmd L key p.f3 0 with
    | none => rw [hn] at h; cases h
    | some m =>
      rw [hn] at h
      simp only at h
      obtain ⟨_, ⟨x, hx, hu⟩, hf⟩ := nmd_some _ _ _ hn
      rw [Nat.sub_zero] at hx hf
      exact .inl ⟨h6, m, x, hx, hu, hf, h⟩
  · split at h
    · rename_i h6 h5
      cases hm : brkL key with
      | none => rw [hm] at h; cases h
      | some m =>
        rw [hm] at h
        simp only at h
        split at h
        · rename_i hlt
          have := hk5 h5
          obtain ⟨k, hB, hmk⟩ := brk_of hm (.inr (by omega))
          rcases hmk with rfl | ⟨h1, h2⟩
          · exact .inr ⟨h5, k, hB, by simpa using h⟩
          · omega
        · cases h
    · cases h
/-- A place of a JSON text. -/
def Gd (L : List Int) (p : S35) : Prop := ∃ n i e, val L n i = some (p, e) ∧ i ≤ L.length
theorem Gd.kids {L : List Int} {p : S35} (h : Gd L p) : p.f0 = 5 → p.f4.length ≤ L.length := by
  obtain ⟨n, i, e, hv, hi⟩ := h
  exact val_kids hv hi
theorem Gd.step {L key : List Int} {p q : S35} (h : Gd L p) (hL : L.length < 288230376151711744) (hs : stp L p key = some q) : Gd L q := by
  obtain ⟨n, i, e, hv, hi⟩ := h
  rcases stp_some (val_kids hv hi) hL hs with ⟨h6, m, x, _, _, _, hm⟩ | ⟨h5, k, _, hm⟩
  · obtain ⟨n', b, e', f1, f2, f3, f4, f5⟩ := obj_kid hv hi h6 hm
    exact ⟨n', b, e', f1, f3⟩
  · obtain ⟨n', b, e', f1, f2, f3, f4, f5⟩ := arr_kid hv hi h5 hm
    exact ⟨n', b, e', f1, f3⟩
theorem Ld.cons {L key : List Int} {keys : List (List Int)} {p q r : S35} (h : Gd L p) (hL : L.length < 288230376151711744) (hs : stp L p key = some q) (hq : Ld L q keys r) : Ld L p (key :: keys) r := by
  rcases stp_some h.kids hL hs with ⟨h6, m, x, h1, h2, h3, hm⟩ | ⟨h5, k, hb, hm⟩
  · exact .name p key keys m x q r h6 h1 h2 h3 hm hq
  · exact .elt p key keys k q r h5 hb hm hq
theorem Ld.snoc {L : List Int} {keys : List (List Int)} {p q : S35} (h : Ld L p keys q) : ∀ {key : List Int} {r : S35}, Ld L q [key] r → Ld L p (keys ++ [key]) r := by
  induction h with
  | nil p => exact fun h => h
  | name p key keys m x kid q h1 h2 h3 h4 h5 _ ih => exact fun h => .name p key _ m x kid _ h1 h2 h3 h4 h5 (ih h)
  | elt p key keys k kid q h1 h2 h3 _ ih => exact fun h => .elt p key _ k kid _ h1 h2 h3 (ih h)
theorem Gd.names {L : List Int} {p : S35} (h : Gd L p) (h6 : p.f0 = 6) : p.f3.length = p.f4.length := by
  obtain ⟨n, i, e, hv, hi⟩ := h
  obtain ⟨ha, h1⟩ := val_obj hv h6
  have hal := ha.1
  have hb := bl_le L (i + 1) (by omega)
  rcases h1 with ⟨h3, h4, _⟩ | ⟨n2, r, hr, e3, e4, ee⟩
  · rw [h3, h4]
    rfl
  · rw [← e3, ← e4]
    exact (mems_kid _ _ _ _ _ hb.2 rfl hr).1
theorem rch_ge {L : List Int} : ∀ (keys : List (List Int)) (p : S35) (c : Nat), c ≤ (rch L p keys c).2 := by
  intro keys
  induction keys with
  | nil => intro p c; exact Nat.le_refl _
  | cons key r ih =>
    intro p c
    unfold rch
    cases stp L p key with
    | none => exact Nat.le_refl _
    | some q => exact Nat.le_trans (Nat.le_succ c) (ih q (c + 1))
theorem ms_of {L : List Int} (hL : L.length < 288230376151711744) : ∀ (keys : List (List Int)) (p last : S35) (c n : Nat), Gd L p → On L p keys → rch L p keys c = (last, c + n) → n < keys.length →
    (gb (keys.getD n []) 0 ≠ 91 ∨ (last.f0 = 5 ∧ brkL (keys.getD n []) ≠ none ∧ (keys.getD n []).length ≤ 20)) → Ms L p keys := by
  intro keys
  induction keys with
  | nil => intro p last c n _ _ _ hn; simp at hn
  | cons key r ih =>
    intro p last c n hg ho hr hn hi
    unfold rch at hr
    unfold On at ho
    cases hs : stp L p key with
    | none =>
      rw [hs] at hr
      simp only [Prod.mk.injEq] at hr
      obtain ⟨rfl, hr⟩ := hr
      obtain rfl : n = 0 := by omega
      exact ms_here hg.kids hL hs hg.names hi
    | some q =>
      rw [hs] at hr ho
      simp only at hr ho
      have hge := rch_ge (L := L) r q (c + 1)
      rw [hr] at hge
      obtain ⟨m, rfl⟩ : ∃ m, n = m + 1 := ⟨n - 1, by simp at hge; omega⟩
      have hM : Ms L q r := ih q last (c + 1) m (hg.step hL hs) ho.2 (by rw [hr]; congr 1; omega) (by simp at hn; omega) (by simpa using hi)
      rcases stp_some hg.kids hL hs with ⟨h6, m, x, h1, h2, h3, hm⟩ | ⟨h5, k, hb, hm⟩
      · exact .inName p key r m x q h6 h1 h2 (fun j y hj hy => cnt_one _ (ho.1 h6) j m x y h1 h2 hj hy) hm hM
      · exact .inElt p key r k q h5 hb hm hM

end Go.Proofs.YtgbliniamkpocaaDoor.Pure
