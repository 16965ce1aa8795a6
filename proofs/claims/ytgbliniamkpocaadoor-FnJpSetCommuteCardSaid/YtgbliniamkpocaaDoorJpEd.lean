/- What becomes of the places of a JSON text where the text of one value is replaced by another JSON text. -/
import Derived.Test.YtgbliniamkpocaaDoorPureEm
namespace Go.Proofs.YtgbliniamkpocaaDoor.Pure
open Go.RowKit Go.Proofs.YtgbliniamkpocaaDoor.PPl Go.Proofs.YtgbliniamkpocaaDoor.Jp

/-- Two lists, element by element. -/
inductive A2 {α β : Type} (R : α → β → Prop) : List α → List β → Prop
  | nil : A2 R [] []
  | cons {a : α} {b : β} {xs : List α} {ys : List β} : R a b → A2 R xs ys → A2 R (a :: xs) (b :: ys)
section
variable {α β : Type} {R : α → β → Prop}
theorem A2.get {xs : List α} {ys : List β} (h : A2 R xs ys) : ∀ (k : Nat) (a : α), xs[k]? = some a → ∃ b, ys[k]? = some b ∧ R a b := by
  induction h with
  | nil => intro k a h; simp at h
  | cons h1 _ ih =>
    intro k a h
    cases k with
    | zero =>
      simp only [List.getElem?_cons_zero, Option.some.injEq] at h
      subst h
      exact ⟨_, by simp, h1⟩
    | succ k =>
      simp only [List.getElem?_cons_succ] at h ⊢
      exact ih k a h
theorem A2.back {xs : List α} {ys : List β} (h : A2 R xs ys) : ∀ (k : Nat) (b : β), ys[k]? = some b → ∃ a, xs[k]? = some a ∧ R a b := by
  induction h with
  | nil => intro k a h; simp at h
  | cons h1 _ ih =>
    intro k a h
    cases k with
    | zero =>
      simp only [List.getElem?_cons_zero, Option.some.injEq] at h
      subst h
      exact ⟨_, by simp, h1⟩
    | succ k =>
      simp only [List.getElem?_cons_succ] at h ⊢
      exact ih k a h
theorem A2.length {xs : List α} {ys : List β} (h : A2 R xs ys) : ys.length = xs.length := by
  induction h with
  | nil => rfl
  | cons _ _ ih => simp [ih]
end
theorem ShL.back {o : Nat} : ∀ {a a' : List S35} (k : Nat) (p' : S35), ShL o a a' → a'[k]? = some p' → ∃ p, a[k]? = some p ∧ Sh o p p'
  | [], _, k, p, .nil, h => by simp at h
  | _ :: _, _, 0, p, .cons h1 h2, h => by
    simp only [List.getElem?_cons_zero, Option.some.injEq] at h
    subst h
    exact ⟨_, by simp, h1⟩
  | _ :: _, _, k + 1, p, .cons h1 h2, h => by
    simp only [List.getElem?_cons_succ] at h ⊢
    exact ShL.back k p h2 h
theorem eq_of_gb {A B : List Int} (h : A.length = B.length) (h2 : ∀ k, k < A.length → gb A k = gb B k) : A = B := by
  apply List.ext_getElem h
  intro k h1 h3
  have := h2 k h1
  unfold gb at this
  simpa [List.getD, h1, h3] using this
/-! ### A window that two texts share -/
structure Win (L M : List Int) (o o' len : Nat) : Prop where
  g : ∀ k, k < len → gb L (o + k) = gb M (o' + k)
  l : o + len ≤ L.length
  m : o' + len ≤ M.length
theorem Win.sub {L M : List Int} {o o' len a n : Nat} (h : Win L M o o' len) (hl : a + n ≤ len) : Win L M (o + a) (o' + a) n :=
  ⟨fun k hk => by have := h.g (a + k) (by omega); rwa [← Nat.add_assoc, ← Nat.add_assoc] at this, by have := h.l; omega, by have := h.m; omega⟩
theorem Win.cut {L M : List Int} {o o' len : Nat} (h : Win L M o o' len) : cutI L o (o + len) = cutI M o' (o' + len) := by
  have h1 := cutI_len (L := L) (a := o) (b := o + len) h.l
  have h2 := cutI_len (L := M) (a := o') (b := o' + len) h.m
  refine eq_of_gb (by omega) (fun k hk => ?_)
  rw [cutI_gb (by omega), cutI_gb (by omega)]
  exact h.g k (by omega)
section
variable {L M : List Int} {o o' len : Nat}
theorem Win.ax (h : Win L M o o' len) {i : Nat} {c : Int} (hi : i < len) (ha : at_ L (o + i) c) : at_ M (o' + i) c :=
  ⟨by have := h.m; omega, by rw [← h.g i hi]; exact ha.2⟩
theorem Win.w1 (h : Win L M o o' len) : ∀ k, k < (cutI L o (o + len)).length → gb L (k + o) = gb (cutI L o (o + len)) k := fun k hk => by
  have h1 := cutI_len (L := L) (a := o) (b := o + len) h.l
  rw [cutI_gb (by omega), Nat.add_comm]
theorem Win.w2 (h : Win L M o o' len) : ∀ k, k < (cutI L o (o + len)).length → gb M (k + o') = gb (cutI L o (o + len)) k := fun k hk => by
  have h1 := cutI_len (L := L) (a := o) (b := o + len) h.l
  rw [cutI_gb (by omega), Nat.add_comm, h.g k (by omega)]
theorem Win.wl (h : Win L M o o' len) : (cutI L o (o + len)).length = len := by
  have h1 := cutI_len (L := L) (a := o) (b := o + len) h.l
  omega
theorem Win.st (h : Win L M o o' len) {i j : Nat} (hs : st L (o + i) = some (o + j)) (hj : j ≤ len) : st M (o' + i) = some (o' + j) := by
  have hl := h.wl
  have h1 := c_st (L := L) (M := cutI L o (o + len)) (o := o) h.w1 (by have := h.l; omega) _ i j (Nat.le_refl _) (by rw [Nat.add_comm, hs, Nat.add_comm]) (by omega)
  have h2 := e_st (L := cutI L o (o + len)) (M := M) (o := o') h.w2 (by have := h.m; omega) _ i j (Nat.le_refl _) h1
  rw [Nat.add_comm, h2, Nat.add_comm]
theorem Win.bl (h : Win L M o o' len) {i r : Nat} (hi : i ≤ len) (hb : bl L (o + i) = o + r) (hr : r < len) : bl M (o' + i) = o' + r := by
  have hl := h.wl
  have h1 := c_bl (L := L) (M := cutI L o (o + len)) (o := o) h.w1 (by have := h.l; omega) _ i (Nat.le_refl _) (by omega) (by rw [Nat.add_comm i o]; omega)
  rw [Nat.add_comm i o, hb] at h1
  have h2 := e_bl (L := cutI L o (o + len)) (M := M) (o := o') h.w2 _ i (Nat.le_refl _) (by omega)
  rw [Nat.add_comm, h2]
  omega
end
theorem bl_run {L : List Int} : ∀ (d i e : Nat), e - i = d → i ≤ e → (∀ k, i ≤ k → k < e → isBlank (gb L k)) → bl L i = bl L e := by
  intro d
  induction d with
  | zero =>
    intro i e hd hi _
    rw [show i = e by omega]
  | succ d ih =>
    intro i e hd hi h
    rw [bl_go (h i (Nat.le_refl _) (by omega))]
    exact ih (i + 1) e (by omega) (by omega) (fun k h1 h2 => h k (by omega) h2)
theorem bl_out {L : List Int} : bl L L.length = L.length := bl_stop (by rw [gb_out (Nat.le_refl _)]; decide)
/-- Keys lead in a longer text as in its window. -/
theorem Ld.unshift {M : List Int} {o c0 : Nat} {pw qw : S35} {keys : List (List Int)} (hL : Ld (cutI M o c0) pw keys qw) : ∀ (n i e : Nat) (p' : S35), Pure.val M n i = some (p', e) → i ≤ M.length → o ≤ i → e ≤ c0 → Sh o p' pw → ∃ q', Ld M p' keys q' ∧ Sh o q' qw := by
  induction hL with
  | nil p => exact fun n i e p' h hi ho hc hs => ⟨p', .nil p', hs⟩
  | name p key keys m x kid q hk hx hu hf hm _ ih =>
    intro n i e p' h hi ho hc hs
    cases hs with
    | mk k0 a0 b0 ns ks ks' hkk =>
      obtain ⟨kid0, g1, g2⟩ := hkk.back m kid hm
      obtain ⟨n', b, e', f1, f2, f3, f4, f5⟩ := obj_kid h hi hk g1
      obtain ⟨q', hq, hsq⟩ := ih n' b e' kid0 f1 f3 (by omega) (by omega) g2
      simp only [List.getElem?_map, Option.map_eq_some_iff] at hx
      obtain ⟨x0, hx0, rfl⟩ := hx
      refine ⟨q', .name _ key keys m x0 kid0 q' hk hx0 ?_ ?_ g1 hq, hsq⟩
      · rw [nm_at h hi hk ho hc hx0] at hu
        exact hu
      · intro k y hkm hy
        have := hf k ⟨y.f0 - (o : Int), y.f1 - (o : Int)⟩ hkm (by simp only [List.getElem?_map]; rw [show ns[k]? = some y from hy]; rfl)
        rw [nm_at h hi hk ho hc hy] at this
        exact this
  | elt p key keys k kid q hk hb hm _ ih =>
    intro n i e p' h hi ho hc hs
    cases hs with
    | mk k0 a0 b0 ns ks ks' hkk =>
      obtain ⟨kid0, g1, g2⟩ := hkk.back k kid hm
      obtain ⟨n', b, e', f1, f2, f3, f4, f5⟩ := arr_kid h hi hk g1
      obtain ⟨q', hq, hsq⟩ := ih n' b e' kid0 f1 f3 (by omega) (by omega) g2
      exact ⟨q', .elt _ key keys k kid0 q' hk hb g1 hq, hsq⟩
theorem Sh.pos {o : Nat} {p p' : S35} (h : Sh o p p') : p'.f0 = p.f0 ∧ p'.f1 = p.f1 - (o : Int) ∧ p'.f2 = p.f2 - (o : Int) := by
  cases h
  exact ⟨rfl, rfl, rfl⟩
/-! ### Values of one text -/
/-- The value p of L from b to e and the value p' of M from b' have the same text. -/
structure Tw (L M : List Int) (b e b' : Nat) (p p' : S35) : Prop where
  v : ∃ n, val L n b = some (p, e)
  v' : ∃ n, val M n b' = some (p', b' + (e - b))
  le : b ≤ e
  w : Win L M b b' (e - b)
theorem dl_num {c : Int} (h : isDl c) : ¬ NumC c := by unfold isDl at h; unfold NumC isDig; omega
theorem val_same {L M : List Int} {n b e b' : Nat} {p : S35} (hv : val L n b = some (p, e)) (hb : b ≤ L.length) (hw : Win L M b b' (e - b)) (hd : isDl (gb M (b' + (e - b)))) : ∃ p', Tw L M b e b' p p' := by
  have hbe := (v_lt n).1 _ _ _ hb hv
  obtain ⟨pw, hpw, _⟩ := val_win hv hb
  have hl := hw.wl
  have hw1 := hw.w2
  have hm := hw.m
  rw [show b + (e - b) = e by omega] at hl hw1
  obtain ⟨p', hp'⟩ := (e_all (L := cutI L b e) (M := M) (o := b') hw1 (by omega) n).1 0 pw _ hpw (.inr (.inl (by rw [hl, Nat.add_comm]; exact dl_num hd))) (Nat.zero_le _)
  refine ⟨p', ⟨n, hv⟩, ⟨n, ?_⟩, by omega, hw⟩
  rw [Nat.zero_add, hl] at hp'
  rw [hp', Nat.add_comm]
theorem Tw.ld {L M : List Int} {b e b' : Nat} {p p' q : S35} {keys : List (List Int)} (h : Tw L M b e b' p p') (hL : Ld L p keys q) :
    ∃ q', Ld M p' keys q' ∧ q'.f1 = q.f1 - (b : Int) + (b' : Int) ∧ q'.f2 = q.f2 - (b : Int) + (b' : Int) ∧ q'.f0 = q.f0 := by
  obtain ⟨n, hv⟩ := h.v
  obtain ⟨n', hv'⟩ := h.v'
  have hl := h.w.l
  have hm := h.w.m
  have hle := h.le
  have hc := h.w.cut
  rw [show b + (e - b) = e by omega] at hc hl
  obtain ⟨pw, hpw, hs⟩ := val_win hv (by omega)
  obtain ⟨pw', hpw', hs'⟩ := val_win hv' (by omega)
  rw [← hc] at hpw'
  obtain rfl : pw = pw' := by
    have h1 := val_up hpw (Nat.le_max_left n n')
    have h2 := val_up hpw' (Nat.le_max_right n n')
    rw [h1] at h2
    injection h2 with h2
    exact congrArg Prod.fst h2
  obtain ⟨qw, hq, hsq⟩ := hL.shift n b e pw hv (by omega) (Nat.le_refl _) (Nat.le_refl _) hs
  rw [hc] at hq
  obtain ⟨q', hq', hsq'⟩ := hq.unshift n' b' _ p' hv' (by omega) (Nat.le_refl _) (Nat.le_refl _) hs'
  have a1 := hsq.pos
  have a2 := hsq'.pos
  exact ⟨q', hq', by omega, by omega, by rw [← a2.1, a1.1]⟩
/-! ### Members and elements, one behind the other -/
inductive Mb (L : List Int) : Nat → List S72 → List S35 → Nat → Prop
  | last (i j n e : Nat) (p : S35) : at_ L i 34 → st L (i + 1) = some j → at_ L (bl L j) 58 → val L n (bl L (bl L j + 1)) = some (p, e) → at_ L (bl L e) 125 → Mb L i [⟨(i : Int), (j : Int)⟩] [p] (bl L e + 1)
  | more (i j n e z : Nat) (p : S35) (ns : List S72) (ks : List S35) : at_ L i 34 → st L (i + 1) = some j → at_ L (bl L j) 58 → val L n (bl L (bl L j + 1)) = some (p, e) → at_ L (bl L e) 44 → Mb L (bl L (bl L e + 1)) ns ks z → Mb L i (⟨(i : Int), (j : Int)⟩ :: ns) (p :: ks) z
inductive Eb (L : List Int) : Nat → List S35 → Nat → Prop
  | last (i n e : Nat) (p : S35) : val L n i = some (p, e) → at_ L (bl L e) 93 → Eb L i [p] (bl L e + 1)
  | more (i n e z : Nat) (p : S35) (ks : List S35) : val L n i = some (p, e) → at_ L (bl L e) 44 → Eb L (bl L (bl L e + 1)) ks z → Eb L i (p :: ks) z
theorem at_ne {L : List Int} {i : Nat} {c d : Int} (h : at_ L i c) (hcd : c ≠ d) : ¬ at_ L i d := fun h2 => hcd (h.2.symm.trans h2.2)
theorem mb_of {L : List Int} : ∀ (n i : Nat) (ns : List S72) (ks : List S35) (r : List S72 × List S35 × Nat), mems L n i ns ks = some r → ∃ ns' ks', r.1 = ns ++ ns' ∧ r.2.1 = ks ++ ks' ∧ Mb L i ns' ks' r.2.2 := by
  intro n
  induction n with
  | zero => intro i ns ks r h; simp [mems] at h
  | succ n ih =>
    intro i ns ks r h
    rw [mems] at h
    split at h
    case isFalse => cases h
    case isTrue h34 =>
    split at h
    · cases h
    rename_i j hj
    split at h
    case isFalse => cases h
    case isTrue h58 =>
    split at h
    · cases h
    rename_i p e hv
    split at h
    · rename_i h125
      injection h with h
      subst h
      exact ⟨_, _, rfl, rfl, .last i j n e p h34 hj h58 hv h125⟩
    split at h
    · rename_i h44
      obtain ⟨ns', ks', e1, e2, hM⟩ := ih _ _ _ _ h
      exact ⟨_, _, by rw [e1, List.append_assoc]; rfl, by rw [e2, List.append_assoc]; rfl, .more i j n e _ p ns' ks' h34 hj h58 hv h44 hM⟩
    · cases h
theorem Mb.mems {L : List Int} {i z : Nat} {ns' : List S72} {ks' : List S35} (h : Mb L i ns' ks' z) : ∀ (ns : List S72) (ks : List S35), ∃ n, mems L n i ns ks = some (ns ++ ns', ks ++ ks', z) := by
  induction h with
  | last i j n e p h34 hj h58 hv h125 =>
    intro ns ks
    refine ⟨n + 1, ?_⟩
    rw [Pure.mems, if_pos h34, hj]
    simp only
    rw [if_pos h58, hv]
    simp only
    rw [if_pos h125]
  | more i j n e z p ns1 ks1 h34 hj h58 hv h44 _ ih =>
    intro ns ks
    obtain ⟨m, hm⟩ := ih (ns ++ [⟨(i : Int), (j : Int)⟩]) (ks ++ [p])
    refine ⟨max n m + 1, ?_⟩
    rw [Pure.mems, if_pos h34, hj]
    simp only
    rw [if_pos h58, val_up hv (Nat.le_max_left n m)]
    simp only
    rw [if_neg (at_ne h44 (by decide)), if_pos h44, mems_up hm (Nat.le_max_right n m)]
    simp
theorem eb_of {L : List Int} : ∀ (n i : Nat) (ks : List S35) (r : List S35 × Nat), elts L n i ks = some r → ∃ ks', r.1 = ks ++ ks' ∧ Eb L i ks' r.2 := by
  intro n
  induction n with
  | zero => intro i ks r h; simp [elts] at h
  | succ n ih =>
    intro i ks r h
    rw [elts] at h
    split at h
    · cases h
    rename_i p e hv
    split at h
    · rename_i h93
      injection h with h
      subst h
      exact ⟨_, rfl, .last i n e p hv h93⟩
    split at h
    · rename_i h44
      obtain ⟨ks', e2, hM⟩ := ih _ _ _ h
      exact ⟨_, by rw [e2, List.append_assoc]; rfl, .more i n e _ p ks' hv h44 hM⟩
    · cases h
theorem Eb.elts {L : List Int} {i z : Nat} {ks' : List S35} (h : Eb L i ks' z) : ∀ (ks : List S35), ∃ n, elts L n i ks = some (ks ++ ks', z) := by
  induction h with
  | last i n e p hv h93 =>
    intro ks
    refine ⟨n + 1, ?_⟩
    rw [Pure.elts, hv]
    simp only
    rw [if_pos h93]
  | more i n e z p ks1 hv h44 _ ih =>
    intro ks
    obtain ⟨m, hm⟩ := ih (ks ++ [p])
    refine ⟨max n m + 1, ?_⟩
    rw [Pure.elts, val_up hv (Nat.le_max_left n m)]
    simp only
    rw [if_neg (at_ne h44 (by decide)), if_pos h44, elts_up hm (Nat.le_max_right n m)]
    simp
theorem Mb.val {L : List Int} {i z : Nat} {ns : List S72} {ks : List S35} (h : Mb L (bl L (i + 1)) ns ks z) (ha : at_ L i 123) : ∃ n, val L n i = some (⟨6, (i : Int), (z : Int), ns, ks⟩, z) := by
  obtain ⟨n, hn⟩ := h.mems [] []
  have h34 : at_ L (bl L (i + 1)) 34 := by cases h <;> assumption
  refine ⟨n + 2, ?_⟩
  rw [Pure.val, if_pos ha, mem0, if_neg (at_ne h34 (by decide)), hn]
  simp
theorem val_no93 {L : List Int} {n i : Nat} {r : S35 × Nat} (hi : i ≤ L.length) (h : val L n i = some r) : ¬ at_ L i 93 := by
  intro ha
  cases n with
  | zero => simp [val] at h
  | succ n =>
    have hw : ∀ (c : Int) (w : List Int), c ≠ 93 → ¬ wordE L i (c :: w) := fun c w hc hw => by
      have hle := wordE_le hw hi
      simp only [List.length_cons] at hle
      have := congrArg (fun l => l.getD 0 0) hw
      simp [List.getD, List.getElem?_drop] at this
      have h2 := ha.2
      unfold gb at h2
      rw [List.getD] at h2
      rw [this] at h2
      exact hc h2
    have h93 := ha.2
    rw [val, if_neg (at_ne ha (by decide)), if_neg (at_ne ha (by decide)), if_neg (at_ne ha (by decide)), if_neg (fun h => h.elim (at_ne ha (by decide)) (fun h => by unfold isDig at h; omega)), if_neg (hw _ _ (by decide)), if_neg (hw _ _ (by decide)), if_neg (hw _ _ (by decide))] at h
    cases h
theorem Eb.val {L : List Int} {i z : Nat} {ks : List S35} (h : Eb L (bl L (i + 1)) ks z) (ha : at_ L i 91) : ∃ n, val L n i = some (⟨5, (i : Int), (z : Int), [], ks⟩, z) := by
  obtain ⟨n, hn⟩ := h.elts []
  have hl : bl L (i + 1) ≤ L.length := (bl_le L (i + 1) (by have := ha.1; omega)).2
  have h93 : ¬ at_ L (bl L (i + 1)) 93 := by cases h <;> exact val_no93 hl (by assumption)
  refine ⟨n + 2, ?_⟩
  rw [Pure.val, if_neg (at_ne ha (by decide)), if_pos ha, elt0, if_neg h93, hn]
  simp
/-- Where a member's value lies. -/
theorem Mb.kid {L : List Int} {i z : Nat} {ns : List S72} {ks : List S35} (h : Mb L i ns ks z) : i ≤ L.length → i < z ∧ z ≤ L.length ∧ ∀ (m : Nat) (kid : S35), ks[m]? = some kid → ∃ (b e : Nat), kid.f1 = (b : Int) ∧ kid.f2 = (e : Int) ∧ i < b ∧ b < e ∧ e < z := by
  induction h with
  | last i j n e p h34 hj h58 hv h125 =>
    intro hi
    have hjl := st_le L _ _ _ (Nat.le_refl _) hj
    have hb1 := bl_le L j hjl.2
    have hb2 := bl_le L (bl L j + 1) (by have := h58.1; omega)
    have hve := (v_lt n).1 _ _ _ hb2.2 hv
    have hb3 := bl_le L e hve.2
    have h125l := h125.1
    refine ⟨by omega, by omega, fun m kid hm => ?_⟩
    obtain rfl : p = kid := by
      cases m with
      | zero => simpa using hm
      | succ m => simp at hm
    exact ⟨_, _, (val_pos hv).1, (val_pos hv).2, by omega, by omega, by omega⟩
  | more i j n e z p ns1 ks1 h34 hj h58 hv h44 _ ih =>
    intro hi
    have hjl := st_le L _ _ _ (Nat.le_refl _) hj
    have hb1 := bl_le L j hjl.2
    have hb2 := bl_le L (bl L j + 1) (by have := h58.1; omega)
    have hve := (v_lt n).1 _ _ _ hb2.2 hv
    have hb3 := bl_le L e hve.2
    have h44l := h44.1
    have hb4 := bl_le L (bl L e + 1) (by omega)
    obtain ⟨i1, i2, i3⟩ := ih hb4.2
    refine ⟨by omega, i2, fun m kid hm => ?_⟩
    cases m with
    | zero =>
      obtain rfl : p = kid := by simpa using hm
      exact ⟨_, _, (val_pos hv).1, (val_pos hv).2, by omega, by omega, by omega⟩
    | succ m =>
      obtain ⟨b, e', k1, k2, k3, k4, k5⟩ := i3 m kid (by simpa using hm)
      exact ⟨b, e', k1, k2, by omega, k4, k5⟩
theorem Eb.kid {L : List Int} {i z : Nat} {ks : List S35} (h : Eb L i ks z) : i ≤ L.length → i < z ∧ z ≤ L.length ∧ ∀ (m : Nat) (kid : S35), ks[m]? = some kid → ∃ (b e : Nat), kid.f1 = (b : Int) ∧ kid.f2 = (e : Int) ∧ i ≤ b ∧ b < e ∧ e < z := by
  induction h with
  | last i n e p hv h93 =>
    intro hi
    have hve := (v_lt n).1 _ _ _ hi hv
    have hb3 := bl_le L e hve.2
    have h93l := h93.1
    refine ⟨by omega, by omega, fun m kid hm => ?_⟩
    obtain rfl : p = kid := by
      cases m with
      | zero => simpa using hm
      | succ m => simp at hm
    exact ⟨_, _, (val_pos hv).1, (val_pos hv).2, by omega, by omega, by omega⟩
  | more i n e z p ks1 hv h44 _ ih =>
    intro hi
    have hve := (v_lt n).1 _ _ _ hi hv
    have hb3 := bl_le L e hve.2
    have h44l := h44.1
    have hb4 := bl_le L (bl L e + 1) (by omega)
    obtain ⟨i1, i2, i3⟩ := ih hb4.2
    refine ⟨by omega, i2, fun m kid hm => ?_⟩
    cases m with
    | zero =>
      obtain rfl : p = kid := by simpa using hm
      exact ⟨_, _, (val_pos hv).1, (val_pos hv).2, by omega, by omega, by omega⟩
    | succ m =>
      obtain ⟨b, e', k1, k2, k3, k4, k5⟩ := i3 m kid (by simpa using hm)
      exact ⟨b, e', k1, k2, by omega, k4, k5⟩
end Go.Proofs.YtgbliniamkpocaaDoor.Pure
