/- Replacing one value's text: the whole text, and other values' ways. -/
import Derived.Test.YtgbliniamkpocaaDoorJpEd2
namespace Go.Proofs.YtgbliniamkpocaaDoor.Pure
open Go.RowKit Go.Proofs.YtgbliniamkpocaaDoor.PPl Go.Proofs.YtgbliniamkpocaaDoor.Jp

section
variable {L M : List Int} {b1 e1 c1 : Nat}
theorem obj_edit (H : Hole L M b1 e1 c1) {n i e m b ek b' ek' : Nat} {p kid kid' : S35} (h : val L n i = some (p, e)) (_hi : i ≤ L.length) (hk : p.f0 = 6) (hm : p.f4[m]? = some kid) (hK : Hv L M b1 e1 c1 b ek b' ek' kid kid') :
    ∃ p', Hv L M b1 e1 c1 i e i (c1 + (e - e1)) p p' ∧ p'.f0 = 6 ∧ A2 (Nm L M) p.f3 p'.f3 ∧ Kr L M b1 e1 c1 m kid' p.f4 p'.f4 := by
  obtain ⟨nk, hkv⟩ := hK.v
  have hkp := val_pos hkv
  have hlb := hK.lb
  have hle := hK.le
  have hel := hK.el
  obtain ⟨ha, h1⟩ := val_obj h hk
  have hal := ha.1
  have hb := bl_le L (i + 1) (by omega)
  rcases h1 with ⟨_, h4, _⟩ | ⟨n2, r, hr, e3, e4, ee⟩
  · rw [h4] at hm
    simp at hm
  · obtain ⟨ns, ks, r1, r2, hM⟩ := mb_of _ _ _ _ _ hr
    rw [List.nil_append] at r1 r2
    have hm' : ks[m]? = some kid := by rw [← r2, e4]; exact hm
    have hkk := hM.kid hb.2
    obtain ⟨kb, ke, q1, q2, q3, q4, q5⟩ := hkk.2.2 m kid hm'
    obtain ⟨ns', ks', hM', a1, a2⟩ := hM.edit H hK hb.2 m hm'
    have g0 := H.p_at (by omega) ha
    have g1 := H.p_bl (i := i + 1) (by omega) (by omega)
    rw [← g1, ← ee] at hM'
    obtain ⟨n', hv'⟩ := hM'.val g0
    refine ⟨_, ⟨⟨n, h⟩, ⟨n', hv'⟩, by omega, by omega, by omega, bl_stop (by rw [g0.2]; decide), rfl⟩, rfl, ?_, ?_⟩
    · rw [← e3, r1]
      exact a1
    · rw [← e4, r2]
      exact a2
theorem arr_edit (H : Hole L M b1 e1 c1) {n i e m b ek b' ek' : Nat} {p kid kid' : S35} (h : val L n i = some (p, e)) (_hi : i ≤ L.length) (hk : p.f0 = 5) (hm : p.f4[m]? = some kid) (hK : Hv L M b1 e1 c1 b ek b' ek' kid kid') :
    ∃ p', Hv L M b1 e1 c1 i e i (c1 + (e - e1)) p p' ∧ p'.f0 = 5 ∧ Kr L M b1 e1 c1 m kid' p.f4 p'.f4 := by
  obtain ⟨nk, hkv⟩ := hK.v
  have hkp := val_pos hkv
  have hlb := hK.lb
  have hle := hK.le
  have hel := hK.el
  obtain ⟨ha, h1⟩ := val_arr h hk
  have hal := ha.1
  have hb := bl_le L (i + 1) (by omega)
  rcases h1 with ⟨h4, _⟩ | ⟨_, n2, r, hr, e4, ee⟩
  · rw [h4] at hm
    simp at hm
  · obtain ⟨ks, r2, hM⟩ := eb_of _ _ _ _ hr
    rw [List.nil_append] at r2
    have hm' : ks[m]? = some kid := by rw [← r2, e4]; exact hm
    have hkk := hM.kid hb.2
    obtain ⟨kb, ke, q1, q2, q3, q4, q5⟩ := hkk.2.2 m kid hm'
    obtain ⟨ks', hM', a2⟩ := hM.edit H hK hb.2 m hm'
    have g0 := H.p_at (by omega) ha
    have g1 := H.p_thru (i := i + 1) (by omega) (by omega)
    rw [← g1, ← ee] at hM'
    obtain ⟨n', hv'⟩ := hM'.val g0
    refine ⟨_, ⟨⟨n, h⟩, ⟨n', hv'⟩, by omega, by omega, by omega, bl_stop (by rw [g0.2]; decide), rfl⟩, rfl, ?_⟩
    rw [← e4, r2]
    exact a2
/-- The values around the hole. -/
theorem ed_in (H : Hole L M b1 e1 c1) {p q : S35} {keys : List (List Int)} (hL : Ld L p keys q) (h1 : q.f1 = (b1 : Int)) (h2 : q.f2 = (e1 : Int)) (hq : ∃ b' e' q', Hv L M b1 e1 c1 b1 e1 b' e' q q') :
    ∀ (n i e : Nat), val L n i = some (p, e) → i ≤ L.length → ∃ i' e' p', Hv L M b1 e1 c1 i e i' e' p p' := by
  induction hL with
  | nil p =>
    intro n i e h hi
    have hp := val_pos h
    obtain rfl : i = b1 := by omega
    obtain rfl : e = e1 := by omega
    exact hq
  | name p key keys m x kid q hk _ _ _ hm _ ih =>
    intro n i e h hi
    obtain ⟨n', b, e', f1, f2, f3, f4, f5⟩ := obj_kid h hi hk hm
    obtain ⟨i2, e2, kid', hK⟩ := ih h1 h2 hq n' b e' f1 f3
    obtain ⟨p', hP, _⟩ := obj_edit H h hi hk hm hK
    exact ⟨_, _, p', hP⟩
  | elt p key keys k kid q hk _ hm _ ih =>
    intro n i e h hi
    obtain ⟨n', b, e', f1, f2, f3, f4, f5⟩ := arr_kid h hi hk hm
    obtain ⟨i2, e2, kid', hK⟩ := ih h1 h2 hq n' b e' f1 f3
    obtain ⟨p', hP, _⟩ := arr_edit H h hi hk hm hK
    exact ⟨_, _, p', hP⟩
end
/-- Where keys lead lies within. -/
theorem Ld.inn {L : List Int} {p q : S35} {keys : List (List Int)} (hL : Ld L p keys q) : ∀ (n i e : Nat), Pure.val L n i = some (p, e) → i ≤ L.length → (i : Int) ≤ q.f1 ∧ q.f2 ≤ (e : Int) := by
  induction hL with
  | nil p =>
    intro n i e h hi
    have hp := val_pos h
    omega
  | name p key keys m x kid q hk _ _ _ hm _ ih =>
    intro n i e h hi
    obtain ⟨n', b, e', f1, f2, f3, f4, f5⟩ := obj_kid h hi hk hm
    have := ih n' b e' f1 f3
    omega
  | elt p key keys k kid q hk _ hm _ ih =>
    intro n i e h hi
    obtain ⟨n', b, e', f1, f2, f3, f4, f5⟩ := arr_kid h hi hk hm
    have := ih n' b e' f1 f3
    omega
/-- Two lists of keys lead from a place to two, and part. -/
inductive Pt (L : List Int) : S35 → List (List Int) → S35 → List (List Int) → S35 → Prop
  | obj (p : S35) (key : List Int) (keys : List (List Int)) (q : S35) (key2 : List Int) (other : List (List Int)) (q2 : S35) (m m2 : Nat) (x2 : S72) (kid kid2 : S35) : p.f0 = 6 → m2 ≠ m → p.f4[m]? = some kid → Ld L kid keys q → p.f3[m2]? = some x2 → un (nmI L x2) = some key2 → (∀ (k : Nat) (y : S72), k < m2 → p.f3[k]? = some y → un (nmI L y) ≠ some key2) → p.f4[m2]? = some kid2 → Ld L kid2 other q2 → Pt L p (key :: keys) q (key2 :: other) q2
  | arr (p : S35) (key : List Int) (keys : List (List Int)) (q : S35) (key2 : List Int) (other : List (List Int)) (q2 : S35) (m m2 : Nat) (kid kid2 : S35) : p.f0 = 5 → m2 ≠ m → p.f4[m]? = some kid → Ld L kid keys q → Brk key2 m2 → p.f4[m2]? = some kid2 → Ld L kid2 other q2 → Pt L p (key :: keys) q (key2 :: other) q2
  | inObj (p : S35) (key : List Int) (keys : List (List Int)) (q : S35) (other : List (List Int)) (q2 : S35) (m : Nat) (x : S72) (kid : S35) : p.f0 = 6 → p.f3[m]? = some x → un (nmI L x) = some key → (∀ (k : Nat) (y : S72), k < m → p.f3[k]? = some y → un (nmI L y) ≠ some key) → p.f4[m]? = some kid → Pt L kid keys q other q2 → Pt L p (key :: keys) q (key :: other) q2
  | inArr (p : S35) (key : List Int) (keys : List (List Int)) (q : S35) (key2 : List Int) (other : List (List Int)) (q2 : S35) (m : Nat) (kid : S35) : p.f0 = 5 → Brk key2 m → p.f4[m]? = some kid → Pt L kid keys q other q2 → Pt L p (key :: keys) q (key2 :: other) q2
/-- Where a value beside the hole comes to lie. -/
def Ps (b1 e1 c1 : Nat) (q q' : S35) : Prop := q'.f0 = q.f0 ∧ (q.f2 ≤ (b1 : Int) ∧ q'.f1 = q.f1 ∧ q'.f2 = q.f2 ∨ (e1 : Int) ≤ q.f1 ∧ q'.f1 = q.f1 - (e1 : Int) + (c1 : Int) ∧ q'.f2 = q.f2 - (e1 : Int) + (c1 : Int))
theorem Sib.ld {L M : List Int} {b1 e1 c1 : Nat} {p p' q : S35} {keys : List (List Int)} (h : Sib L M b1 e1 c1 p p') (hL : Ld L p keys q) : ∃ q', Ld M p' keys q' ∧ Ps b1 e1 c1 q q' := by
  obtain ⟨b, e, b', hT, hp⟩ := h
  obtain ⟨q', g1, g2, g3, g4⟩ := hT.ld hL
  obtain ⟨n, hv⟩ := hT.v
  have hl := hT.w.l
  have hle := hT.le
  have := hL.inn n b e hv (by omega)
  refine ⟨q', g1, g4, ?_⟩
  rcases hp with ⟨h1, rfl⟩ | ⟨h1, rfl⟩
  · left
    omega
  · right
    omega
/-- The first of a name stays it. -/
theorem nm_first {L M : List Int} {ns ns' : List S72} (h : A2 (Nm L M) ns ns') {m : Nat} {x : S72} {key : List Int} (hx : ns[m]? = some x) (hu : un (nmI L x) = some key) (hf : ∀ (k : Nat) (y : S72), k < m → ns[k]? = some y → un (nmI L y) ≠ some key) :
    ∃ x', ns'[m]? = some x' ∧ un (nmI M x') = some key ∧ ∀ (k : Nat) (y : S72), k < m → ns'[k]? = some y → un (nmI M y) ≠ some key := by
  obtain ⟨x', g1, g2⟩ := h.get m x hx
  refine ⟨x', g1, by rw [g2]; exact hu, fun k y hk hy => ?_⟩
  obtain ⟨y0, g3, g4⟩ := h.back k y hy
  rw [g4]
  exact hf k y0 hk g3
theorem pt_edit {L M : List Int} {b1 e1 c1 : Nat} (H : Hole L M b1 e1 c1) {p q q2 : S35} {keys other : List (List Int)} (hL : Pt L p keys q other q2) (h1 : q.f1 = (b1 : Int)) (h2 : q.f2 = (e1 : Int)) (hq : ∃ b' e' q', Hv L M b1 e1 c1 b1 e1 b' e' q q') :
    ∀ (n i e : Nat), val L n i = some (p, e) → i ≤ L.length → ∃ i' e' p', Hv L M b1 e1 c1 i e i' e' p p' ∧ ∃ q2', Ld M p' other q2' ∧ Ps b1 e1 c1 q2 q2' := by
  induction hL with
  | obj p key keys q key2 other q2 m m2 x2 kid kid2 hk hne hm hl hx hu hf hm2 hl2 =>
    intro n i e h hi
    obtain ⟨n', b, e', f1, f2, f3, f4, f5⟩ := obj_kid h hi hk hm
    obtain ⟨i2, e2, kid', hK⟩ := ed_in H hl h1 h2 hq n' b e' f1 f3
    obtain ⟨p', hP, hk', hN, hR⟩ := obj_edit H h hi hk hm hK
    obtain ⟨x', g1, g2, g3⟩ := nm_first hN hx hu hf
    obtain ⟨kd', g4, hS⟩ := hR.sib m2 kid2 hne hm2
    obtain ⟨q', g5, g6⟩ := hS.ld hl2
    exact ⟨_, _, p', hP, q', .name p' key2 other m2 x' kd' q' hk' g1 g2 g3 g4 g5, g6⟩
  | arr p key keys q key2 other q2 m m2 kid kid2 hk hne hm hl hB hm2 hl2 =>
    intro n i e h hi
    obtain ⟨n', b, e', f1, f2, f3, f4, f5⟩ := arr_kid h hi hk hm
    obtain ⟨i2, e2, kid', hK⟩ := ed_in H hl h1 h2 hq n' b e' f1 f3
    obtain ⟨p', hP, hk', hR⟩ := arr_edit H h hi hk hm hK
    obtain ⟨kd', g4, hS⟩ := hR.sib m2 kid2 hne hm2
    obtain ⟨q', g5, g6⟩ := hS.ld hl2
    exact ⟨_, _, p', hP, q', .elt p' key2 other m2 kd' q' hk' hB g4 g5, g6⟩
  | inObj p key keys q other q2 m x kid hk hx hu hf hm _ ih =>
    intro n i e h hi
    obtain ⟨n', b, e', f1, f2, f3, f4, f5⟩ := obj_kid h hi hk hm
    obtain ⟨i2, e2, kid', hK, q', g5, g6⟩ := ih h1 h2 hq n' b e' f1 f3
    obtain ⟨p', hP, hk', hN, hR⟩ := obj_edit H h hi hk hm hK
    obtain ⟨x', g1, g2, g3⟩ := nm_first hN hx hu hf
    exact ⟨_, _, p', hP, q', .name p' key other m x' kid' q' hk' g1 g2 g3 hR.at_ g5, g6⟩
  | inArr p key keys q key2 other q2 m kid hk hB hm _ ih =>
    intro n i e h hi
    obtain ⟨n', b, e', f1, f2, f3, f4, f5⟩ := arr_kid h hi hk hm
    obtain ⟨i2, e2, kid', hK, q', g5, g6⟩ := ih h1 h2 hq n' b e' f1 f3
    obtain ⟨p', hP, hk', hR⟩ := arr_edit H h hi hk hm hK
    exact ⟨_, _, p', hP, q', .elt p' key2 other m kid' q' hk' hB hR.at_ g5, g6⟩
theorem Pt.fst {L : List Int} {p q q2 : S35} {keys other : List (List Int)} (h : Pt L p keys q other q2) (hf : True) : ∀ (n i e : Nat), val L n i = some (p, e) → i ≤ L.length → (e = L.length ∨ isDl (gb L e)) → ∃ n' b e', Pure.val L n' b = some (q, e') ∧ i ≤ b ∧ b ≤ L.length ∧ e' ≤ e ∧ (e' = L.length ∨ isDl (gb L e')) := by
  have _ := hf
  induction h with
  | obj p key keys q key2 other q2 m m2 x2 kid kid2 hk hne hm hl =>
    intro n i e h hi he
    obtain ⟨n', b, e', f1, f2, f3, f4, f5⟩ := obj_kid h hi hk hm
    obtain ⟨n2, b2, e2, g1, g2, g3, g4, g5⟩ := hl.val n' b e' f1 f3 (.inr f5)
    exact ⟨n2, b2, e2, g1, by omega, g3, by omega, g5⟩
  | arr p key keys q key2 other q2 m m2 kid kid2 hk hne hm hl =>
    intro n i e h hi he
    obtain ⟨n', b, e', f1, f2, f3, f4, f5⟩ := arr_kid h hi hk hm
    obtain ⟨n2, b2, e2, g1, g2, g3, g4, g5⟩ := hl.val n' b e' f1 f3 (.inr f5)
    exact ⟨n2, b2, e2, g1, by omega, g3, by omega, g5⟩
  | inObj p key keys q other q2 m x kid hk hx hu hf hm _ ih =>
    intro n i e h hi he
    obtain ⟨n', b, e', f1, f2, f3, f4, f5⟩ := obj_kid h hi hk hm
    obtain ⟨n2, b2, e2, g1, g2, g3, g4, g5⟩ := ih n' b e' f1 f3 (.inr f5)
    exact ⟨n2, b2, e2, g1, by omega, g3, by omega, g5⟩
  | inArr p key keys q key2 other q2 m kid hk hB hm _ ih =>
    intro n i e h hi he
    obtain ⟨n', b, e', f1, f2, f3, f4, f5⟩ := arr_kid h hi hk hm
    obtain ⟨n2, b2, e2, g1, g2, g3, g4, g5⟩ := ih n' b e' f1 f3 (.inr f5)
    exact ⟨n2, b2, e2, g1, by omega, g3, by omega, g5⟩
/-- The text with other bytes from b to e. -/
def rep (L : List Int) (b e : Nat) (F : List Int) : List Int := L.take b ++ F ++ L.drop e
theorem rep_len {L F : List Int} {b e : Nat} (hb : b ≤ e) (he : e ≤ L.length) : (rep L b e F).length = b + F.length + (L.length - e) := by
  unfold rep
  simp only [List.length_append, List.length_take, List.length_drop]
  omega
theorem gb_app1 {A B : List Int} {k : Nat} (h : k < A.length) : gb (A ++ B) k = gb A k := by
  unfold gb
  rw [List.getD_eq_getElem?_getD, List.getD_eq_getElem?_getD, List.getElem?_append_left h]
theorem gb_app2 {A B : List Int} {k : Nat} : gb (A ++ B) (A.length + k) = gb B k := by
  unfold gb
  rw [List.getD_eq_getElem?_getD, List.getD_eq_getElem?_getD, List.getElem?_append_right (Nat.le_add_right _ _), Nat.add_sub_cancel_left]
theorem rep_hole {L F : List Int} {b e : Nat} (hb : b ≤ e) (he : e ≤ L.length) : Hole L (rep L b e F) b e (b + F.length) := by
  have hl := rep_len (F := F) hb he
  have h1 : (L.take b).length = b := by rw [List.length_take]; omega
  have h2 : (L.take b ++ F).length = b + F.length := by rw [List.length_append, h1]
  refine ⟨⟨fun k hk => ?_, by omega, by omega⟩, ⟨fun k hk => ?_, by omega, by omega⟩, hb, he, hl⟩
  · unfold rep
    rw [Nat.zero_add, List.append_assoc, gb_app1 (by omega), gb_take hk]
  · unfold rep
    have := gb_app2 (A := L.take b ++ F) (B := L.drop e) (k := k)
    rw [h2] at this
    rw [this, gb_drop]
theorem rep_mid {L F : List Int} {b e k : Nat} (hb : b ≤ e) (he : e ≤ L.length) (hk : k < F.length) : gb (rep L b e F) (k + b) = gb F k := by
  have h1 : (L.take b).length = b := by rw [List.length_take]; omega
  unfold rep
  have := gb_app2 (A := L.take b) (B := F ++ L.drop e) (k := k)
  rw [h1] at this
  rw [List.append_assoc, Nat.add_comm, this, gb_app1 hk]
/-- The value itself, where a JSON text stands in its place. -/
theorem rep_here {L F : List Int} {n b e : Nat} {q f : S35} (hv : val L n b = some (q, e)) (hb : b ≤ L.length) (hd : e = L.length ∨ isDl (gb L e)) (hF : Doc F f) : ∃ b' e' q', Hv L (rep L b e F) b e (b + F.length) b e b' e' q q' ∧ b' = b + bl F 0 := by
  obtain ⟨nf, ef, hf, hfe⟩ := hF
  have hve := (v_lt n).1 _ _ _ hb hv
  have hl := rep_len (F := F) (L := L) (b := b) (e := e) (by omega) hve.2
  have hb0 := (bl_le F 0 (Nat.zero_le _)).2
  have hfl := (v_lt nf).1 _ _ _ hb0 hf
  have hE : ∀ k, k < F.length → gb (rep L b e F) (k + b) = gb F k := fun k hk => rep_mid (by omega) hve.2 hk
  have hnum : ¬ NumC (gb (rep L b e F) (F.length + b)) := by
    have H := rep_hole (F := F) (L := L) (b := b) (e := e) (by omega) hve.2
    by_cases hel : e = L.length
    · rw [gb_out (by omega)]
      unfold NumC isDig
      omega
    · have hdl : isDl (gb L e) := hd.resolve_left hel
      have := H.suf.g 0 (by omega)
      rw [Nat.add_zero, Nat.add_zero] at this
      rw [Nat.add_comm, ← this]
      exact dl_num hdl
  obtain ⟨q', hq'⟩ := (e_all (L := F) (M := rep L b e F) (o := b) hE (by omega) nf).1 _ _ _ hf (.inr (.inl hnum)) hb0
  have hbb := e_bl (L := F) (M := rep L b e F) (o := b) hE _ 0 (Nat.le_refl _) (by omega)
  rw [Nat.zero_add] at hbb
  refine ⟨bl F 0 + b, ef + b, q', ⟨⟨n, hv⟩, ⟨nf, hq'⟩, Nat.le_refl _, Nat.le_refl _, hve.2, hbb, ?_⟩, Nat.add_comm _ _⟩
  rw [Nat.sub_self, Nat.add_zero]
  refine bl_run _ _ _ rfl (by omega) (fun k h1 h2 => ?_)
  obtain ⟨j, rfl⟩ : ∃ j, k = j + b := ⟨k - b, by omega⟩
  rw [hE j (by omega)]
  exact bl_all F _ ef j (Nat.le_refl _) (by omega) (by omega)
theorem doc_out {L M : List Int} {b1 e1 c1 i e i' e' : Nat} {p p' : S35} (H : Hole L M b1 e1 c1) (hV : Hv L M b1 e1 c1 i e i' e' p p') (hi : i = bl L 0) (he : bl L e = L.length) : Doc M p' := by
  subst hi
  obtain ⟨n', hv'⟩ := hV.v'
  have h1 := H.p_thru (i := 0) (Nat.zero_le _) hV.lb
  have hml := H.ml
  have hel := H.el
  have hle := hV.le
  have hee := hV.el
  refine ⟨n', e', by rw [h1, hV.bb]; exact hv', ?_⟩
  rw [hV.ee]
  have hrun : bl M (c1 + (e - e1)) = bl M M.length := by
    refine bl_run _ _ _ rfl (by omega) (fun k k1 k2 => ?_)
    have := H.suf.g (k - c1) (by omega)
    rw [show c1 + (k - c1) = k by omega] at this
    rw [← this]
    exact bl_all L _ e _ (Nat.le_refl _) (by omega) (by omega)
  rw [hrun, bl_out]
theorem doc_end {L : List Int} {e : Nat} (he : bl L e = L.length) : e = L.length ∨ isDl (gb L e) := by
  by_cases hel : e = L.length
  · exact .inl hel
  · right
    by_cases hb : isBlank (gb L e)
    · unfold isBlank at hb
      unfold isDl
      omega
    · rw [bl_stop hb] at he
      exact absurd he hel
/-- A JSON text with another one in the place of a value: a JSON text, in which keys that part from the value's lead where they led. -/
theorem doc_edit {L F : List Int} {p q q2 f : S35} {keys other : List (List Int)} {b e : Nat} (hd : Doc L p) (hL : Pt L p keys q other q2) (hb : q.f1 = (b : Int)) (he : q.f2 = (e : Int)) (hF : Doc F f) :
    ∃ p' q2', Doc (rep L b e F) p' ∧ Ld (rep L b e F) p' other q2' ∧ Ps b e (b + F.length) q2 q2' := by
  obtain ⟨n, e0, hv, hend⟩ := hd
  have hb0 := (bl_le L 0 (Nat.zero_le _)).2
  obtain ⟨nq, bq, eq, hvq, _, hbq, _, hdq⟩ := hL.fst trivial n _ _ hv hb0 (doc_end hend)
  have hpq := val_pos hvq
  obtain rfl : bq = b := by omega
  obtain rfl : eq = e := by omega
  have hve := (v_lt nq).1 _ _ _ hbq hvq
  obtain ⟨b', e', q', hH, _⟩ := rep_here hvq hbq hdq hF
  have H := rep_hole (F := F) (L := L) (b := bq) (e := eq) (by omega) hve.2
  obtain ⟨i', e2, p', hP, q2', g1, g2⟩ := pt_edit H hL hb he ⟨b', e', q', hH⟩ n _ _ hv hb0
  exact ⟨p', q2', doc_out H hP rfl hend, g1, g2⟩
/-! ### Two replaced values -/
theorem rep_two {L F S : List Int} {b1 e1 b2 e2 : Nat} (h1 : b1 ≤ e1) (h2 : e1 ≤ b2) (h3 : b2 ≤ e2) (h4 : e2 ≤ L.length) :
    rep (rep L b1 e1 F) (b2 - e1 + (b1 + F.length)) (e2 - e1 + (b1 + F.length)) S = rep (rep L b2 e2 S) b1 e1 F := by
  have hA : (L.take b1 ++ F).length = b1 + F.length := by rw [List.length_append, List.length_take]; omega
  have e1' : (rep L b1 e1 F).take (b2 - e1 + (b1 + F.length)) = L.take b1 ++ F ++ (L.drop e1).take (b2 - e1) := by
    unfold rep
    rw [List.take_append, hA, List.take_of_length_le (by omega), show b2 - e1 + (b1 + F.length) - (b1 + F.length) = b2 - e1 by omega]
  have e2' : (rep L b1 e1 F).drop (e2 - e1 + (b1 + F.length)) = L.drop e2 := by
    unfold rep
    rw [List.drop_append, hA, List.drop_eq_nil_of_le (by omega), List.nil_append, List.drop_drop]
    congr 1
    omega
  have hB : (L.take b2).length = b2 := by rw [List.length_take]; omega
  have e3 : (rep L b2 e2 S).take b1 = L.take b1 := by
    unfold rep
    rw [List.append_assoc, List.take_append_of_le_length (by omega), List.take_take, Nat.min_eq_left (by omega)]
  have e4 : (rep L b2 e2 S).drop e1 = (L.take b2).drop e1 ++ S ++ L.drop e2 := by
    unfold rep
    rw [List.append_assoc, List.drop_append_of_le_length (by omega), List.append_assoc]
  rw [rep, e1', e2', rep, e3, e4, List.take_drop, show e1 + (b2 - e1) = b2 by omega]
  simp only [List.append_assoc]
end Go.Proofs.YtgbliniamkpocaaDoor.Pure
