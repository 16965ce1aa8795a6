/- Replacing one value's text: the value around it. -/
import Derived.Test.YtgbliniamkpocaaDoorJpEd
namespace Go.Proofs.YtgbliniamkpocaaDoor.Pure
open Go.RowKit Go.Proofs.YtgbliniamkpocaaDoor.PPl Go.Proofs.YtgbliniamkpocaaDoor.Jp

/-- M is L with other bytes up to c1 in the place of those from b1 to e1. -/
structure Hole (L M : List Int) (b1 e1 c1 : Nat) : Prop where
  pre : Win L M 0 0 b1
  suf : Win L M e1 c1 (L.length - e1)
  le : b1 ≤ e1
  el : e1 ≤ L.length
  ml : M.length = c1 + (L.length - e1)
/-- A name of the same bytes. -/
def Nm (L M : List Int) (x x' : S72) : Prop := nmI M x' = nmI L x
theorem Win.nm {L M : List Int} {o o' len a c : Nat} (h : Win L M o o' len) (hac : a + 1 < c) (hc : c ≤ len) : Nm L M ⟨((o + a : Nat) : Int), ((o + c : Nat) : Int)⟩ ⟨((o' + a : Nat) : Int), ((o' + c : Nat) : Int)⟩ := by
  unfold Nm nmI
  simp only [Int.toNat_natCast]
  have := (h.sub (a := a + 1) (n := c - 1 - (a + 1)) (by omega)).cut
  rw [show o + (a + 1) + (c - 1 - (a + 1)) = o + c - 1 by omega, show o' + (a + 1) + (c - 1 - (a + 1)) = o' + c - 1 by omega] at this
  rw [Nat.add_assoc o a 1, Nat.add_assoc o' a 1]
  exact this.symm
/-- A value beside the hole. -/
def Sib (L M : List Int) (b1 e1 c1 : Nat) (p p' : S35) : Prop := ∃ b e b', Tw L M b e b' p p' ∧ (e ≤ b1 ∧ b' = b ∨ e1 ≤ b ∧ b' = c1 + (b - e1))
section
variable {L M : List Int} {b1 e1 c1 : Nat}
theorem Hole.s_at (H : Hole L M b1 e1 c1) {i : Nat} {c : Int} (hi : e1 ≤ i) (h : at_ L i c) : at_ M (c1 + (i - e1)) c :=
  H.suf.ax (i := i - e1) (by have := h.1; omega) (by rw [show e1 + (i - e1) = i by omega]; exact h)
theorem Hole.s_st (H : Hole L M b1 e1 c1) {i j : Nat} (hi : e1 ≤ i) (h : st L i = some j) : st M (c1 + (i - e1)) = some (c1 + (j - e1)) := by
  have hj := st_le L _ _ _ (Nat.le_refl _) h
  exact H.suf.st (i := i - e1) (j := j - e1) (by rw [show e1 + (i - e1) = i by omega, show e1 + (j - e1) = j by omega]; exact h) (by omega)
theorem Hole.s_bl (H : Hole L M b1 e1 c1) {i : Nat} (hi : e1 ≤ i) (h : bl L i < L.length) (hil : i ≤ L.length) : bl M (c1 + (i - e1)) = c1 + (bl L i - e1) := by
  have hb := bl_le L i hil
  exact H.suf.bl (i := i - e1) (r := bl L i - e1) (by omega) (by rw [show e1 + (i - e1) = i by omega]; omega) (by omega)
theorem Hole.s_val (H : Hole L M b1 e1 c1) {n b e : Nat} {p : S35} (hb : e1 ≤ b) (hbl : b ≤ L.length) (h : val L n b = some (p, e)) (he : e < L.length) (hd : isDl (gb L e)) : ∃ p', Tw L M b e (c1 + (b - e1)) p p' := by
  have hve := (v_lt n).1 _ _ _ hbl h
  have hw := H.suf.sub (a := b - e1) (n := e - b) (by omega)
  rw [show e1 + (b - e1) = b by omega] at hw
  refine val_same h hbl hw ?_
  have := H.suf.g (e - e1) (by omega)
  rw [show e1 + (e - e1) = e by omega] at this
  rw [show c1 + (b - e1) + (e - b) = c1 + (e - e1) by omega, ← this]
  exact hd
theorem Hole.s_nm (H : Hole L M b1 e1 c1) {i j : Nat} (hi : e1 ≤ i) (hij : i + 1 < j) (hj : j ≤ L.length) : Nm L M ⟨(i : Int), (j : Int)⟩ ⟨((c1 + (i - e1) : Nat) : Int), ((c1 + (j - e1) : Nat) : Int)⟩ := by
  have := H.suf.nm (a := i - e1) (c := j - e1) (by omega) (by omega)
  rwa [show e1 + (i - e1) = i by omega, show e1 + (j - e1) = j by omega] at this
theorem Hole.p_at (H : Hole L M b1 e1 c1) {i : Nat} {c : Int} (hi : i < b1) (h : at_ L i c) : at_ M i c := by
  have := H.pre.ax (i := i) hi (by rwa [Nat.zero_add])
  rwa [Nat.zero_add] at this
theorem Hole.p_st (H : Hole L M b1 e1 c1) {i j : Nat} (h : st L i = some j) (hj : j ≤ b1) : st M i = some j := by
  have := H.pre.st (i := i) (j := j) (by rwa [Nat.zero_add, Nat.zero_add]) hj
  rwa [Nat.zero_add, Nat.zero_add] at this
theorem Hole.p_bl (H : Hole L M b1 e1 c1) {i : Nat} (hi : i ≤ b1) (h : bl L i < b1) : bl M i = bl L i := by
  have := H.pre.bl (i := i) (r := bl L i) hi (by rw [Nat.zero_add, Nat.zero_add]) h
  rwa [Nat.zero_add, Nat.zero_add] at this
theorem Hole.p_thru (H : Hole L M b1 e1 c1) {i : Nat} (hi : i ≤ L.length) (h : bl L i ≤ b1) : bl M i = bl M (bl L i) := by
  have hb := bl_le L i hi
  refine bl_run _ i (bl L i) rfl hb.1 (fun k h1 h2 => ?_)
  have := H.pre.g k (by omega)
  rw [Nat.zero_add] at this
  rw [← this]
  exact bl_all L _ i k (Nat.le_refl _) h1 h2
theorem Hole.p_val (H : Hole L M b1 e1 c1) {n b e : Nat} {p : S35} (hbl : b ≤ L.length) (h : val L n b = some (p, e)) (he : e < b1) (hd : isDl (gb L e)) : ∃ p', Tw L M b e b p p' := by
  have hve := (v_lt n).1 _ _ _ hbl h
  have hw := H.pre.sub (a := b) (n := e - b) (by omega)
  rw [Nat.zero_add] at hw
  refine val_same h hbl hw ?_
  have := H.pre.g e (by omega)
  rw [Nat.zero_add] at this
  rw [show b + (e - b) = e by omega, ← this]
  exact hd
theorem Hole.p_nm (H : Hole L M b1 e1 c1) {i j : Nat} (hij : i + 1 < j) (hj : j ≤ b1) : Nm L M ⟨(i : Int), (j : Int)⟩ ⟨(i : Int), (j : Int)⟩ := by
  have := H.pre.nm (a := i) (c := j) (by omega) hj
  rwa [Nat.zero_add, Nat.zero_add] at this
/-- The value p of L from b to e, with the hole in it, is p' of M from b' to e'. -/
structure Hv (L M : List Int) (b1 e1 c1 b e b' e' : Nat) (p p' : S35) : Prop where
  v : ∃ n, val L n b = some (p, e)
  v' : ∃ n, val M n b' = some (p', e')
  lb : b ≤ b1
  le : e1 ≤ e
  el : e ≤ L.length
  bb : bl M b = b'
  ee : bl M e' = bl M (c1 + (e - e1))
/-- Members behind the hole. -/
theorem Mb.after (H : Hole L M b1 e1 c1) {i z : Nat} {ns : List S72} {ks : List S35} (h : Mb L i ns ks z) : e1 ≤ i → i ≤ L.length → ∃ ns' ks', Mb M (c1 + (i - e1)) ns' ks' (c1 + (z - e1)) ∧ A2 (Nm L M) ns ns' ∧ A2 (Sib L M b1 e1 c1) ks ks' := by
  induction h with
  | last i j n e p h34 hj h58 hv h125 =>
    intro he hi
    have hjl := st_le L _ _ _ (Nat.le_refl _) hj
    have hb1 := bl_le L j hjl.2
    have h58l := h58.1
    have hb2 := bl_le L (bl L j + 1) (by omega)
    have hve := (v_lt n).1 _ _ _ hb2.2 hv
    have hb3 := bl_le L e hve.2
    have h125l := h125.1
    obtain ⟨p', hT⟩ := H.s_val (by omega) hb2.2 hv (by omega) (dl_of (.inr (.inl h125.2)))
    obtain ⟨n', hv'⟩ := hT.v'
    have g1 := H.s_at he h34
    have g2 := H.s_st (by omega) hj
    have g3 := H.s_bl (i := j) (by omega) (by omega) (by omega)
    have g4 := H.s_at (by omega) h58
    have g5 := H.s_bl (i := bl L j + 1) (by omega) (by omega) (by omega)
    have g6 := H.s_bl (i := e) (by omega) (by omega) (by omega)
    have g7 := H.s_at (by omega) h125
    rw [show c1 + (bl L (bl L j + 1) - e1) + (e - bl L (bl L j + 1)) = c1 + (e - e1) by omega, ← g5, show c1 + (bl L j + 1 - e1) = c1 + (bl L j - e1) + 1 by omega, ← g3] at hv'
    rw [← g3] at g4
    rw [← g6] at g7
    rw [show c1 + (i + 1 - e1) = c1 + (i - e1) + 1 by omega] at g2
    refine ⟨_, _, ?_, .cons (H.s_nm he (by omega) hjl.2) .nil, .cons ⟨_, _, _, hT, .inr ⟨by omega, rfl⟩⟩ .nil⟩
    rw [show c1 + (bl L e + 1 - e1) = c1 + (bl L e - e1) + 1 by omega, ← g6]
    exact .last _ _ n' _ p' g1 g2 g4 hv' g7
  | more i j n e z p ns1 ks1 h34 hj h58 hv h44 hr ih =>
    intro he hi
    have hjl := st_le L _ _ _ (Nat.le_refl _) hj
    have hb1 := bl_le L j hjl.2
    have h58l := h58.1
    have hb2 := bl_le L (bl L j + 1) (by omega)
    have hve := (v_lt n).1 _ _ _ hb2.2 hv
    have hb3 := bl_le L e hve.2
    have h44l := h44.1
    have hb4 := bl_le L (bl L e + 1) (by omega)
    have hkk := hr.kid hb4.2
    obtain ⟨ns2, ks2, hM, a1, a2⟩ := ih (by omega) hb4.2
    obtain ⟨p', hT⟩ := H.s_val (by omega) hb2.2 hv (by omega) (dl_of (.inl h44.2))
    obtain ⟨n', hv'⟩ := hT.v'
    have g1 := H.s_at he h34
    have g2 := H.s_st (by omega) hj
    have g3 := H.s_bl (i := j) (by omega) (by omega) (by omega)
    have g4 := H.s_at (by omega) h58
    have g5 := H.s_bl (i := bl L j + 1) (by omega) (by omega) (by omega)
    have g6 := H.s_bl (i := e) (by omega) (by omega) (by omega)
    have g7 := H.s_at (by omega) h44
    have g8 := H.s_bl (i := bl L e + 1) (by omega) (by omega) (by omega)
    rw [show c1 + (bl L (bl L j + 1) - e1) + (e - bl L (bl L j + 1)) = c1 + (e - e1) by omega, ← g5, show c1 + (bl L j + 1 - e1) = c1 + (bl L j - e1) + 1 by omega, ← g3] at hv'
    rw [← g3] at g4
    rw [← g6] at g7
    rw [show c1 + (i + 1 - e1) = c1 + (i - e1) + 1 by omega] at g2
    rw [← g8, show c1 + (bl L e + 1 - e1) = c1 + (bl L e - e1) + 1 by omega, ← g6] at hM
    exact ⟨_, _, .more _ _ n' _ _ p' ns2 ks2 g1 g2 g4 hv' g7 hM, .cons (H.s_nm he (by omega) hjl.2) a1, .cons ⟨_, _, _, hT, .inr ⟨by omega, rfl⟩⟩ a2⟩
/-- Elements behind the hole. -/
theorem Eb.after (H : Hole L M b1 e1 c1) {i z : Nat} {ks : List S35} (h : Eb L i ks z) : e1 ≤ i → i ≤ L.length → ∃ ks', Eb M (c1 + (i - e1)) ks' (c1 + (z - e1)) ∧ A2 (Sib L M b1 e1 c1) ks ks' := by
  induction h with
  | last i n e p hv h93 =>
    intro he hi
    have hve := (v_lt n).1 _ _ _ hi hv
    have hb3 := bl_le L e hve.2
    have h93l := h93.1
    obtain ⟨p', hT⟩ := H.s_val he hi hv (by omega) (dl_of (.inr (.inr h93.2)))
    obtain ⟨n', hv'⟩ := hT.v'
    have g6 := H.s_bl (i := e) (by omega) (by omega) (by omega)
    have g7 := H.s_at (by omega) h93
    rw [show c1 + (i - e1) + (e - i) = c1 + (e - e1) by omega] at hv'
    rw [← g6] at g7
    refine ⟨_, ?_, .cons ⟨_, _, _, hT, .inr ⟨he, rfl⟩⟩ .nil⟩
    rw [show c1 + (bl L e + 1 - e1) = c1 + (bl L e - e1) + 1 by omega, ← g6]
    exact .last _ n' _ p' hv' g7
  | more i n e z p ks1 hv h44 hr ih =>
    intro he hi
    have hve := (v_lt n).1 _ _ _ hi hv
    have hb3 := bl_le L e hve.2
    have h44l := h44.1
    have hb4 := bl_le L (bl L e + 1) (by omega)
    have hkk := hr.kid hb4.2
    obtain ⟨ks2, hM, a2⟩ := ih (by omega) hb4.2
    obtain ⟨p', hT⟩ := H.s_val he hi hv (by omega) (dl_of (.inl h44.2))
    obtain ⟨n', hv'⟩ := hT.v'
    have g6 := H.s_bl (i := e) (by omega) (by omega) (by omega)
    have g7 := H.s_at (by omega) h44
    have g8 := H.s_bl (i := bl L e + 1) (by omega) (by omega) (by omega)
    rw [show c1 + (i - e1) + (e - i) = c1 + (e - e1) by omega] at hv'
    rw [← g6] at g7
    rw [← g8, show c1 + (bl L e + 1 - e1) = c1 + (bl L e - e1) + 1 by omega, ← g6] at hM
    exact ⟨_, .more _ n' _ _ p' ks2 hv' g7 hM, .cons ⟨_, _, _, hT, .inr ⟨he, rfl⟩⟩ a2⟩
/-- The kids beside the one with the hole. -/
structure Kr (L M : List Int) (b1 e1 c1 m : Nat) (kid' : S35) (ks ks' : List S35) : Prop where
  len : ks'.length = ks.length
  at_ : ks'[m]? = some kid'
  sib : ∀ (k : Nat) (kd : S35), k ≠ m → ks[k]? = some kd → ∃ kd', ks'[k]? = some kd' ∧ Sib L M b1 e1 c1 kd kd'
theorem Kr.zero {kid kid' : S35} {ks ks' : List S35} (h : A2 (Sib L M b1 e1 c1) ks ks') : Kr L M b1 e1 c1 0 kid' (kid :: ks) (kid' :: ks') := by
  refine ⟨by simp [h.length], by simp, fun k kd hk hg => ?_⟩
  cases k with
  | zero => exact absurd rfl hk
  | succ k =>
    simp only [List.getElem?_cons_succ] at hg ⊢
    exact h.get k kd hg
theorem Kr.succ {kid' p p' : S35} {m : Nat} {ks ks' : List S35} (hp : Sib L M b1 e1 c1 p p') (h : Kr L M b1 e1 c1 m kid' ks ks') : Kr L M b1 e1 c1 (m + 1) kid' (p :: ks) (p' :: ks') := by
  refine ⟨by simp [h.len], by simpa using h.at_, fun k kd hk hg => ?_⟩
  cases k with
  | zero =>
    simp only [List.getElem?_cons_zero, Option.some.injEq] at hg ⊢
    subst hg
    exact ⟨p', rfl, hp⟩
  | succ k =>
    simp only [List.getElem?_cons_succ] at hg ⊢
    exact h.sib k kd (by omega) hg
theorem Mb.edit (H : Hole L M b1 e1 c1) {b ek b' ek' : Nat} {kid kid' : S35} (hK : Hv L M b1 e1 c1 b ek b' ek' kid kid') {i z : Nat} {ns : List S72} {ks : List S35} (h : Mb L i ns ks z) : i ≤ L.length → ∀ m : Nat, ks[m]? = some kid →
    ∃ ns' ks', Mb M i ns' ks' (c1 + (z - e1)) ∧ A2 (Nm L M) ns ns' ∧ Kr L M b1 e1 c1 m kid' ks ks' := by
  obtain ⟨nk, hkv⟩ := hK.v
  have hkp := val_pos hkv
  have hlb := hK.lb
  have hle := hK.le
  have hel := hK.el
  have H1 := H.le
  induction h with
  | last i j n e p h34 hj h58 hv h125 =>
    intro hi m hm
    have hjl := st_le L _ _ _ (Nat.le_refl _) hj
    have hb1 := bl_le L j hjl.2
    have h58l := h58.1
    have hb2 := bl_le L (bl L j + 1) (by omega)
    have hve := (v_lt n).1 _ _ _ hb2.2 hv
    have hb3 := bl_le L e hve.2
    have h125l := h125.1
    obtain rfl : m = 0 := by
      cases m with
      | zero => rfl
      | succ m => simp at hm
    obtain rfl : p = kid := by simpa using hm
    have hvp := val_pos hv
    obtain rfl : b = bl L (bl L j + 1) := by omega
    obtain rfl : ek = e := by omega
    obtain ⟨n', hv'⟩ := hK.v'
    have g1 := H.p_at (by omega) h34
    have g2 := H.p_st hj (by omega)
    have g3 := H.p_bl (i := j) (by omega) (by omega)
    have g4 := H.p_at (by omega) h58
    have g5 := H.p_thru (i := bl L j + 1) (by omega) hlb
    rw [hK.bb] at g5
    have g6 := H.s_bl (i := ek) (by omega) (by omega) (by omega)
    rw [← hK.ee] at g6
    have g7 := H.s_at (by omega) h125
    rw [← g6] at g7
    rw [← g5, ← g3] at hv'
    rw [← g3] at g4
    refine ⟨_, _, ?_, .cons (H.p_nm (by omega) (by omega)) .nil, .zero .nil⟩
    rw [show c1 + (bl L ek + 1 - e1) = c1 + (bl L ek - e1) + 1 by omega, ← g6]
    exact .last i j n' _ _ g1 g2 g4 hv' g7
  | more i j n e z p ns1 ks1 h34 hj h58 hv h44 hr ih =>
    intro hi m hm
    have hjl := st_le L _ _ _ (Nat.le_refl _) hj
    have hb1 := bl_le L j hjl.2
    have h58l := h58.1
    have hb2 := bl_le L (bl L j + 1) (by omega)
    have hve := (v_lt n).1 _ _ _ hb2.2 hv
    have hb3 := bl_le L e hve.2
    have h44l := h44.1
    have hb4 := bl_le L (bl L e + 1) (by omega)
    have hkk := hr.kid hb4.2
    cases m with
    | zero =>
      obtain rfl : p = kid := by simpa using hm
      have hvp := val_pos hv
      obtain rfl : b = bl L (bl L j + 1) := by omega
      obtain rfl : ek = e := by omega
      obtain ⟨n', hv'⟩ := hK.v'
      obtain ⟨ns2, ks2, hM, a1, a2⟩ := hr.after H (by omega) hb4.2
      have g1 := H.p_at (by omega) h34
      have g2 := H.p_st hj (by omega)
      have g3 := H.p_bl (i := j) (by omega) (by omega)
      have g4 := H.p_at (by omega) h58
      have g5 := H.p_thru (i := bl L j + 1) (by omega) hlb
      rw [hK.bb] at g5
      have g6 := H.s_bl (i := ek) (by omega) (by omega) (by omega)
      rw [← hK.ee] at g6
      have g7 := H.s_at (by omega) h44
      rw [← g6] at g7
      have g8 := H.s_bl (i := bl L ek + 1) (by omega) (by omega) (by omega)
      rw [← g5, ← g3] at hv'
      rw [← g3] at g4
      rw [← g8, show c1 + (bl L ek + 1 - e1) = c1 + (bl L ek - e1) + 1 by omega, ← g6] at hM
      exact ⟨_, _, .more i j n' _ _ _ ns2 ks2 g1 g2 g4 hv' g7 hM, .cons (H.p_nm (by omega) (by omega)) a1, .zero a2⟩
    | succ m =>
      have hm' : ks1[m]? = some kid := by simpa using hm
      obtain ⟨kb, ke, q1, q2, q3, q4, q5⟩ := hkk.2.2 m kid hm'
      obtain rfl : b = kb := by omega
      obtain rfl : ek = ke := by omega
      obtain ⟨ns2, ks2, hM, a1, a2⟩ := ih hb4.2 m hm'
      obtain ⟨p', hT⟩ := H.p_val hb2.2 hv (by omega) (dl_of (.inl h44.2))
      obtain ⟨n', hv'⟩ := hT.v'
      have g1 := H.p_at (by omega) h34
      have g2 := H.p_st hj (by omega)
      have g3 := H.p_bl (i := j) (by omega) (by omega)
      have g4 := H.p_at (by omega) h58
      have g5 := H.p_bl (i := bl L j + 1) (by omega) (by omega)
      have g6 := H.p_bl (i := e) (by omega) (by omega)
      have g7 := H.p_at (by omega) h44
      have g8 := H.p_bl (i := bl L e + 1) (by omega) (by omega)
      rw [show bl L (bl L j + 1) + (e - bl L (bl L j + 1)) = e by omega, ← g5, ← g3] at hv'
      rw [← g3] at g4
      rw [← g6] at g7
      rw [← g8, ← g6] at hM
      exact ⟨_, _, .more i j n' e _ p' ns2 ks2 g1 g2 g4 hv' g7 hM, .cons (H.p_nm (by omega) (by omega)) a1, a2.succ ⟨_, _, _, hT, .inl ⟨by omega, rfl⟩⟩⟩
theorem Eb.edit (H : Hole L M b1 e1 c1) {b ek b' ek' : Nat} {kid kid' : S35} (hK : Hv L M b1 e1 c1 b ek b' ek' kid kid') {i z : Nat} {ks : List S35} (h : Eb L i ks z) : i ≤ L.length → ∀ m : Nat, ks[m]? = some kid →
    ∃ ks', Eb M (bl M i) ks' (c1 + (z - e1)) ∧ Kr L M b1 e1 c1 m kid' ks ks' := by
  obtain ⟨nk, hkv⟩ := hK.v
  have hkp := val_pos hkv
  have hlb := hK.lb
  have hle := hK.le
  have hel := hK.el
  have H1 := H.le
  induction h with
  | last i n e p hv h93 =>
    intro hi m hm
    have hve := (v_lt n).1 _ _ _ hi hv
    have hb3 := bl_le L e hve.2
    have h93l := h93.1
    obtain rfl : m = 0 := by
      cases m with
      | zero => rfl
      | succ m => simp at hm
    obtain rfl : p = kid := by simpa using hm
    have hvp := val_pos hv
    obtain rfl : b = i := by omega
    obtain rfl : ek = e := by omega
    obtain ⟨n', hv'⟩ := hK.v'
    have g6 := H.s_bl (i := ek) (by omega) (by omega) (by omega)
    rw [← hK.ee] at g6
    have g7 := H.s_at (by omega) h93
    rw [← g6] at g7
    rw [hK.bb]
    refine ⟨_, ?_, .zero .nil⟩
    rw [show c1 + (bl L ek + 1 - e1) = c1 + (bl L ek - e1) + 1 by omega, ← g6]
    exact .last _ n' _ _ hv' g7
  | more i n e z p ks1 hv h44 hr ih =>
    intro hi m hm
    have hve := (v_lt n).1 _ _ _ hi hv
    have hb3 := bl_le L e hve.2
    have h44l := h44.1
    have hb4 := bl_le L (bl L e + 1) (by omega)
    have hkk := hr.kid hb4.2
    cases m with
    | zero =>
      obtain rfl : p = kid := by simpa using hm
      have hvp := val_pos hv
      obtain rfl : b = i := by omega
      obtain rfl : ek = e := by omega
      obtain ⟨n', hv'⟩ := hK.v'
      obtain ⟨ks2, hM, a2⟩ := hr.after H (by omega) hb4.2
      have g6 := H.s_bl (i := ek) (by omega) (by omega) (by omega)
      rw [← hK.ee] at g6
      have g7 := H.s_at (by omega) h44
      rw [← g6] at g7
      have g8 := H.s_bl (i := bl L ek + 1) (by omega) (by omega) (by omega)
      rw [← g8, show c1 + (bl L ek + 1 - e1) = c1 + (bl L ek - e1) + 1 by omega, ← g6] at hM
      rw [hK.bb]
      exact ⟨_, .more _ n' _ _ _ ks2 hv' g7 hM, .zero a2⟩
    | succ m =>
      have hm' : ks1[m]? = some kid := by simpa using hm
      obtain ⟨kb, ke, q1, q2, q3, q4, q5⟩ := hkk.2.2 m kid hm'
      obtain rfl : b = kb := by omega
      obtain rfl : ek = ke := by omega
      obtain ⟨ks2, hM, a2⟩ := ih hb4.2 m hm'
      obtain ⟨p', hT⟩ := H.p_val hi hv (by omega) (dl_of (.inl h44.2))
      obtain ⟨n', hv'⟩ := hT.v'
      have g6 := H.p_bl (i := e) (by omega) (by omega)
      have g7 := H.p_at (by omega) h44
      have g8 := H.p_thru (i := bl L e + 1) (by omega) (by omega)
      have hii : bl M i = i := bl_stop (by
        have := H.pre.g i (by omega)
        rw [Nat.zero_add] at this
        rw [← this]
        exact val_nb hv hi)
      rw [show i + (e - i) = e by omega] at hv'
      rw [← g6] at g7
      rw [← g8, ← g6] at hM
      rw [hii]
      exact ⟨_, .more i n' e _ p' ks2 hv' g7 hM, a2.succ ⟨_, _, _, hT, .inl ⟨by omega, rfl⟩⟩⟩
end
end Go.Proofs.YtgbliniamkpocaaDoor.Pure
