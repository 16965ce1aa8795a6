/- No text that is cut off from the end of an array, an object or a string that is a JSON text is valid, and with blanks ahead and behind a valid text is valid (of at most 2^16 bytes). -/
import Derived.Test.YtphpjboljlkdkaaPureFnGjValidCutB
namespace Go.Proofs.Ytphpjboljlkdkaa.Pure
open Go.RowKit Go.Proofs.Ytphpjboljlkdkaa.PFnGjValidCut Go.Proofs.YtphpjboljlkdkaaW.PrintWords Go.Proofs.YtphpjboljlkdkaaW.PrintLast
/-! ### Valid -/
section
variable {L : List Int} (hL : L.length ≤ 1099511627776)
include hL in
theorem pay0_skip {r : Int × Bool} : ∀ (d a : Nat), L.length - a ≤ d → a ≤ L.length → Ev (fun k => gjson_validpayload.l0 k L ((bl L a : Nat) : Int)) r → Ev (fun k => gjson_validpayload.l0 k L (a : Int)) r := by
  intro d
  induction d with
  | zero =>
    intro a hd ha h
    rw [bl_end (by omega)] at h
    exact h
  | succ d ih =>
    intro a hd ha h
    by_cases hb : isBlank (gb L a)
    · have hlt := blank_in hb
      rw [bl_yes hb] at h
      refine Ev.step (f := fun k => gjson_validpayload.j1 k L a (decide (isBlank (gb L a)))) (fun k => ?_) (Ev.step (fun k => ?_) (ih (a + 1) (by omega) (by omega) h))
      · simp only [gjson_validpayload.l0]
        rw [if_pos (by omega), if_pos (by omega), rd_gb]
        exact blank_ite (gb L a) (fun b => gjson_validpayload.j1 k L a b)
      · rw [decide_eq_true hb]
        simp only [gjson_validpayload.j1, if_true]
        rw [wr (by omega)]
    · rw [bl_no hb] at h
      exact h
include hL in
theorem pay1_ev : ∀ (d a : Nat), L.length - a ≤ d → a ≤ L.length → Ev (fun k => gjson_validpayload.l1 k L (a : Int)) (((bl L a : Nat) : Int), decide (bl L a = L.length)) := by
  intro d
  induction d with
  | zero =>
    intro a hd ha
    rw [bl_end (by omega), decide_eq_true (by omega)]
    refine Ev.step (f := fun _ => some ((a : Int), true)) (fun k => ?_) (Ev.now _)
    simp only [gjson_validpayload.l1]
    rw [if_neg (by omega)]
  | succ d ih =>
    intro a hd ha
    by_cases hlt : a < L.length
    · by_cases hb : isBlank (gb L a)
      · rw [bl_yes hb]
        refine Ev.step (fun k => ?_) (ih (a + 1) (by omega) (by omega))
        simp only [gjson_validpayload.l1]
        rw [if_pos (by omega), if_pos (by omega), rd_gb, wr (by omega)]
        rcases hb with h | h | h | h <;> simp [h]
      · rw [bl_no hb, decide_eq_false (by omega)]
        refine Ev.step (f := fun _ => some ((a : Int), false)) (fun k => ?_) (Ev.now _)
        simp only [gjson_validpayload.l1]
        unfold isBlank at hb
        rw [if_pos (by omega), if_pos (by omega), rd_gb, if_neg (by omega), if_neg (by omega), if_neg (by omega), if_neg (by omega)]
    · rw [bl_end (by omega), decide_eq_true (by omega)]
      refine Ev.step (f := fun _ => some ((a : Int), true)) (fun k => ?_) (Ev.now _)
      simp only [gjson_validpayload.l1]
      rw [if_neg (by omega)]
include hL in
theorem pay_ev : ∃ x, Ev (fun k => gjson_validpayload.f k L 0) (x, (places L).isSome) := by
  have hb := bl_le L 0 (by omega)
  have hnb := bl_not L _ 0 (Nat.le_refl _)
  have hsk := fun r => pay0_skip hL (r := r) _ 0 (Nat.le_refl _) (by omega)
  obtain ⟨r, hr, hc, hl⟩ := gvalue_ok hL (bl L 0) hb.2 hnb
  have hc := hc _ (Nat.le_refl _) (bl_no hnb)
  unfold places
  generalize bl L 0 = i at hb hnb hsk hr hc hl
  have hv := hr (3 * L.length + 3) (by omega)
  by_cases hlt : i < L.length
  case neg =>
    rw [val_far (by omega) hb.2]
    refine ⟨(i : Int), hsk _ (Ev.step (fun k => ?_) (Ev.now _))⟩
    simp only [gjson_validpayload.l0]
    rw [if_neg (by omega)]
    rfl
  have hgo : ∀ x, Ev (fun k => (gjson_validany.f k L (i : Int)).bind fun b => if b.2 = true then gjson_validpayload.l1 k L b.1 else some (b.1, false)) x → Ev (fun k => gjson_validpayload.f k L 0) x := by
    intro x hx
    refine hsk x (Ev.step (f := fun k => gjson_validpayload.j1 k L i false) (fun k => ?_) (Ev.step (fun k => ?_) hx))
    · simp only [gjson_validpayload.l0]
      rw [if_pos (by omega), if_pos (by omega), rd_gb]
      have := blank_ite (gb L i) (fun b => gjson_validpayload.j1 k L i b)
      rw [decide_eq_false hnb] at this
      exact this
    · simp only [gjson_validpayload.j1, Bool.false_eq_true, if_false]
  cases r with
  | none =>
    obtain ⟨a, ha⟩ := hc
    rw [Option.map_eq_none_iff.mp hv]
    exact ⟨a, hgo _ (Ev.bind ha (Ev.congr (fun k => if_neg (by simp)) (Ev.now _)))⟩
  | some e =>
    have hle := hl e rfl
    obtain ⟨⟨p, e'⟩, h1, h2⟩ := Option.map_eq_some_iff.mp hv
    simp only at h2
    subst h2
    rw [h1]
    have h3 := pay1_ev hL _ e' (Nat.le_refl _) (by omega)
    refine ⟨((bl L e' : Nat) : Int), hgo _ (Ev.bind hc (Ev.congr (fun k => if_pos rfl) ?_))⟩
    by_cases h : bl L e' = L.length
    · rw [decide_eq_true h] at h3
      simp only [if_pos h]
      exact h3
    · rw [decide_eq_false h] at h3
      simp only [if_neg h]
      exact h3
end
theorem valid_ev (s : ByteArray) (hs : s.size ≤ 1099511627776) : Ev (fun k => impl_GjValid.f k s) (places (Kit.nums s)).isSome := by
  obtain ⟨x, hx⟩ := pay_ev (L := Kit.nums s) (by rw [Kit.nums_len]; exact hs)
  unfold impl_GjValid.f gjson_Valid.f
  refine Ev.congr (fun k => ?_) (Ev.bind (f := fun _ b => some b.2) hx (Ev.now _))
  rw [if_pos (by omega)]
  cases gjson_validpayload.f k (Kit.nums s) 0 <;> rfl
/-! ### Blanks ahead and behind; a cut -/
theorem bl_tail {L M : List Int} {o : Nat} (hE : ∀ i, i < L.length → gb M (i + o) = gb L i) (hM : M.length = L.length + o + 1) (hb : isBlank (gb M (L.length + o))) : ∀ (d i : Nat), L.length - i ≤ d → i ≤ L.length → bl L i = L.length → bl M (i + o) = M.length := by
  intro d
  induction d with
  | zero =>
    intro i hd hi h
    obtain rfl : i = L.length := by omega
    rw [bl_yes hb, bl_end (by omega)]
    omega
  | succ d ih =>
    intro i hd hi h
    by_cases hlt : i < L.length
    · by_cases h1 : isBlank (gb L i)
      · rw [bl_yes h1] at h
        rw [bl_yes (show isBlank (gb M (i + o)) by rw [hE i hlt]; exact h1), show i + o + 1 = (i + 1) + o by omega]
        exact ih (i + 1) (by omega) (by omega) h
      · rw [bl_no h1] at h
        omega
    · obtain rfl : i = L.length := by omega
      rw [bl_yes hb, bl_end (by omega)]
      omega
theorem places_val {L : List Int} (hL : L.length ≤ 1099511627776) {p : S25} (h : places L = some p) : ∃ e, bl L 0 < L.length ∧ e ≤ L.length ∧ p.f2 = (e : Int) ∧ bl L e = L.length ∧ val L (3 * L.length + 3) (bl L 0) = some (p, e) ∧ ∀ n, 3 * L.length + 3 ≤ n → ∃ p', val L n (bl L 0) = some (p', e) := by
  have hb := bl_le L 0 (by omega)
  have hnb := bl_not L _ 0 (Nat.le_refl _)
  unfold places at h
  split at h
  · cases h
  · rename_i q e hv
    split at h
    · rename_i he
      injection h with h
      subst h
      obtain ⟨r, hr, _, hl⟩ := gvalue_ok hL (bl L 0) hb.2 hnb
      have h0 := hr (3 * L.length + 3) (by omega)
      rw [hv] at h0
      have hle := hl e h0.symm
      refine ⟨e, by omega, hle.2, val_end hv, he, hv, fun n hn => ?_⟩
      have h1 := hr n (by omega)
      rw [← h0] at h1
      obtain ⟨⟨p', e'⟩, h2, h3⟩ := Option.map_eq_some_iff.mp h1
      simp only at h3
      subst h3
      exact ⟨p', h2⟩
    · cases h
theorem val_to_places {M : List Int} (hM : M.length ≤ 1099511627776) {n e : Nat} {p : S25} (hv : val M n (bl M 0) = some (p, e)) (hn : 3 * M.length + 3 ≤ n) (he : bl M e = M.length) : (places M).isSome = true := by
  have hb := bl_le M 0 (by omega)
  have hnb := bl_not M _ 0 (Nat.le_refl _)
  obtain ⟨r, hr, _, _⟩ := gvalue_ok hM (bl M 0) hb.2 hnb
  have h0 := hr n (by omega)
  rw [hv] at h0
  have h1 := hr (3 * M.length + 3) (by omega)
  rw [← h0] at h1
  obtain ⟨⟨p', e'⟩, h2, h3⟩ := Option.map_eq_some_iff.mp h1
  simp only at h3
  subst h3
  unfold places
  rw [h2]
  simp only [he, if_true]
  rfl
theorem blanks_valid {L : List Int} {c d : Int} (hL : L.length ≤ 1000000) (hc : isBlank c) (hd : isBlank d) {p : S25} (h : places L = some p) : (places ((c :: L) ++ [d])).isSome = true := by
  obtain ⟨e, hi, he, _, hbe, _, hv⟩ := places_val (by omega) h
  have hE : ∀ i, i < L.length → gb ((c :: L) ++ [d]) (i + 1) = gb L i := fun i hi => by
    simp [gb, List.getD, List.getElem?_append_left hi]
  have hM : ((c :: L) ++ [d]).length = L.length + 1 + 1 := by simp
  have hd' : isBlank (gb ((c :: L) ++ [d]) (L.length + 1)) := by
    have : gb ((c :: L) ++ [d]) (L.length + 1) = d := by simp [gb, List.getD]
    rw [this]
    exact hd
  have hc' : isBlank (gb ((c :: L) ++ [d]) 0) := hc
  obtain ⟨p', hp'⟩ := hv (3 * ((c :: L) ++ [d]).length + 3) (by omega)
  obtain ⟨q, hq⟩ := (e_all hE (by omega) _).1 _ _ _ hp' (.inr (.inl (by
    unfold isBlank at hd'
    unfold NumC isDig
    omega))) (by omega)
  have hb0 : bl ((c :: L) ++ [d]) 0 = bl L 0 + 1 := by
    rw [bl_yes hc']
    exact e_bl hE _ 0 (Nat.le_refl _) hi
  rw [← hb0] at hq
  exact val_to_places (by omega) hq (Nat.le_refl _) (bl_tail hE hM hd' _ e (Nat.le_refl _) he hbe)
theorem val_kind {L : List Int} {n i e : Nat} {p : S25} (h : val L n i = some (p, e)) (hk : 4 ≤ p.f0) : at_ L i 123 ∨ at_ L i 91 ∨ at_ L i 34 := by
  cases n with
  | zero => rw [val] at h; cases h
  | succ n =>
    rw [val] at h
    split at h
    · rename_i h1
      exact .inl h1
    split at h
    · rename_i h1
      exact .inr (.inl h1)
    split at h
    · rename_i h1
      exact .inr (.inr h1)
    split at h
    · obtain ⟨q, _, hq⟩ := Option.map_eq_some_iff.mp h
      simp only [Prod.mk.injEq] at hq
      obtain ⟨rfl, rfl⟩ := hq
      exact absurd hk (by simp)
    split at h
    · simp only [Option.some.injEq, Prod.mk.injEq] at h
      obtain ⟨rfl, rfl⟩ := h
      exact absurd hk (by simp)
    split at h
    · simp only [Option.some.injEq, Prod.mk.injEq] at h
      obtain ⟨rfl, rfl⟩ := h
      exact absurd hk (by simp)
    split at h
    · simp only [Option.some.injEq, Prod.mk.injEq] at h
      obtain ⟨rfl, rfl⟩ := h
      exact absurd hk (by simp)
    · cases h
theorem cut_invalid {L : List Int} (hL : L.length ≤ 1000000) {p : S25} (h : places L = some p) (hk : 4 ≤ p.f0) {c : Nat} (hc : (c : Int) < p.f2) : places (L.take c) = none := by
  obtain ⟨e, hi, he, hpe, hbe, hpv, hv⟩ := places_val (by omega) h
  cases hP : places (L.take c) with
  | none => rfl
  | some q =>
    exfalso
    have hl : (L.take c).length = c := by simp; omega
    obtain ⟨e1, hi1, he1, _, _, _, hv1⟩ := places_val (by omega) hP
    have hE : ∀ i, i < (L.take c).length → gb L (i + 0) = gb (L.take c) i := fun i hi => by
      unfold gb
      rw [List.getD_eq_getElem?_getD, List.getD_eq_getElem?_getD, List.getElem?_take_of_lt (by omega), Nat.add_zero]
    have hb0 : bl L 0 = bl (L.take c) 0 := e_bl hE _ 0 (Nat.le_refl _) hi1
    obtain ⟨p1, hp1⟩ := hv1 (3 * L.length + 3) (by omega)
    have hat := val_kind hpv hk
    have hat1 : at_ (L.take c) (bl (L.take c) 0) 123 ∨ at_ (L.take c) (bl (L.take c) 0) 91 ∨ at_ (L.take c) (bl (L.take c) 0) 34 := by
      have hg := hE _ hi1
      rw [Nat.add_zero, ← hb0] at hg
      rw [← hb0]
      rw [← hb0] at hi1
      exact hat.imp (fun h => ⟨hi1, by rw [← hg]; exact h.2⟩) (fun h => h.imp (fun h => ⟨hi1, by rw [← hg]; exact h.2⟩) (fun h => ⟨hi1, by rw [← hg]; exact h.2⟩))
    obtain ⟨q1, hq1⟩ := (e_all hE (by omega) _).1 _ _ _ hp1 (.inr (.inr hat1)) (by omega)
    simp only [Nat.add_zero] at hq1
    rw [← hb0, hpv] at hq1
    simp only [Option.some.injEq, Prod.mk.injEq] at hq1
    omega
theorem nums_app (a b : ByteArray) : Kit.nums (a ++ b) = Kit.nums a ++ Kit.nums b := by simp [Kit.nums]
theorem one_blank (a : Int) (h0 : 0 ≤ a) : ∃ m : Nat, Int.tmod a 4 = (m : Int) ∧ IntKind.u64.wrap ((m : Int) + 1) = ((m + 1 : Nat) : Int) ∧ m + 1 ≤ 4 ∧ ∃ c, isBlank c ∧ Kit.nums ((⟨#[32, 9, 10, 13]⟩ : ByteArray).extract m (m + 1)) = [c] := by
  have h1 := Int.tmod_nonneg 4 h0
  have h2 := Int.tmod_lt_of_pos a (show (0 : Int) < 4 by decide)
  obtain ⟨m, hm⟩ := Int.eq_ofNat_of_zero_le h1
  have hm4 : m < 4 := by omega
  refine ⟨m, hm, ?_, by omega, ?_⟩
  · show (((m : Int) + 1) % 18446744073709551616) = _
    omega
  · have : m = 0 ∨ m = 1 ∨ m = 2 ∨ m = 3 := by omega
    rcases this with rfl | rfl | rfl | rfl
    · exact ⟨32, .inl rfl, rfl⟩
    · exact ⟨9, .inr (.inl rfl), rfl⟩
    · exact ⟨10, .inr (.inr (.inl rfl)), rfl⟩
    · exact ⟨13, .inr (.inr (.inr rfl)), rfl⟩
theorem cut_go {a0 : ByteArray} {a1 a2 a3 : Int} (hs : a0.size ≤ 65536) (h2 : 0 ≤ a2) (h3 : 0 ≤ a3) {p : S25} (hP : places (Kit.nums a0) = some p) : Ev (fun k => laws_FnGjValidCut.j0 k a0 a1 a2 a3 false p.f0 p.f1 p.f2 p.f3 p.f4) true := by
  obtain ⟨m, m1, m2, m3, c, hc, hcn⟩ := one_blank a2 h2
  obtain ⟨n, n1, n2, n3, d, hd, hdn⟩ := one_blank a3 h3
  have hL := Kit.nums_len a0
  generalize hB : (⟨#[32, 9, 10, 13]⟩ : ByteArray).extract m (m + 1) = B at hcn
  generalize hD : (⟨#[32, 9, 10, 13]⟩ : ByteArray).extract n (n + 1) = D at hdn
  have hBs : B.size = 1 := by rw [← Kit.nums_len, hcn]; rfl
  have hDs : D.size = 1 := by rw [← Kit.nums_len, hdn]; rfl
  have hsz : ((B ++ a0) ++ D).size = a0.size + 2 := by rw [ByteArray.size_append, ByteArray.size_append]; omega
  have hv := valid_ev ((B ++ a0) ++ D) (by omega)
  rw [nums_app, nums_app, hcn, hdn, List.singleton_append, blanks_valid (by omega) hc hd hP] at hv
  refine Ev.step (f := fun k => (impl_GjValid.f k ((B ++ a0) ++ D)).bind fun t => if t = true then (if p.f0 < 4 then some true else if a1 < 0 then some true else if a1 ≥ p.f2 then some true else if 0 ≤ a1 then (if a1 ≤ (a0.size : Int) then (impl_GjValid.f k (a0.extract 0 (a1 : Int).toNat)).bind fun t => some (!t) else none) else none) else some false) (fun k => ?_) (Ev.bind hv ?_)
  · simp only [laws_FnGjValidCut.j0, Bool.false_eq_true, if_false]
    rw [m1, n1, m2, n2, Int.toNat_natCast, Int.toNat_natCast, Int.toNat_natCast, Int.toNat_natCast, hB, hD, if_pos (by omega), if_pos (by omega), if_pos (by omega), if_pos (by omega), if_pos (by omega), if_pos (by omega), if_pos (by omega), if_pos (by rw [ByteArray.size_append]; omega)]
  · refine Ev.congr (fun k => if_pos rfl) ?_
    by_cases c1 : p.f0 < 4
    · exact Ev.congr (fun k => if_pos c1) (Ev.now _)
    refine Ev.congr (fun k => if_neg c1) ?_
    by_cases c2 : a1 < 0
    · exact Ev.congr (fun k => if_pos c2) (Ev.now _)
    refine Ev.congr (fun k => if_neg c2) ?_
    by_cases c3 : a1 ≥ p.f2
    · exact Ev.congr (fun k => if_pos c3) (Ev.now _)
    refine Ev.congr (fun k => if_neg c3) ?_
    obtain ⟨j, rfl⟩ := Int.eq_ofNat_of_zero_le (show 0 ≤ a1 by omega)
    obtain ⟨e, _, he, hpe, _⟩ := places_val (by omega) hP
    refine Ev.congr (fun k => if_pos (by omega)) (Ev.congr (fun k => if_pos (by omega)) ?_)
    have hv2 := valid_ev (a0.extract 0 j) (by rw [ByteArray.size_extract]; omega)
    rw [Kit.nums_extract, List.drop_zero, Nat.sub_zero, cut_invalid (by omega) hP (by omega) (by omega)] at hv2
    rw [Int.toNat_natCast]
    exact Ev.bind hv2 (Ev.now _)
theorem FnGjValidCut : laws_FnGjValidCut.Pure := by
  intro a0 a1 a2 a3 _ _ w2 w3
  refine Ev.rounds (r := true) ?_
  unfold laws_FnGjValidCut.f
  by_cases c1 : (a0.size : Int) > 2147483647
  · exact Ev.congr (fun k => if_pos c1) (Ev.now _)
  refine Ev.congr (fun k => if_neg c1) ?_
  have hp := places_ev a0 (by omega)
  have jt : ∀ (a b c : Int) (d : List S51) (e : List S25), Ev (fun k => laws_FnGjValidCut.j0 k a0 a1 a2 a3 true a b c d e) true := fun a b c d e => Ev.step (fun k => by simp only [laws_FnGjValidCut.j0, if_true]) (Ev.now _)
  cases hP : places (Kit.nums a0) with
  | none =>
    rw [hP] at hp
    exact Ev.bind hp (jt _ _ _ _ _)
  | some p =>
    rw [hP] at hp
    refine Ev.bind hp ?_
    simp only [if_true]
    by_cases c2 : (a0.size : Int) > 65536
    · rw [decide_eq_true c2]
      exact jt _ _ _ _ _
    · rw [decide_eq_false c2]
      have h2 : 0 ≤ a2 := by
        simp only [Lit.wf, Bool.and_eq_true, decide_eq_true_eq] at w2
        exact w2.1
      have h3 : 0 ≤ a3 := by
        simp only [Lit.wf, Bool.and_eq_true, decide_eq_true_eq] at w3
        exact w3.1
      exact cut_go (by omega) h2 h3 hP
end Go.Proofs.Ytphpjboljlkdkaa.Pure
