/- Texts of this claim, laid together. -/
import Derived.Test.YtgbliniamkpocaaDoorJpUncT
import Derived.Test.YtgbliniamkpocaaDoorG3
import Derived.Test.YtgbliniamkpocaaDoorG2
import Derived.Test.YtgbliniamkpocaaDoorG6
/- jsonparser.unescapeConfig over a buffer of any size. -/
namespace Go.Proofs.YtgbliniamkpocaaDoor.Jp
open Go.RowKit Go.Proofs.YtgbliniamkpocaaDoorW.PrintWords Go.Proofs.YtgbliniamkpocaaDoor.Kit

theorem unc_c (A : Option Addr) (c : Nat) (l : List Int) (w : World) (hr : ReadsInt w .u8 A l.length l) (hlc : l.length ≤ c) (hA0 : A = none → c = 0) (hb : ∀ x ∈ l, 0 ≤ x ∧ x ≤ 255)
    (g n : Nat) (hB : BO w g n []) (hg3 : g ≠ 3) (hg4 : g ≠ 4) (hA : ∀ a, A = some a → a.block ≠ g) (hlim : l.length ≤ 140737488351232) (hT : Tab w) (hE : Err3 w) :
    Calls Tryd.prog 44 #[cfg, .slice A l.length c, .slice (some ⟨g, 0, none⟩) n n] w fun e w' => UnPost w g l e w' := by
  by_cases hp : bs0 l = l.length
  · exact unc_plain A c l w hr hlc hA0 hb hp _ g
  · by_cases hcap : n < l.length
    · exact unc_make A c l w hr hlc hb hp g _ n n hcap hlim hT hE
    · exact unc_reuse A c l w hr hlc hb hp g n n (by omega) hB hg3 hg4 hA hT hE
/-- What is unescaped is bytes. -/
theorem enc_byte {r : Int} (h0 : 0 ≤ r) (h1 : r ≤ 1114111) : ∀ x ∈ Lib.encodeRuneZ r, 0 ≤ x ∧ x ≤ 255 := by
  intro x hx
  unfold Lib.encodeRuneZ at hx
  repeat' split at hx
  all_goals (simp only [List.mem_cons, List.not_mem_nil, or_false] at hx; omega)
theorem u1_byte {l bs : List Int} {m : Nat} (h : u1 l = some (m, bs)) : ∀ x ∈ bs, 0 ≤ x ∧ x ≤ 255 := by
  unfold u1 at h
  split at h
  · cases h
  · split at h
    · rename_i hs
      simp only [Option.some.injEq, Prod.mk.injEq] at h
      obtain ⟨_, rfl⟩ := h
      intro x hx
      simp only [List.mem_cons, List.not_mem_nil, or_false] at hx
      subst hx
      unfold isSh at hs
      unfold sh
      repeat' split
      all_goals omega
    · split at h
      · split at h
        · cases h
        · simp only [Option.some.injEq, Prod.mk.injEq] at h
          obtain ⟨_, rfl⟩ := h
          have hd := dec_range l
          exact enc_byte hd.1 hd.2.1
      · cases h
theorem un_byte : ∀ (d : Nat) (l r : List Int), l.length ≤ d → (∀ x ∈ l, 0 ≤ x ∧ x ≤ 255) → un l = some r → ∀ x ∈ r, 0 ≤ x ∧ x ≤ 255 := by
  intro d
  induction d with
  | zero =>
    intro l r hd hb h
    obtain rfl : l = [] := List.eq_nil_of_length_eq_zero (by omega)
    rw [un_nil] at h
    injection h with h
    subst h
    intro x hx
    simp at hx
  | succ d ih =>
    intro l r hd hb h
    cases l with
    | nil =>
      rw [un_nil] at h
      injection h with h
      subst h
      intro x hx
      simp at hx
    | cons c l =>
      by_cases hc : c = 92
      · subst hc
        cases hu : u1 (92 :: l) with
        | none =>
          rw [un_none hu] at h
          cases h
        | some mb =>
          obtain ⟨m, bs⟩ := mb
          have hm := u1_le hu
          rw [un_some hu] at h
          obtain ⟨r2, hr2, rfl⟩ := Option.map_eq_some_iff.1 h
          have h2 := ih _ r2 (by rw [List.length_drop]; omega) (fun x hx => hb x (List.mem_of_mem_drop hx)) hr2
          intro x hx
          rcases List.mem_append.1 hx with hx | hx
          · exact u1_byte hu x hx
          · exact h2 x hx
      · rw [un_cons l hc] at h
        obtain ⟨r2, hr2, rfl⟩ := Option.map_eq_some_iff.1 h
        have h2 := ih l r2 (by simp only [List.length_cons] at hd; omega) (fun x hx => hb x (by simp [hx])) hr2
        intro x hx
        rcases List.mem_cons.1 hx with rfl | hx
        · exact hb _ (by simp)
        · exact h2 x hx
end Go.Proofs.YtgbliniamkpocaaDoor.Jp
/- What the search for keys finds, in plain words: names, indices, the elements of an array. -/
namespace Go.Proofs.YtgbliniamkpocaaDoor.Jp

/-- The bytes from a to b. -/
def cutI (L : List Int) (a b : Nat) : List Int := (L.take b).drop a
def decI (l : List Int) : Nat := l.foldl (fun a c => 10 * a + (c - 48).toNat) 0
/-- A key "[k]" of at most 18 digits. -/
def Brk (key : List Int) (k : Nat) : Prop :=
  3 ≤ key.length ∧ key.length ≤ 20 ∧ gb key 0 = 91 ∧ gb key (key.length - 1) = 93 ∧ (∀ x ∈ cutI key 1 (key.length - 1), 48 ≤ x ∧ x ≤ 57) ∧ decI (cutI key 1 (key.length - 1)) = k
/-- What the search needs of keys and a text. -/
def skS (keys : List (List Int)) (L : List Int) (at_ : Nat → Nat → Int) : Sk where
  lk := keys.length
  bad := fun a b => (un (cutI L a b)).isNone
  eq := fun a b n => decide (un (cutI L a b) = some (keys.getD n []))
  ix := fun n => decide (gb (keys.getD n []) 0 = 91)
  at_ := at_
/-- The elements of an array from o on, blanks ahead: begin, end and kind of each. -/
inductive ElsFrom (D : List Int) : Nat → List (Nat × Nat × Int) → Prop
  | last (o q e : Nat) (k : Int) : o ≤ D.length → bl (D.drop o) 0 = q → Gtv (D.drop o) q k e → (k = 1 ∧ q + 2 ≤ e ∨ k ≠ 1 ∧ q < e) → o + e ≤ D.length → bl D (o + e) < D.length → gb D (bl D (o + e)) = 93 → ElsFrom D o [(o + q, o + e, k)]
  | more (o q e : Nat) (k : Int) (es : List (Nat × Nat × Int)) : o ≤ D.length → bl (D.drop o) 0 = q → Gtv (D.drop o) q k e → (k = 1 ∧ q + 2 ≤ e ∨ k ≠ 1 ∧ q < e) → o + e ≤ D.length → bl D (o + e) < D.length → gb D (bl D (o + e)) = 44 →
      ElsFrom D (bl D (o + e) + 1) es → ElsFrom D o ((o + q, o + e, k) :: es)
def Els (D : List Int) (es : List (Nat × Nat × Int)) : Prop :=
  gb D 0 = 91 ∧ bl D 1 < D.length ∧ (gb D (bl D 1) = 93 ∧ es = [] ∨ gb D (bl D 1) ≠ 93 ∧ ElsFrom D (bl D 1) es)
mutual
/-- The search for keys in a text gives z. -/
inductive Fnd : List (List Int) → List Int → Int → Prop
  | nil (L : List Int) : Fnd [] L 0
  | mk (keys : List (List Int)) (L : List Int) (z : Int) (at_ : Nat → Nat → Int) : keys ≠ [] → (∀ i n, at_ i n ≠ -7 → Ixr keys L i n (at_ i n)) → sk (skS keys L at_) L 0 0 0 true = z → z ≠ -7 → Fnd keys L z
/-- At an array at i key number n, an index, gives r. -/
inductive Ixr : List (List Int) → List Int → Nat → Nat → Int → Prop
  | far (keys : List (List Int)) (L : List Int) (i n k : Nat) (es : List (Nat × Nat × Int)) : Brk (keys.getD n []) k → Els (L.drop i) es → es.length ≤ k → Ixr keys L i n (-1)
  | miss (keys : List (List Int)) (L : List Int) (i n k b e : Nat) (t z : Int) (es : List (Nat × Nat × Int)) : Brk (keys.getD n []) k → Els (L.drop i) es → es[k]? = some (b, e, t) → Fnd (keys.drop (n + 1)) (cutI L (i + b) (i + e)) z → z < 0 → Ixr keys L i n (-1)
  | at_ (keys : List (List Int)) (L : List Int) (i n k b e z : Nat) (t : Int) (es : List (Nat × Nat × Int)) : Brk (keys.getD n []) k → Els (L.drop i) es → es[k]? = some (b, e, t) → Fnd (keys.drop (n + 1)) (cutI L (i + b) (i + e)) z → Ixr keys L i n ((i + b + z : Nat) : Int)
end
end Go.Proofs.YtgbliniamkpocaaDoor.Jp
/- jsonparser.internalGetConfig and Config.Get without keys, with the value. -/
namespace Go.Proofs.YtgbliniamkpocaaDoor.Jp
open Go.RowKit Go.Proofs.YtgbliniamkpocaaDoorW.PrintWords Go.Proofs.YtgbliniamkpocaaDoor.Kit

/-- What internalGet hands back of the value of kind k from b to e. -/
def IgW (w : World) (l : List Int) (k : Int) (b e : Nat) (e' : Ending) (w' : World) : Prop :=
  Below w.heap.size w w' ∧ ∃ A' n c', e' = .returned (.tuple #[.slice A' n c', .int .i64 k, .int .i64 b, .int .i64 e, .nilIface]) ∧
    ReadsInt w' .u8 A' n (if k = 1 then (((l.take e).drop b).drop 1).take (e - b - 1 - 1) else (l.take e).drop b) ∧ (k ≠ 1 → n ≤ c')
set_option pp.maxSteps 3000
set_option maxHeartbeats 8000000 in
set_option maxRecDepth 100000 in
theorem ig_v (A : Option Addr) (c : Nat) (l : List Int) (w : World) (hr : ReadsInt w .u8 A l.length l) (hlc : l.length ≤ c) (hby : ∀ x ∈ l, 0 ≤ x ∧ x ≤ 255) (hlm : l.length ≤ 140737488355328) (hE : Errs w) (b e : Nat) (k : Int) (hbl : bl l 0 = b) (hb : b < l.length)
    (hk : (k = 1 ∧ b + 2 ≤ e) ∨ (k ≠ 1 ∧ b < e)) (hel : e ≤ l.length) (hgv : Gtv l b k e) :
    Calls Tryd.prog 68 #[cfg, .slice A l.length c, .slice none 0 0] w fun e' w' => IgW w l k b e e' w' := by
  have hG : ∀ W : World, ReadsInt W .u8 A l.length l → Errs W → Calls Tryd.prog 85 #[cfg, .slice A l.length c, .int .i64 b] W fun e' w' => GtPost W c l b k (some e) e' w' := fun W h1 h2 => gt_all A c l b W h1 hlc hby hlm hb h2 k e hgv
  have hll : l.length ≤ 9223372036854775807 := hr.2.1
  have hlb : (l.length : Int) ≤ 140737488355328 := by omega
  have hba : Below w.heap.size w (w.alloc (.cells #[.bool false, .bool false, .int .i64 0] 80)) := (Below.refl _ _).alloc (Nat.le_refl _) _
  obtain ⟨c0, c1, c2⟩ := CfgAt.box w
  obtain ⟨i5, hi5, hz5, hsz5, hby5⟩ : ∃ i, Tryd.prog.info? 5 = some i ∧ i.zero = some (.int .u8 0) ∧ i.size = 1 ∧ i.bytes = 1 := ⟨_, rfl, rfl, rfl, rfl⟩
  obtain ⟨A', hs1, hs2⟩ := print_cut (P := Tryd.prog) 57 5 .i64 Tryd.underlying57 hi5 hsz5 A l.length c 0 (Nat.zero_le _)
  have hs1' : ∀ W : World, (Instr.slice 57 (.slice A l.length c) (some (.int .i64 0)) none none).run Tryd.prog W = .ok (.slice A' l.length c) W := fun W => by have := hs1 W; simpa using this
  have hNT : Hid (∀ W : World, ReadsInt W .u8 A l.length l → Calls Tryd.prog 70 #[cfg, .slice A' l.length c] W fun e w' => e = .returned (.int .i64 b) ∧ Below W.heap.size W w') :=
    Lib.hid (fun W hW => (nt_c A' c l W (by simpa using hs2 W .u8 l hlc hW) hlc hlm).mono (fun e w' h => ⟨h.1.trans (by rw [nt, hbl, if_pos hb]), h.2⟩))
  have kpd : KpI A l w (w.alloc (.cells #[.bool false, .bool false, .int .i64 0] 80)).drew := ⟨hr.below hba.drew, hba.drew, hE.below hba.drew⟩
  have hrd : ReadsInt (w.alloc (.cells #[.bool false, .bool false, .int .i64 0] 80)).drew .u8 A l.length l := hr.below hba.drew
  have HG := Lib.hid hG
  have hnb : ((b : Int) == -1) = false := by simp
  clear hs1 hs2 hE hr hba hi5 hz5 hsz5 hby5 hG hbl hgv hby
  unfold cfg at hNT HG ⊢
  go_enter Tryd.func68, Tryd.ntmps68
  go_upto_region 5 with (fail)
  go_region_held3 (fun w' => w'.cell? ⟨w.heap.size, 0, none⟩ = some (.bool false) ∧ w'.cell? ⟨w.heap.size, 1, none⟩ = some (.bool false) ∧ w'.cell? ⟨w.heap.size, 2, none⟩ = some (.int .i64 0) ∧ KpI A l w w')
    (first | exact ⟨c0, c1, c2, kpd⟩ | exact ⟨d0, d1, d2, kp2⟩)
    (first | (go_at_call 70; (with_reducible refine (hNT.out _ hrd).mono ?_); rintro e w2 ⟨rfl, hb2⟩; obtain ⟨d0, d1, d2, kp2⟩ := ig_step (w := w) (w1 := (w.alloc (.cells #[.bool false, .bool false, .int .i64 0] 80)).drew) ⟨c0, c1, c2⟩ kpd hb2))
  have HK := Lib.hid kp2
  clear c0 c1 c2 kp2 kpd hrd hNT hb2 hs1'
  have HG2 := Lib.hid (HG.out w2 HK.out.1 HK.out.2.2)
  clear HG
  rcases hk with ⟨rfl, hk1⟩ | ⟨hk1, hk2⟩
  · go_wp2_with (go_at_call 85; (with_reducible refine HG2.out.mono ?_); rintro e3 w3 ⟨hb3, A3, rfl, hr3⟩; have HR3 := Lib.hid hr3; clear hr3)
    all_goals (
      ((try simp only [Exit.inBlock, Exit.then]); refine bodyPost_ret (res5 rfl _ _ _) rfl ?_)
      refine ⟨HK.out.2.1.trans (hb3.mono HK.out.2.1.size), ?_⟩
      rw [if_pos rfl]
      have hr1 := HR3.out.drop_ (c := e - b + 1) 1 (by omega) (by omega)
      rw [if_neg (show ¬ e - b + 1 = 1 by omega)] at hr1
      have hr2 := hr1.take_ (e - b - 1 - 1) (by omega))
    · have h0 : e - b - 1 - 1 = 0 := by omega
      rw [h0]
      exact ⟨_, 0, 0, by push_cast; rfl, ⟨rfl, by simp, fun h => by omega⟩, fun h => absurd rfl h⟩
    · exact ⟨_, _, _, by push_cast; rfl, hr2, fun h => absurd rfl h⟩
  · have ek : (k == 1) = false := by simpa using hk1
    go_wp2_with (go_at_call 85; (with_reducible refine HG2.out.mono ?_); rintro e3 w3 ⟨hb3, A3, rfl, hr3⟩; have HR3 := Lib.hid hr3; clear hr3)
    all_goals (
      ((try simp only [Exit.inBlock, Exit.then]); refine bodyPost_ret (res5 rfl _ _ _) rfl ?_)
      refine ⟨HK.out.2.1.trans (hb3.mono HK.out.2.1.size), ?_⟩
      rw [if_neg hk1]
      exact ⟨_, _, _, by push_cast; rfl, HR3.out, fun _ => by omega⟩)
/-- What Config.Get hands back. -/
def CgV (w : World) (l : List Int) (k : Int) (b e : Nat) (e' : Ending) (w' : World) : Prop :=
  Below w.heap.size w w' ∧ ∃ A' n c', e' = .returned (.tuple #[.slice A' n c', .int .i64 k, .int .i64 e, .nilIface]) ∧
    ReadsInt w' .u8 A' n (if k = 1 then (((l.take e).drop b).drop 1).take (e - b - 1 - 1) else (l.take e).drop b) ∧ (k ≠ 1 → n ≤ c')
set_option maxHeartbeats 8000000 in
set_option maxRecDepth 100000 in
theorem cget_c (A : Option Addr) (c : Nat) (l : List Int) (w : World) (hr : ReadsInt w .u8 A l.length l) (hlc : l.length ≤ c) (hby : ∀ x ∈ l, 0 ≤ x ∧ x ≤ 255) (hlm : l.length ≤ 140737488355328) (hE : Errs w) (b e : Nat) (k : Int) (hbl : bl l 0 = b) (hb : b < l.length)
    (hk : (k = 1 ∧ b + 2 ≤ e) ∨ (k ≠ 1 ∧ b < e)) (hel : e ≤ l.length) (hgv : Gtv l b k e) :
    Calls Tryd.prog 94 #[cfg, .slice A l.length c, .slice none 0 0] w fun e' w' => CgV w l k b e e' w' := by
  have hba : Below w.heap.size w (w.alloc (.cells #[.bool false, .bool false, .int .i64 0] 80)) := (Below.refl _ _).alloc (Nat.le_refl _) _
  obtain ⟨c0, c1, c2⟩ := CfgAt.box w
  have HG := Lib.hid (ig_v A c l (w.alloc (.cells #[.bool false, .bool false, .int .i64 0] 80)) (hr.below hba) hlc hby hlm (hE.below hba) b e k hbl hb hk hel hgv)
  have HB := Lib.hid hba
  clear hr hE hby hgv hba
  unfold cfg at HG ⊢
  go_enter Tryd.func94, Tryd.ntmps94
  go_wp2_with (go_at_call 68; (with_reducible refine HG.out.mono ?_); rintro e3 w3 ⟨hb3, A3, n3, c3, rfl, hr3, hn3⟩; have HR3 := Lib.hid hr3; have HN3 := Lib.hid hn3; clear hr3 hn3)
  ((try simp only [Exit.inBlock, Exit.then]); refine bodyPost_ret (res4 rfl _ _ _) rfl ?_)
  exact ⟨HB.out.trans (hb3.mono HB.out.size), A3, n3, c3, rfl, HR3.out, HN3.out⟩
end Go.Proofs.YtgbliniamkpocaaDoor.Jp
