/- Texts of this claim, laid together. -/
import Derived.Test.YtgbliniamkpocaaDoorJpUncT
import Derived.Test.YtgbliniamkpocaaDoorG4
import Derived.Test.YtgbliniamkpocaaDoorG3
import Derived.Test.YtgbliniamkpocaaDoorG7
/- jsonparser.unescapeConfig over a buffer of any size. -/
namespace Go.Proofs.YtgbliniamkpocaaDoor.Jp
open Go.RowKit Go.Proofs.YtgbliniamkpocaaDoorW.PrintWords Go.Proofs.YtgbliniamkpocaaDoor.Kit

theorem unc_c (A : Option Addr) (c : Nat) (l : List Int) (w : World) (hr : ReadsInt w .u8 A l.length l) (hlc : l.length ≤ c) (hA0 : A = none → c = 0) (hb : ∀ x ∈ l, 0 ≤ x ∧ x ≤ 255)
    (g n : Nat) (hB : BO w g n []) (hg3 : g ≠ 3) (hg4 : g ≠ 4) (hA : ∀ a, A = some a → a.block ≠ g) (hlim : l.length ≤ 140737488351232) (hT : Tab w) (hE : Err3 w) :
    Calls Tryd.prog 44 #[cfg, .slice A l.length c, .slice (some ⟨g, 0, none⟩) n n] w fun e w' => UnPost w g l e w' := by
  by_cases hp : bs0 l = l.length
  · exact unc_plain A c l w hr hlc hA0 hb hp _ g
  · by_cases hcap : n < l.length
    · exact unc_make A c l w hr hlc hb hp g _ n n hcap hlim hT hE
    · exact unc_reuse A c l w hr hlc hb hp g n n (by omega) hB hg3 hg4 hA hT hE
/-- What is unescaped is bytes. -/
theorem enc_byte {r : Int} (h0 : 0 ≤ r) (h1 : r ≤ 1114111) : ∀ x ∈ Lib.encodeRuneZ r, 0 ≤ x ∧ x ≤ 255 := by
  intro x hx
  unfold Lib.encodeRuneZ at hx
  repeat' split at hx
  all_goals (simp only [List.mem_cons, List.not_mem_nil, or_false] at hx; omega)
theorem u1_byte {l bs : List Int} {m : Nat} (h : u1 l = some (m, bs)) : ∀ x ∈ bs, 0 ≤ x ∧ x ≤ 255 := by
  unfold u1 at h
  split at h
  · cases h
  · split at h
    · rename_i hs
      simp only [Option.some.injEq, Prod.mk.injEq] at h
      obtain ⟨_, rfl⟩ := h
      intro x hx
      simp only [List.mem_cons, List.not_mem_nil, or_false] at hx
      subst hx
      unfold isSh at hs
      unfold sh
      repeat' split
      all_goals omega
    · split at h
      · split at h
        · cases h
        · simp only [Option.some.injEq, Prod.mk.injEq] at h
          obtain ⟨_, rfl⟩ := h
          have hd := dec_range l
          exact enc_byte hd.1 hd.2.1
      · cases h
theorem un_byte : ∀ (d : Nat) (l r : List Int), l.length ≤ d → (∀ x ∈ l, 0 ≤ x ∧ x ≤ 255) → un l = some r → ∀ x ∈ r, 0 ≤ x ∧ x ≤ 255 := by
  intro d
  induction d with
  | zero =>
    intro l r hd hb h
    obtain rfl : l = [] := List.eq_nil_of_length_eq_zero (by omega)
    rw [un_nil] at h
    injection h with h
    subst h
    intro x hx
    simp at hx
  | succ d ih =>
    intro l r hd hb h
    cases l with
    | nil =>
      rw [un_nil] at h
      injection h with h
      subst h
      intro x hx
      simp at hx
    | cons c l =>
      by_cases hc : c = 92
      · subst hc
        cases hu : u1 (92 :: l) with
        | none =>
          rw [un_none hu] at h
          cases h
        | some mb =>
          obtain ⟨m, bs⟩ := mb
          have hm := u1_le hu
          rw [un_some hu] at h
          obtain ⟨r2, hr2, rfl⟩ := Option.map_eq_some_iff.1 h
          have h2 := ih _ r2 (by rw [List.length_drop]; omega) (fun x hx => hb x (List.mem_of_mem_drop hx)) hr2
          intro x hx
          rcases List.mem_append.1 hx with hx | hx
          · exact u1_byte hu x hx
          · exact h2 x hx
      · rw [un_cons l hc] at h
        obtain ⟨r2, hr2, rfl⟩ := Option.map_eq_some_iff.1 h
        have h2 := ih l r2 (by simp only [List.length_cons] at hd; omega) (fun x hx => hb x (by simp [hx])) hr2
        intro x hx
        rcases List.mem_cons.1 hx with rfl | hx
        · exact hb _ (by simp)
        · exact h2 x hx
end Go.Proofs.YtgbliniamkpocaaDoor.Jp
/- What the search for keys finds, in plain words: names, indices, the elements of an array. -/
namespace Go.Proofs.YtgbliniamkpocaaDoor.Jp

/-- The bytes from a to b. -/
def cutI (L : List Int) (a b : Nat) : List Int := (L.take b).drop a
def decI (l : List Int) : Nat := l.foldl (fun a c => 10 * a + (c - 48).toNat) 0
/-- A key "[k]" of at most 18 digits. -/
def Brk (key : List Int) (k : Nat) : Prop :=
  3 ≤ key.length ∧ key.length ≤ 20 ∧ gb key 0 = 91 ∧ gb key (key.length - 1) = 93 ∧ (∀ x ∈ cutI key 1 (key.length - 1), 48 ≤ x ∧ x ≤ 57) ∧ decI (cutI key 1 (key.length - 1)) = k
/-- What the search needs of keys and a text. -/
def skS (keys : List (List Int)) (L : List Int) (at_ : Nat → Nat → Int) : Sk where
  lk := keys.length
  bad := fun a b => (un (cutI L a b)).isNone
  eq := fun a b n => decide (un (cutI L a b) = some (keys.getD n []))
  ix := fun n => decide (gb (keys.getD n []) 0 = 91)
  at_ := at_
/-- The elements of an array from o on, blanks ahead: begin, end and kind of each. -/
inductive ElsFrom (D : List Int) : Nat → List (Nat × Nat × Int) → Prop
  | last (o q e : Nat) (k : Int) : o ≤ D.length → bl (D.drop o) 0 = q → Gtv (D.drop o) q k e → (k = 1 ∧ q + 2 ≤ e ∨ k ≠ 1 ∧ q < e) → o + e ≤ D.length → bl D (o + e) < D.length → gb D (bl D (o + e)) = 93 → ElsFrom D o [(o + q, o + e, k)]
  | more (o q e : Nat) (k : Int) (es : List (Nat × Nat × Int)) : o ≤ D.length → bl (D.drop o) 0 = q → Gtv (D.drop o) q k e → (k = 1 ∧ q + 2 ≤ e ∨ k ≠ 1 ∧ q < e) → o + e ≤ D.length → bl D (o + e) < D.length → gb D (bl D (o + e)) = 44 →
      ElsFrom D (bl D (o + e) + 1) es → ElsFrom D o ((o + q, o + e, k) :: es)
def Els (D : List Int) (es : List (Nat × Nat × Int)) : Prop :=
  gb D 0 = 91 ∧ bl D 1 < D.length ∧ (gb D (bl D 1) = 93 ∧ es = [] ∨ gb D (bl D 1) ≠ 93 ∧ ElsFrom D (bl D 1) es)
mutual
/-- The search for keys in a text gives z. -/
inductive Fnd : List (List Int) → List Int → Int → Prop
  | nil (L : List Int) : Fnd [] L 0
  | mk (keys : List (List Int)) (L : List Int) (z : Int) (at_ : Nat → Nat → Int) : keys ≠ [] → (∀ i n, at_ i n ≠ -7 → Ixr keys L i n (at_ i n)) → sk (skS keys L at_) L 0 0 0 true = z → z ≠ -7 → Fnd keys L z
/-- At an array at i key number n, an index, gives r. -/
inductive Ixr : List (List Int) → List Int → Nat → Nat → Int → Prop
  | far (keys : List (List Int)) (L : List Int) (i n k : Nat) (es : List (Nat × Nat × Int)) : Brk (keys.getD n []) k → Els (L.drop i) es → es.length ≤ k → Ixr keys L i n (-1)
  | miss (keys : List (List Int)) (L : List Int) (i n k b e : Nat) (t z : Int) (es : List (Nat × Nat × Int)) : Brk (keys.getD n []) k → Els (L.drop i) es → es[k]? = some (b, e, t) → Fnd (keys.drop (n + 1)) (cutI L (i + b) (i + e)) z → z < 0 → Ixr keys L i n (-1)
  | at_ (keys : List (List Int)) (L : List Int) (i n k b e z : Nat) (t : Int) (es : List (Nat × Nat × Int)) : Brk (keys.getD n []) k → Els (L.drop i) es → es[k]? = some (b, e, t) → Fnd (keys.drop (n + 1)) (cutI L (i + b) (i + e)) z → Ixr keys L i n ((i + b + z : Nat) : Int)
end
end Go.Proofs.YtgbliniamkpocaaDoor.Jp
/- jsonparser.internalGetConfig and Config.Get without keys, with the value. -/
namespace Go.Proofs.YtgbliniamkpocaaDoor.Jp
open Go.RowKit Go.Proofs.YtgbliniamkpocaaDoorW.PrintWords Go.Proofs.YtgbliniamkpocaaDoor.Kit

/-- What internalGet hands back of the value of kind k from b to e. -/
def IgW (w : World) (l : List Int) (k : Int) (b e : Nat) (e' : Ending) (w' : World) : Prop :=
  Below w.heap.size w w' ∧ ∃ A' n c', e' = .returned (.tuple #[.slice A' n c', .int .i64 k, .int .i64 b, .int .i64 e, .nilIface]) ∧
    ReadsInt w' .u8 A' n (if k = 1 then (((l.take e).drop b).drop 1).take (e - b - 1 - 1) else (l.take e).drop b) ∧ (k ≠ 1 → n ≤ c')
set_option pp.maxSteps 3000
set_option maxHeartbeats 8000000 in
set_option maxRecDepth 100000 in
theorem ig_v (A : Option Addr) (c : Nat) (l : List Int) (w : World) (hr : ReadsInt w .u8 A l.length l) (hlc : l.length ≤ c) (hby : ∀ x ∈ l, 0 ≤ x ∧ x ≤ 255) (hlm : l.length ≤ 140737488355328) (hE : Errs w) (b e : Nat) (k : Int) (hbl : bl l 0 = b) (hb : b < l.length)
    (hk : (k = 1 ∧ b + 2 ≤ e) ∨ (k ≠ 1 ∧ b < e)) (hel : e ≤ l.length) (hgv : Gtv l b k e) :
    Calls Tryd.prog 68 #[cfg, .slice A l.length c, .slice none 0 0] w fun e' w' => IgW w l k b e e' w' := by
  have hG : ∀ W : World, ReadsInt W .u8 A l.length l → Errs W → Calls Tryd.prog 85 #[cfg, .slice A l.length c, .int .i64 b] W fun e' w' => GtPost W c l b k (some e) e' w' := fun W h1 h2 => gt_all A c l b W h1 hlc hby hlm hb h2 k e hgv
  have hll : l.length ≤ 9223372036854775807 := hr.2.1
  have hlb : (l.length : Int) ≤ 140737488355328 := by omega
  have hba : Below w.heap.size w (w.alloc (.cells #[.bool false, .bool false, .int .i64 0] 80)) := (Below.refl _ _).alloc (Nat.le_refl _) _
  obtain ⟨c0, c1, c2⟩ := CfgAt.box w
  obtain ⟨i5, hi5, hz5, hsz5, hby5⟩ : ∃ i, Tryd.prog.info? 5 = some i ∧ i.zero = some (.int .u8 0) ∧ i.size = 1 ∧ i.bytes = 1 := ⟨_, rfl, rfl, rfl, rfl⟩
  obtain ⟨A', hs1, hs2⟩ := print_cut (P := Tryd.prog) 57 5 .i64 Tryd.underlying57 hi5 hsz5 A l.length c 0 (Nat.zero_le _)
  have hs1' : ∀ W : World, (Instr.slice 57 (.slice A l.length c) (some (.int .i64 0)) none none).run Tryd.prog W = .ok (.slice A' l.length c) W := fun W => by have := hs1 W; simpa using this
  have hNT : Hid (∀ W : World, ReadsInt W .u8 A l.length l → Calls Tryd.prog 70 #[cfg, .slice A' l.length c] W fun e w' => e = .returned (.int .i64 b) ∧ Below W.heap.size W w') :=
    Lib.hid (fun W hW => (nt_c A' c l W (by simpa using hs2 W .u8 l hlc hW) hlc hlm).mono (fun e w' h => ⟨h.1.trans (by rw [nt, hbl, if_pos hb]), h.2⟩))
  have kpd : KpI A l w (w.alloc (.cells #[.bool false, .bool false, .int .i64 0] 80)).drew := ⟨hr.below hba.drew, hba.drew, hE.below hba.drew⟩
  have hrd : ReadsInt (w.alloc (.cells #[.bool false, .bool false, .int .i64 0] 80)).drew .u8 A l.length l := hr.below hba.drew
  have HG := Lib.hid hG
  have hnb : ((b : Int) == -1) = false := by simp
  clear hs1 hs2 hE hr hba hi5 hz5 hsz5 hby5 hG hbl hgv hby
  unfold cfg at hNT HG ⊢
  go_enter Tryd.func68, Tryd.ntmps68
  go_upto_region 5 with (fail)
  go_region_held3 (fun w' => w'.cell? ⟨w.heap.size, 0, none⟩ = some (.bool false) ∧ w'.cell? ⟨w.heap.size, 1, none⟩ = some (.bool false) ∧ w'.cell? ⟨w.heap.size, 2, none⟩ = some (.int .i64 0) ∧ KpI A l w w')
    (first | exact ⟨c0, c1, c2, kpd⟩ | exact ⟨d0, d1, d2, kp2⟩)
    (first | (go_at_call 70; (with_reducible refine (hNT.out _ hrd).mono ?_); rintro e w2 ⟨rfl, hb2⟩; obtain ⟨d0, d1, d2, kp2⟩ := ig_step (w := w) (w1 := (w.alloc (.cells #[.bool false, .bool false, .int .i64 0] 80)).drew) ⟨c0, c1, c2⟩ kpd hb2))
  have HK := Lib.hid kp2
  clear c0 c1 c2 kp2 kpd hrd hNT hb2 hs1'
  have HG2 := Lib.hid (HG.out w2 HK.out.1 HK.out.2.2)
  clear HG
  rcases hk with ⟨rfl, hk1⟩ | ⟨hk1, hk2⟩
  · go_wp2_with (go_at_call 85; (with_reducible refine HG2.out.mono ?_); rintro e3 w3 ⟨hb3, A3, rfl, hr3⟩; have HR3 := Lib.hid hr3; clear hr3)
    all_goals (
      ((try simp only [Exit.inBlock, Exit.then]); refine bodyPost_ret (res5 rfl _ _ _) rfl ?_)
      refine ⟨HK.out.2.1.trans (hb3.mono HK.out.2.1.size), ?_⟩
      rw [if_pos rfl]
      have hr1 := HR3.out.drop_ (c := e - b + 1) 1 (by omega) (by omega)
      rw [if_neg (show ¬ e - b + 1 = 1 by omega)] at hr1
      have hr2 := hr1.take_ (e - b - 1 - 1) (by omega))
    · have h0 : e - b - 1 - 1 = 0 := by omega
      rw [h0]
      exact ⟨_, 0, 0, by push_cast; rfl, ⟨rfl, by simp, fun h => by omega⟩, fun h => absurd rfl h⟩
    · exact ⟨_, _, _, by push_cast; rfl, hr2, fun h => absurd rfl h⟩
  · have ek : (k == 1) = false := by simpa using hk1
    go_wp2_with (go_at_call 85; (with_reducible refine HG2.out.mono ?_); rintro e3 w3 ⟨hb3, A3, rfl, hr3⟩; have HR3 := Lib.hid hr3; clear hr3)
    all_goals (
      ((try simp only [Exit.inBlock, Exit.then]); refine bodyPost_ret (res5 rfl _ _ _) rfl ?_)
      refine ⟨HK.out.2.1.trans (hb3.mono HK.out.2.1.size), ?_⟩
      rw [if_neg hk1]
      exact ⟨_, _, _, by push_cast; rfl, HR3.out, fun _ => by omega⟩)
/-- What Config.Get hands back. -/
def CgV (w : World) (l : List Int) (k : Int) (b e : Nat) (e' : Ending) (w' : World) : Prop :=
  Below w.heap.size w w' ∧ ∃ A' n c', e' = .returned (.tuple #[.slice A' n c', .int .i64 k, .int .i64 e, .nilIface]) ∧
    ReadsInt w' .u8 A' n (if k = 1 then (((l.take e).drop b).drop 1).take (e - b - 1 - 1) else (l.take e).drop b) ∧ (k ≠ 1 → n ≤ c')
set_option maxHeartbeats 8000000 in
set_option maxRecDepth 100000 in
theorem cget_c (A : Option Addr) (c : Nat) (l : List Int) (w : World) (hr : ReadsInt w .u8 A l.length l) (hlc : l.length ≤ c) (hby : ∀ x ∈ l, 0 ≤ x ∧ x ≤ 255) (hlm : l.length ≤ 140737488355328) (hE : Errs w) (b e : Nat) (k : Int) (hbl : bl l 0 = b) (hb : b < l.length)
    (hk : (k = 1 ∧ b + 2 ≤ e) ∨ (k ≠ 1 ∧ b < e)) (hel : e ≤ l.length) (hgv : Gtv l b k e) :
    Calls Tryd.prog 94 #[cfg, .slice A l.length c, .slice none 0 0] w fun e' w' => CgV w l k b e e' w' := by
  have hba : Below w.heap.size w (w.alloc (.cells #[.bool false, .bool false, .int .i64 0] 80)) := (Below.refl _ _).alloc (Nat.le_refl _) _
  obtain ⟨c0, c1, c2⟩ := CfgAt.box w
  have HG := Lib.hid (ig_v A c l (w.alloc (.cells #[.bool false, .bool false, .int .i64 0] 80)) (hr.below hba) hlc hby hlm (hE.below hba) b e k hbl hb hk hel hgv)
  have HB := Lib.hid hba
  clear hr hE hby hgv hba
  unfold cfg at HG ⊢
  go_enter Tryd.func94, Tryd.ntmps94
  go_wp2_with (go_at_call 68; (with_reducible refine HG.out.mono ?_); rintro e3 w3 ⟨hb3, A3, n3, c3, rfl, hr3, hn3⟩; have HR3 := Lib.hid hr3; have HN3 := Lib.hid hn3; clear hr3 hn3)
  ((try simp only [Exit.inBlock, Exit.then]); refine bodyPost_ret (res4 rfl _ _ _) rfl ?_)
  exact ⟨HB.out.trans (hb3.mono HB.out.size), A3, n3, c3, rfl, HR3.out, HN3.out⟩
end Go.Proofs.YtgbliniamkpocaaDoor.Jp
/- The closure of searchKeysConfig's index case: it counts, and keeps the element that is sought. -/
namespace Go.Proofs.YtgbliniamkpocaaDoor.Jp
open Go.RowKit Go.Proofs.YtgbliniamkpocaaDoorW.PrintWords Go.Proofs.YtgbliniamkpocaaDoor.Kit

/-- Block g is one variable. -/
def V1 (w : World) (g : Nat) (v : Value) : Prop := ∃ t, w.heap[g]? = some (.cells #[v] t (0, 0))
section
variable {w w1 w2 : World} {g b : Nat} {v u : Value}
theorem V1.cell (h : V1 w g v) : w.cell? ⟨g, 0, none⟩ = some v := by
  obtain ⟨t, h⟩ := h
  simp [World.cell?, h]
theorem V1.fr (h : V1 w g v) : w.frozen? ⟨g, 0, none⟩ = false := by
  obtain ⟨t, h⟩ := h
  simp [World.frozen?, h]
theorem V1.lt (h : V1 w g v) : g < w.heap.size := by
  obtain ⟨t, h⟩ := h
  exact (Array.getElem?_eq_some_iff.1 h).1
theorem V1.block (h : V1 w g v) (hb : w1.heap[g]? = w.heap[g]?) : V1 w1 g v := by
  obtain ⟨t, h⟩ := h
  exact ⟨t, hb.trans h⟩
theorem V1.set (h : V1 w g v) : V1 (w.setCell ⟨g, 0, none⟩ u) g u := by
  obtain ⟨t, h⟩ := h
  exact ⟨t, by simp [World.setCell, Array.getElem?_modify, h]⟩
theorem set_heap (w : World) (u : Value) (hn : g ≠ b) : (w.setCell ⟨b, 0, none⟩ u).heap[g]? = w.heap[g]? := by
  simp [World.setCell, Array.getElem?_modify, Ne.symm hn]
theorem V1.other (h : V1 w g v) (hn : g ≠ b) : V1 (w.setCell ⟨b, 0, none⟩ u) g v := h.block (set_heap w u hn)
theorem V1.below (h : V1 w g v) (hb : Below w.heap.size w w1) : V1 w1 g v := h.block (hb.block g h.lt)
theorem V1.new (w : World) (v : Value) (t : TypeId) (hg : g = w.heap.size) : V1 (w.alloc (.cells #[v] t)) g v := by
  subst hg
  exact ⟨t, by unfold World.alloc; exact Array.getElem?_push_size⟩
theorem V1.alloc (h : V1 w g v) (o : Obj) : V1 (w.alloc o) g v := h.block (Below.heap_alloc w o g h.lt)
/-- Only blocks g, g + 1, g + 2 may have changed. -/
structure Gq (g : Nat) (w w1 : World) : Prop where
  os : w1.os = w.os
  tape : w1.tape = w.tape
  output : w1.output = w.output
  size : w.heap.size ≤ w1.heap.size
  block : ∀ i, i < w.heap.size → i ≠ g → i ≠ g + 1 → i ≠ g + 2 → w1.heap[i]? = w.heap[i]?
theorem Gq.refl (g : Nat) (w : World) : Gq g w w := ⟨rfl, rfl, rfl, Nat.le_refl _, fun _ _ _ _ _ => rfl⟩
theorem Gq.trans (h : Gq g w w1) (k : Gq g w1 w2) : Gq g w w2 :=
  ⟨k.os.trans h.os, k.tape.trans h.tape, k.output.trans h.output, Nat.le_trans h.size k.size, fun i hi a b c => (k.block i (Nat.lt_of_lt_of_le hi h.size) a b c).trans (h.block i hi a b c)⟩
theorem Gq.of_below (h : Below w.heap.size w w1) : Gq g w w1 := ⟨h.os, h.tape, h.output, h.size, fun i hi _ _ _ => h.block i hi⟩
theorem Gq.set (hb : b = g ∨ b = g + 1 ∨ b = g + 2) : Gq g w (w.setCell ⟨b, 0, none⟩ u) :=
  ⟨rfl, rfl, rfl, by simp [World.setCell], fun i _ _ _ _ => set_heap w u (by omega)⟩
theorem Gq.below (h : Gq g w w1) (hg : g ≤ w.heap.size) : Below g w w1 := ⟨h.os, h.tape, h.output, h.size, fun i hi => h.block i (by omega) (by omega) (by omega) (by omega)⟩
/-- A reading of bytes is kept: a variable is no byte. -/
theorem reads_gq {A : Option Addr} {n : Nat} {xs : List Int} (h : ReadsInt w .u8 A n xs) (hg : Gq g w w1) (hv : ∀ j, j = g ∨ j = g + 1 ∨ j = g + 2 → ∃ v, V1 w j v ∧ ∀ x, v ≠ .int .u8 x) : ReadsInt w1 .u8 A n xs := by
  refine ⟨h.1, h.2.1, fun hn => ?_⟩
  obtain ⟨ad, e, hc⟩ := h.2.2 hn
  have hno : ∀ j, (j = g ∨ j = g + 1 ∨ j = g + 2) → ad.block ≠ j := by
    intro j hj he
    obtain ⟨v, ⟨t, hh⟩, hv⟩ := hv j hj
    have h0 := hc 0 hn
    have e0 : ad.add 0 = ad := by simp [Addr.add]
    rw [e0] at h0
    unfold World.cell? at h0
    rw [he, hh] at h0
    simp only at h0
    split at h0
    · cases h0
    · have hlt := (Array.getElem?_eq_some_iff.1 h0).1
      have ho : ad.off = 0 := by simpa using hlt
      rw [ho] at h0
      simp at h0
      exact hv _ h0
  refine ⟨ad, e, fun j hj => ?_⟩
  have hx := hc j hj
  have hb : (ad.add j).block = ad.block := by unfold Addr.add; split <;> rfl
  rw [← hx]
  have hlt : ad.block < w.heap.size := by
    have := World.block_lt_of_cell? w _ hx
    rwa [hb] at this
  exact World.cell?_of_block (w := w) (by rw [hb]; exact hg.block _ hlt (hno _ (.inl rfl)) (hno _ (.inr (.inl rfl))) (hno _ (.inr (.inr rfl))))
end
set_option maxHeartbeats 8000000 in
set_option maxRecDepth 100000 in
theorem cb_other (g ga gd : Nat) (Av : Option Addr) (nv cv : Nat) (t off m k : Int) (ev : Value) (w : World) (hm : V1 w g (.int .i64 m)) (hk : w.cell? ⟨ga, 0, none⟩ = some (.int .i64 k)) (hne : m ≠ k) (hm0 : 0 ≤ m) (hm1 : m < 140737488355328) :
    Calls Tryd.prog 81 #[.slice Av nv cv, .int .i64 t, .int .i64 off, ev, .pointer (some ⟨g, 0, none⟩), .pointer (some ⟨ga, 0, none⟩), .pointer (some ⟨g + 1, 0, none⟩), .pointer (some ⟨g + 2, 0, none⟩), .pointer (some ⟨gd, 0, none⟩), .pointer (some ⟨g + 3, 0, none⟩)] w fun e w' =>
      e = .returned (.tuple #[]) ∧ w' = w.setCell ⟨g, 0, none⟩ (.int .i64 (m + 1)) := by
  have c1 := hm.cell
  have f1 := hm.fr
  have hn : (m == k) = false := by simpa using hne
  have hs : IntKind.i64.wrap (m + 1) = m + 1 := by rw [IntKind.wrap_i64]; omega
  go_enter Tryd.func81, Tryd.ntmps81
  go_wp2
  go_end0
  exact ⟨rfl, rfl⟩
set_option maxHeartbeats 8000000 in
set_option maxRecDepth 100000 in
theorem cb_val (g ga gd : Nat) (Av : Option Addr) (nv cv : Nat) (t off m : Int) (ev v0 o0 : Value) (w : World) (hm : V1 w g (.int .i64 m)) (hk : w.cell? ⟨ga, 0, none⟩ = some (.int .i64 m)) (hv0 : V1 w (g + 1) v0) (ho0 : V1 w (g + 2) o0) (ht : t ≠ 1) (hm0 : 0 ≤ m) (hm1 : m < 140737488355328) :
    Calls Tryd.prog 81 #[.slice Av nv cv, .int .i64 t, .int .i64 off, ev, .pointer (some ⟨g, 0, none⟩), .pointer (some ⟨ga, 0, none⟩), .pointer (some ⟨g + 1, 0, none⟩), .pointer (some ⟨g + 2, 0, none⟩), .pointer (some ⟨gd, 0, none⟩), .pointer (some ⟨g + 3, 0, none⟩)] w fun e w' =>
      e = .returned (.tuple #[]) ∧ w' = ((w.setCell ⟨g + 1, 0, none⟩ (.slice Av nv cv)).setCell ⟨g + 2, 0, none⟩ (.int .i64 off)).setCell ⟨g, 0, none⟩ (.int .i64 (m + 1)) := by
  have c1 := hm.cell
  have f1 := hm.fr
  have c2 := hv0.cell
  have f2 := hv0.fr
  have h3 : V1 (w.setCell ⟨g + 1, 0, none⟩ (.slice Av nv cv)) (g + 2) o0 := ho0.other (by omega)
  have c3 := h3.cell
  have f3 := h3.fr
  have h4 : V1 ((w.setCell ⟨g + 1, 0, none⟩ (.slice Av nv cv)).setCell ⟨g + 2, 0, none⟩ (.int .i64 off)) g (.int .i64 m) := (hm.other (by omega)).other (by omega)
  have c4 := h4.cell
  have f4 := h4.fr
  have hn : (t == 1) = false := by simpa using ht
  have hs : IntKind.i64.wrap (m + 1) = m + 1 := by rw [IntKind.wrap_i64]; omega
  go_enter Tryd.func81, Tryd.ntmps81
  go_wp2
  go_end0
  exact ⟨rfl, rfl⟩
set_option maxHeartbeats 8000000 in
set_option maxRecDepth 100000 in
theorem cb_str (g ga gd : Nat) (Av Ad As : Option Addr) (nv cv nd cd ns cs : Nat) (off m i : Int) (ev v0 o0 : Value) (w : World) (hm : V1 w g (.int .i64 m)) (hk : w.cell? ⟨ga, 0, none⟩ = some (.int .i64 m)) (hv0 : V1 w (g + 1) v0) (ho0 : V1 w (g + 2) o0) (hd : w.cell? ⟨gd, 0, none⟩ = some (.slice Ad nd cd))
    (hi : V1 w (g + 3) (.int .i64 i)) (hgd : gd < g) (hm0 : 0 ≤ m) (hm1 : m < 140737488355328) (ho2 : 2 ≤ off) (ho3 : off ≤ 140737488355328) (hi0 : 0 ≤ i) (hi1 : i ≤ 140737488355328) (hnv : nv ≤ 140737488355328)
    (hsl : ∀ W : World, (Instr.slice 57 (.slice Ad nd cd) (some (.int .i64 (i + (off - 2)))) (some (.int .i64 (i + (off - 2) + nv + 2))) none).run Tryd.prog W = .ok (.slice As ns cs) W) :
    Calls Tryd.prog 81 #[.slice Av nv cv, .int .i64 1, .int .i64 off, ev, .pointer (some ⟨g, 0, none⟩), .pointer (some ⟨ga, 0, none⟩), .pointer (some ⟨g + 1, 0, none⟩), .pointer (some ⟨g + 2, 0, none⟩), .pointer (some ⟨gd, 0, none⟩), .pointer (some ⟨g + 3, 0, none⟩)] w fun e w' =>
      e = .returned (.tuple #[]) ∧ w' = ((((w.setCell ⟨g + 1, 0, none⟩ (.slice Av nv cv)).setCell ⟨g + 2, 0, none⟩ (.int .i64 off)).setCell ⟨g + 2, 0, none⟩ (.int .i64 (off - 2))).setCell ⟨g + 1, 0, none⟩ (.slice As ns cs)).setCell ⟨g, 0, none⟩ (.int .i64 (m + 1)) := by
  have c1 := hm.cell
  have f1 := hm.fr
  have c2 := hv0.cell
  have f2 := hv0.fr
  obtain ⟨w1, hw1⟩ : ∃ w1, w1 = w.setCell ⟨g + 1, 0, none⟩ (.slice Av nv cv) := ⟨_, rfl⟩
  have h3 : V1 w1 (g + 2) o0 := by rw [hw1]; exact ho0.other (by omega)
  have a3 : V1 w1 (g + 1) (.slice Av nv cv) := by rw [hw1]; exact hv0.set
  have b3 : V1 w1 g (.int .i64 m) := by rw [hw1]; exact hm.other (by omega)
  have i3 : V1 w1 (g + 3) (.int .i64 i) := by rw [hw1]; exact hi.other (by omega)
  have d3 : w1.cell? ⟨gd, 0, none⟩ = some (.slice Ad nd cd) := by rw [hw1, World.cell?_of_block (set_heap w _ (by simp; omega))]; exact hd
  obtain ⟨w2, hw2⟩ : ∃ w2, w2 = w1.setCell ⟨g + 2, 0, none⟩ (.int .i64 off) := ⟨_, rfl⟩
  have h4 : V1 w2 (g + 2) (.int .i64 off) := by rw [hw2]; exact h3.set
  have a4 : V1 w2 (g + 1) (.slice Av nv cv) := by rw [hw2]; exact a3.other (by omega)
  have b4 : V1 w2 g (.int .i64 m) := by rw [hw2]; exact b3.other (by omega)
  have i4 : V1 w2 (g + 3) (.int .i64 i) := by rw [hw2]; exact i3.other (by omega)
  have d4 : w2.cell? ⟨gd, 0, none⟩ = some (.slice Ad nd cd) := by rw [hw2, World.cell?_of_block (set_heap w1 _ (by simp; omega))]; exact d3
  obtain ⟨w3, hw3⟩ : ∃ w3, w3 = w2.setCell ⟨g + 2, 0, none⟩ (.int .i64 (off - 2)) := ⟨_, rfl⟩
  have h5 : V1 w3 (g + 2) (.int .i64 (off - 2)) := by rw [hw3]; exact h4.set
  have a5 : V1 w3 (g + 1) (.slice Av nv cv) := by rw [hw3]; exact a4.other (by omega)
  have b5 : V1 w3 g (.int .i64 m) := by rw [hw3]; exact b4.other (by omega)
  have i5 : V1 w3 (g + 3) (.int .i64 i) := by rw [hw3]; exact i4.other (by omega)
  have d5 : w3.cell? ⟨gd, 0, none⟩ = some (.slice Ad nd cd) := by rw [hw3, World.cell?_of_block (set_heap w2 _ (by simp; omega))]; exact d4
  obtain ⟨w4, hw4⟩ : ∃ w4, w4 = w3.setCell ⟨g + 1, 0, none⟩ (.slice As ns cs) := ⟨_, rfl⟩
  have b6 : V1 w4 g (.int .i64 m) := by rw [hw4]; exact b5.other (by omega)
  have c3 := h3.cell
  have f3 := h3.fr
  have c4 := h4.cell
  have f4 := h4.fr
  have c5 := h5.cell
  have ci := i5.cell
  have c6 := a5.cell
  have f6 := a5.fr
  have c7 := b6.cell
  have f7 := b6.fr
  have hs : IntKind.i64.wrap (m + 1) = m + 1 := by rw [IntKind.wrap_i64]; omega
  have hs2 : IntKind.i64.wrap (off - 2) = off - 2 := by rw [IntKind.wrap_i64]; omega
  have hs3 : IntKind.i64.wrap (i + (off - 2)) = i + (off - 2) := by rw [IntKind.wrap_i64]; omega
  have hs4 : IntKind.i64.wrap (i + (off - 2) + nv) = i + (off - 2) + nv := by rw [IntKind.wrap_i64]; omega
  have hs5 : IntKind.i64.wrap (i + (off - 2) + nv + 2) = i + (off - 2) + nv + 2 := by rw [IntKind.wrap_i64]; omega
  clear h3 a3 b3 i3 d3 h4 a4 b4 i4 d4 h5 a5 b5 i5 b6 hm hv0 ho0 hi
  subst hw4
  subst hw3
  subst hw2
  subst hw1
  go_enter Tryd.func81, Tryd.ntmps81
  go_wp2
  go_end0
  exact ⟨rfl, rfl⟩
set_option maxRecDepth 100000 in
/-- data[a:b]. -/
theorem mid_cut (A : Option Addr) (n c a b : Nat) (hab : a ≤ b) (hb : b ≤ n) (hc : n ≤ c) : ∃ A', (∀ W : World, (Instr.slice 57 (.slice A n c) (some (.int .i64 (a : Int))) (some (.int .i64 (b : Int))) none).run Tryd.prog W = .ok (.slice A' (b - a) (c - a)) W) ∧
    ∀ (W : World) (xs : List Int), ReadsInt W .u8 A n xs → ReadsInt W .u8 A' (b - a) ((xs.take b).drop a) := by
  obtain ⟨i5, hi5, hz5, hsz5, hby5⟩ : ∃ i, Tryd.prog.info? 5 = some i ∧ i.zero = some (.int .u8 0) ∧ i.size = 1 ∧ i.bytes = 1 := ⟨_, rfl, rfl, rfl, rfl⟩
  have hel : Tryd.prog.elem 57 = 5 := by simp [Program.elem, Tryd.underlying57]
  have hu : Tryd.prog.underlying 57 = some (.slice (Tryd.prog.elem 57)) := by rw [hel]; exact Tryd.underlying57
  refine ⟨if c = a then A else A.map (·.add a), fun W => ?_, fun W xs h => ?_⟩
  · rw [run_slice_lh W 57 A n c hu .i64 .i64 (a : Int) (b : Int) (by omega) (by omega) (by omega), hel]
    simp [sizeOf, typeInfo, hi5, hsz5, sliced, Result.andThen]
  · rw [List.drop_take]
    exact (h.drop_ a (by omega) hc).take_ (b - a) (by omega)
/-- What the closure has kept behind m elements: k is the index that is sought. -/
def AeSt (D : List Int) (es : List (Nat × Nat × Int)) (k m g : Nat) (w : World) : Prop :=
  V1 w g (.int .i64 m) ∧ (m ≤ k → V1 w (g + 1) (.slice none 0 0) ∧ V1 w (g + 2) (.int .i64 0)) ∧
    (k < m → ∃ b e t A' n' c', es[k]? = some (b, e, t) ∧ V1 w (g + 1) (.slice A' n' c') ∧ ReadsInt w .u8 A' n' (cutI D b e) ∧ n' ≤ c' ∧ V1 w (g + 2) (.int .i64 (b : Int)))
section
variable {D : List Int} {es : List (Nat × Nat × Int)} {k m g : Nat} {w w1 : World}
theorem AeSt.vars (h : AeSt D es k m g w) : ∀ j, j = g ∨ j = g + 1 ∨ j = g + 2 → ∃ v, V1 w j v ∧ ∀ x, v ≠ .int .u8 x := by
  intro j hj
  obtain ⟨h1, h2, h3⟩ := h
  by_cases hk : m ≤ k
  · obtain ⟨a, b⟩ := h2 hk
    rcases hj with rfl | rfl | rfl
    · exact ⟨_, h1, fun x h => by cases h⟩
    · exact ⟨_, a, fun x h => by cases h⟩
    · exact ⟨_, b, fun x h => by cases h⟩
  · obtain ⟨b, e, t, A', n', c', _, a1, _, _, a2⟩ := h3 (by omega)
    rcases hj with rfl | rfl | rfl
    · exact ⟨_, h1, fun x h => by cases h⟩
    · exact ⟨_, a1, fun x h => by cases h⟩
    · exact ⟨_, a2, fun x h => by cases h⟩
theorem AeSt.below (h : AeSt D es k m g w) (hb : Below w.heap.size w w1) : AeSt D es k m g w1 := by
  obtain ⟨h1, h2, h3⟩ := h
  refine ⟨h1.below hb, fun hk => ⟨(h2 hk).1.below hb, (h2 hk).2.below hb⟩, fun hk => ?_⟩
  obtain ⟨b, e, t, A', n', c', a0, a1, a2, a3, a4⟩ := h3 hk
  exact ⟨b, e, t, A', n', c', a0, a1.below hb, a2.below hb, a3, a4.below hb⟩
end
theorem AeSt.lt {D : List Int} {es : List (Nat × Nat × Int)} {k m g : Nat} {w : World} (h : AeSt D es k m g w) : g + 2 < w.heap.size := by
  obtain ⟨v, hv, _⟩ := h.vars (g + 2) (.inr (.inr rfl))
  exact hv.lt
theorem cb_c (g ga gd : Nat) (Av Ad : Option Addr) (nv cv cd k m i b e : Nat) (t off : Int) (l : List Int) (es : List (Nat × Nat × Int)) (w : World)
    (hS : AeSt (l.drop i) es k m g w) (hes : es[m]? = some (b, e, t)) (hk : w.cell? ⟨ga, 0, none⟩ = some (.int .i64 (k : Int))) (hd : w.cell? ⟨gd, 0, none⟩ = some (.slice Ad l.length cd)) (hI : V1 w (g + 3) (.int .i64 (i : Int)))
    (hrl : ReadsInt w .u8 Ad l.length l) (hlc : l.length ≤ cd) (hll : l.length ≤ 140737488355328) (hm : m < 140737488355328) (hei : i + e ≤ l.length) (hgd : gd < g)
    (ht1 : t = 1 → off = (b : Int) + 2 ∧ b + nv + 2 = e) (htn : t ≠ 1 → off = (b : Int) ∧ ReadsInt w .u8 Av nv (cutI (l.drop i) b e) ∧ nv ≤ cv) :
    Calls Tryd.prog 81 #[.slice Av nv cv, .int .i64 t, .int .i64 off, .nilIface, .pointer (some ⟨g, 0, none⟩), .pointer (some ⟨ga, 0, none⟩), .pointer (some ⟨g + 1, 0, none⟩), .pointer (some ⟨g + 2, 0, none⟩), .pointer (some ⟨gd, 0, none⟩), .pointer (some ⟨g + 3, 0, none⟩)] w fun e w' =>
      e = .returned (.tuple #[]) ∧ Gq g w w' ∧ AeSt (l.drop i) es k (m + 1) g w' := by
  have hv := hS.vars
  obtain ⟨h1, h2, h3⟩ := hS
  by_cases hmk : m = k
  · subst hmk
    obtain ⟨a1, a2⟩ := h2 (Nat.le_refl _)
    by_cases ht : t = 1
    · subst ht
      obtain ⟨rfl, hnv⟩ := ht1 rfl
      obtain ⟨As, hs1, hs2⟩ := mid_cut Ad l.length cd (i + b) (i + e) (by omega) hei hlc
      refine (cb_str g ga gd Av Ad As nv cv l.length cd (i + e - (i + b)) (cd - (i + b)) ((b : Int) + 2) m i .nilIface _ _ w h1 hk a1 a2 hd hI hgd (by omega) (by omega) (by omega) (by omega) (by omega) (by omega) (by omega) ?_).mono ?_
      · intro W
        have := hs1 W
        rw [show (i : Int) + ((b : Int) + 2 - 2) = ((i + b : Nat) : Int) by push_cast; omega, show ((i + b : Nat) : Int) + (nv : Int) + 2 = ((i + e : Nat) : Int) by omega]
        exact this
      · rintro e' w' ⟨rfl, rfl⟩
        have hq : Gq g w (((((w.setCell ⟨g + 1, 0, none⟩ (.slice Av nv cv)).setCell ⟨g + 2, 0, none⟩ (.int .i64 ((b : Int) + 2))).setCell ⟨g + 2, 0, none⟩ (.int .i64 ((b : Int) + 2 - 2))).setCell ⟨g + 1, 0, none⟩ (.slice As (i + e - (i + b)) (cd - (i + b)))).setCell ⟨g, 0, none⟩ (.int .i64 ((m : Int) + 1))) :=
          ((((Gq.set (.inr (.inl rfl))).trans (Gq.set (.inr (.inr rfl)))).trans (Gq.set (.inr (.inr rfl)))).trans (Gq.set (.inr (.inl rfl)))).trans (Gq.set (.inl rfl))
        refine ⟨rfl, hq, ?_, fun h => by omega, fun _ => ⟨b, e, 1, As, i + e - (i + b), cd - (i + b), hes, ?_, ?_, by omega, ?_⟩⟩
        · exact ((((h1.other (by omega)).other (by omega)).other (by omega)).other (by omega)).set
        · exact ((((a1.set).other (by omega)).other (by omega)).set).other (by omega)
        · have := hs2 _ l (reads_gq hrl hq hv)
          rwa [show cutI (l.drop i) b e = (l.take (i + e)).drop (i + b) by unfold cutI; rw [List.take_drop, List.drop_drop]]
        · have := ((((a2.other (show g + 2 ≠ g + 1 by omega) (u := .slice Av nv cv)).set (u := .int .i64 ((b : Int) + 2))).set (u := .int .i64 ((b : Int) + 2 - 2))).other (show g + 2 ≠ g + 1 by omega) (u := .slice As (i + e - (i + b)) (cd - (i + b)))).other (show g + 2 ≠ g by omega) (u := .int .i64 ((m : Int) + 1))
          rwa [show (b : Int) + 2 - 2 = (b : Int) by omega] at this ⊢
    · obtain ⟨rfl, hrv, hnc⟩ := htn ht
      refine (cb_val g ga gd Av nv cv t (b : Int) m .nilIface _ _ w h1 hk a1 a2 ht (by omega) (by omega)).mono ?_
      rintro e' w' ⟨rfl, rfl⟩
      have hq : Gq g w (((w.setCell ⟨g + 1, 0, none⟩ (.slice Av nv cv)).setCell ⟨g + 2, 0, none⟩ (.int .i64 (b : Int))).setCell ⟨g, 0, none⟩ (.int .i64 ((m : Int) + 1))) :=
        ((Gq.set (.inr (.inl rfl))).trans (Gq.set (.inr (.inr rfl)))).trans (Gq.set (.inl rfl))
      refine ⟨rfl, hq, ?_, fun h => by omega, fun _ => ⟨b, e, t, Av, nv, cv, hes, ?_, reads_gq hrv hq hv, hnc, ?_⟩⟩
      · exact ((h1.other (by omega)).other (by omega)).set
      · exact ((a1.set).other (by omega)).other (by omega)
      · exact ((a2.other (by omega)).set).other (by omega)
  · refine (cb_other g ga gd Av nv cv t off m k .nilIface w h1 hk (by omega) (by omega) (by omega)).mono ?_
    rintro e' w' ⟨rfl, rfl⟩
    have hq : Gq g w (w.setCell ⟨g, 0, none⟩ (.int .i64 ((m : Int) + 1))) := Gq.set (.inl rfl)
    refine ⟨rfl, hq, h1.set, fun h => ⟨(h2 (by omega)).1.other (by omega), (h2 (by omega)).2.other (by omega)⟩, fun h => ?_⟩
    obtain ⟨b', e', t', A', n', c', x0, x1, x2, x3, x4⟩ := h3 (by omega)
    exact ⟨b', e', t', A', n', c', x0, x1.other (by omega), reads_gq x2 hq hv, x3, x4.other (by omega)⟩
end Go.Proofs.YtgbliniamkpocaaDoor.Jp
