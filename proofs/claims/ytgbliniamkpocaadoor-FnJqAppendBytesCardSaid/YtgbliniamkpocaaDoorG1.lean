/- Texts of this claim, laid together. -/
import Derived.Test.YtgbliniamkpocaaDoorJpHand
import Derived.Test.YtgbliniamkpocaaDoorG0
import Derived.Laws.CopyOwn
import Derived.Lib.Hide
/- What an escape of a JSON string stands for, as jsonparser reads it, in plain functions. -/
namespace Go.Proofs.YtgbliniamkpocaaDoor.Jp
open Go.RowKit Go.Proofs.YtgbliniamkpocaaDoorW.PrintWords

/-! ### One escape, and all of a string -/
def isSh (c : Int) : Prop := c = 34 ∨ c = 92 ∨ c = 47 ∨ c = 98 ∨ c = 102 ∨ c = 110 ∨ c = 114 ∨ c = 116
instance (c : Int) : Decidable (isSh c) := by unfold isSh; infer_instance
def sh (c : Int) : Int := if c = 98 then 8 else if c = 102 then 12 else if c = 110 then 10 else if c = 114 then 13 else if c = 116 then 9 else c
/-- The escape that begins here: how many bytes it takes, and what it gives. -/
def u1 (l : List Int) : Option (Nat × List Int) :=
  if l.length < 2 then none
  else if isSh (l.getD 1 0) then some (2, [sh (l.getD 1 0)])
  else if l.getD 1 0 = 117 then (if (dec l).2 = -1 then none else some ((dec l).2.toNat, Lib.encodeRuneZ (dec l).1))
  else none
theorem enc_len (r : Int) (h0 : 0 ≤ r) (h1 : r ≤ 1114111) : 1 ≤ (Lib.encodeRuneZ r).length ∧ (Lib.encodeRuneZ r).length ≤ 4 ∧ (r ≤ 65535 → (Lib.encodeRuneZ r).length ≤ 3) := by
  unfold Lib.encodeRuneZ
  repeat' split
  all_goals simp
  all_goals omega
theorem u1_le {l : List Int} {m : Nat} {bs : List Int} (h : u1 l = some (m, bs)) : 2 ≤ m ∧ m ≤ l.length ∧ 1 ≤ bs.length ∧ bs.length + 1 ≤ m := by
  unfold u1 at h
  split at h
  · cases h
  · split at h
    · simp only [Option.some.injEq, Prod.mk.injEq] at h
      obtain ⟨rfl, rfl⟩ := h
      simp
      omega
    · split at h
      · split at h
        · cases h
        · simp only [Option.some.injEq, Prod.mk.injEq] at h
          obtain ⟨rfl, rfl⟩ := h
          have hd := dec_range l
          have he := enc_len (dec l).1 hd.1 hd.2.1
          omega
      · cases h
/-- All of a string: what jsonparser's Unescape gives. -/
def un (l : List Int) : Option (List Int) :=
  match l with
  | [] => some []
  | c :: r =>
    if c = 92 then
      match _h : u1 (c :: r) with
      | none => none
      | some (m, bs) => (un ((c :: r).drop m)).map (bs ++ ·)
    else (un r).map (c :: ·)
termination_by l.length
decreasing_by
  · have := u1_le _h; simp only [List.length_drop, List.length_cons] at this ⊢; omega
  · simp
theorem un_nil : un [] = some [] := by rw [un]
theorem un_cons {c : Int} (r : List Int) (h : c ≠ 92) : un (c :: r) = (un r).map (c :: ·) := by rw [un, if_neg h]
theorem un_none {r : List Int} (h : u1 (92 :: r) = none) : un (92 :: r) = none := by
  rw [un, if_pos rfl]
  split
  · rfl
  · rename_i h2
    rw [h] at h2
    cases h2
theorem un_some {r bs : List Int} {m : Nat} (h : u1 (92 :: r) = some (m, bs)) : un (92 :: r) = (un ((92 :: r).drop m)).map (bs ++ ·) := by
  rw [un, if_pos rfl]
  split
  · rename_i h2
    rw [h] at h2
    cases h2
  · rename_i m' bs' h2
    rw [h] at h2
    injection h2 with h2
    injection h2 with a b
    subst a
    subst b
    rfl
theorem un_plain : ∀ (p r : List Int), (∀ x ∈ p, x ≠ 92) → un (p ++ r) = (un r).map (p ++ ·)
  | [], r, _ => by simp
  | c :: p, r, h => by
    rw [List.cons_append, un_cons _ (h c (by simp)), un_plain p r (fun x hx => h x (by simp [hx]))]
    cases un r <;> rfl
theorem un_all (l : List Int) (h : ∀ x ∈ l, x ≠ 92) : un l = some l := by
  have := un_plain l [] h
  rw [List.append_nil, un_nil] at this
  simpa using this
/-- The first backslash. -/
def bs0 : List Int → Nat
  | [] => 0
  | c :: r => if c = 92 then 0 else bs0 r + 1
theorem bs0_le : ∀ l : List Int, bs0 l ≤ l.length
  | [] => by simp [bs0]
  | c :: r => by
    have := bs0_le r
    unfold bs0
    split <;> simp <;> omega
theorem bs0_take : ∀ (l : List Int), ∀ x ∈ l.take (bs0 l), x ≠ 92
  | [] => by simp
  | c :: r => by
    unfold bs0
    split
    · simp
    · rename_i h
      intro x hx
      rw [List.take_succ_cons] at hx
      rcases List.mem_cons.1 hx with rfl | hx
      · exact h
      · exact bs0_take r x hx
theorem bs0_drop : ∀ (l : List Int), bs0 l < l.length → ∃ r, l.drop (bs0 l) = 92 :: r
  | [], h => by simp at h
  | c :: r, h => by
    unfold bs0 at h ⊢
    split
    · rename_i e
      exact ⟨r, by rw [e]; rfl⟩
    · rename_i e
      rw [if_neg e] at h
      obtain ⟨t, ht⟩ := bs0_drop r (by simp at h; omega)
      exact ⟨t, by rw [List.drop_succ_cons]; exact ht⟩
theorem un_step (l : List Int) : un l = (un (l.drop (bs0 l))).map (l.take (bs0 l) ++ ·) := by
  have := un_plain (l.take (bs0 l)) (l.drop (bs0 l)) (bs0_take l)
  rwa [List.take_append_drop] at this
end Go.Proofs.YtgbliniamkpocaaDoor.Jp
/- Small words on a block of bytes into which a call writes, piece behind piece. -/
namespace Go.Proofs.YtgbliniamkpocaaDoor.Jp
open Go.RowKit Go.Proofs.YtgbliniamkpocaaDoorW.PrintWords Go.Proofs.YtgbliniamkpocaaDoor.Kit

/-- Block g is bytes that may be written, l its first. -/
def BO (w : World) (g n : Nat) (l : List Int) : Prop :=
  ∃ cur t, w.heap[g]? = some (.cells cur t (0, 0)) ∧ n ≤ cur.size ∧ l.length ≤ n ∧ ∀ j, j < l.length → cur[j]? = some (.int .u8 (l.getD j 0))
section
variable {w w1 : World} {g n : Nat} {l : List Int}
theorem BO.bb (h : BO w g n l) : BB w g n l := by
  obtain ⟨cur, t, h1, h2, h3, h4⟩ := h
  exact ⟨cur, t, 0, 0, h1, h2, .inl rfl, h3, h4⟩
theorem BO.le (h : BO w g n l) : l.length ≤ n := h.bb.le
theorem BO.lt (h : BO w g n l) : g < w.heap.size := h.bb.lt
theorem BO.block (h : BO w g n l) (hb : w1.heap[g]? = w.heap[g]?) : BO w1 g n l := by
  obtain ⟨cur, t, h1, r⟩ := h
  exact ⟨cur, t, hb.trans h1, r⟩
theorem BO.below (h : BO w g n l) (hb : Below w.heap.size w w1) : BO w1 g n l := h.block (hb.block g h.lt)
theorem BO.alloc (h : BO w g n l) (o : Obj) : BO (w.alloc o) g n l := h.block (Below.heap_alloc w o g h.lt)
theorem BO.push (h : BO w g n l) (hj : l.length < n) (x : Int) : BO (w.setCell ⟨g, l.length, none⟩ (.int .u8 x)) g n (l ++ [x]) := by
  obtain ⟨cs, t, h1, h2, h4, h5⟩ := h
  refine ⟨cs.setIfInBounds l.length (.int .u8 x), t, by simp [World.setCell, Array.getElem?_modify, h1], by simpa using h2, by simp; omega, fun i hi' => ?_⟩
  by_cases e : l.length = i
  · subst e
    rw [Array.getElem?_setIfInBounds_self_of_lt (by omega)]
    simp [List.getD]
  · have hlt : i < l.length := by simp at hi'; omega
    rw [Array.getElem?_setIfInBounds_ne e, h5 i hlt]
    simp [List.getD, List.getElem?_append_left hlt]
theorem BO.pushes : ∀ (news : List Int) {w : World} {l : List Int}, BO w g n l → l.length + news.length ≤ n → BO (w.setCells g l.length (news.map (Value.int .u8))) g n (l ++ news)
  | [], w, l, h, _ => by simpa [World.setCells] using h
  | x :: news, w, l, h, hl => by
    have h1 := h.push (by simp at hl; omega) x
    have h2 := BO.pushes news h1 (by simp at hl ⊢; omega)
    simpa [World.setCells] using h2
theorem BO.take (h : BO w g n l) (m : Nat) : BO w g n (l.take m) := by
  obtain ⟨cs, t, h1, h2, h3, h5⟩ := h
  refine ⟨cs, t, h1, h2, by simp; omega, fun j hj => ?_⟩
  have hj' : j < l.length ∧ j < m := by simp at hj; omega
  rw [h5 j hj'.1]
  simp [List.getD, hj'.2]
/-- Copied behind what stands there. -/
theorem BO.row (h : BO w g n l) (xs : List Int) (hf : l.length + xs.length ≤ n) (cur : Array Value) (t : TypeId) (hg : w.heap[g]? = some (.cells cur t (0, 0))) :
    BO (w.setRow g (cur.toList.take l.length ++ (xs.map (Value.int .u8) ++ cur.toList.drop (l.length + xs.length))).toArray) g n (l ++ xs) := by
  obtain ⟨cs, t', h1, h2, h3, h5⟩ := h
  obtain ⟨rfl, rfl⟩ : cs = cur ∧ t' = t := by
    rw [h1] at hg
    injection hg with hg
    injection hg with a b
    exact ⟨a, b⟩
  have hlen : (cs.toList.take l.length ++ (xs.map (Value.int .u8) ++ cs.toList.drop (l.length + xs.length))).toArray.size = cs.size := by
    simp
    omega
  refine ⟨_, t', setRow_heap w g _ _ t' _ hg, by rw [hlen]; exact h2, by simp; omega, fun j hj => ?_⟩
  have hs : (cs.toList.take l.length).length = l.length := by simp; omega
  rw [List.getElem?_toArray]
  by_cases e : j < l.length
  · rw [List.getElem?_append_left (by omega), List.getElem?_take, if_pos e, Array.getElem?_toList, h5 j e]
    simp [List.getD, List.getElem?_append_left e]
  · have hj2 : j - l.length < xs.length := by simp at hj; omega
    rw [List.getElem?_append_right (by omega), hs, List.getElem?_append_left (by simpa using hj2), List.getElem?_map, List.getElem?_eq_getElem hj2]
    simp [List.getD, List.getElem?_append_right (show l.length ≤ j by omega), hj2]
end
/-- Block g keeps its size. -/
def Sm (g : Nat) (w w1 : World) : Prop := ∀ cs t fr, w.heap[g]? = some (.cells cs t fr) → ∃ cs', w1.heap[g]? = some (.cells cs' t fr) ∧ cs'.size = cs.size
/-- Only block g may have changed, and it keeps its size. -/
def Gr (g : Nat) (w w1 : World) : Prop := w.grownBy w1 (some g) ∧ Sm g w w1
section
variable {g : Nat} {w w1 w2 : World}
theorem Sm.same (h : w1.heap[g]? = w.heap[g]?) : Sm g w w1 := fun cs _ _ hc => ⟨cs, h.trans hc, rfl⟩
theorem Sm.trans (h : Sm g w w1) (k : Sm g w1 w2) : Sm g w w2 := fun cs t fr hc => by
  obtain ⟨c1, e1, z1⟩ := h cs t fr hc
  obtain ⟨c2, e2, z2⟩ := k c1 t fr e1
  exact ⟨c2, e2, z2.trans z1⟩
theorem Sm.set (o : Nat) (v : Value) : Sm g w (w.setCell ⟨g, o, none⟩ v) := fun cs _ _ hc => ⟨cs.setIfInBounds o v, by simp [World.setCell, Array.getElem?_modify, hc], by simp⟩
theorem Sm.sets : ∀ (vs : List Value) (o : Nat) (w : World), Sm g w (w.setCells g o vs)
  | [], _, _ => Sm.same rfl
  | v :: r, o, w => by
    rw [World.setCells]
    exact (Sm.set o v).trans (Sm.sets r (o + 1) _)
theorem Gr.refl (g : Nat) (w : World) : Gr g w w := ⟨⟨rfl, rfl, rfl, Nat.le_refl _, fun _ _ _ => rfl⟩, Sm.same rfl⟩
theorem Gr.trans (h : Gr g w w1) (k : Gr g w1 w2) : Gr g w w2 :=
  ⟨⟨k.1.os.trans h.1.os, k.1.tape.trans h.1.tape, k.1.output.trans h.1.output, Nat.le_trans h.1.size k.1.size, fun i hi hn => (k.1.block i (Nat.lt_of_lt_of_le hi h.1.size) hn).trans (h.1.block i hi hn)⟩, h.2.trans k.2⟩
theorem Gr.of_below (g : Nat) (h : Below w.heap.size w w1) : Gr g w w1 := ⟨⟨h.os, h.tape, h.output, h.size, fun i hi _ => h.block i hi⟩, fun cs _ _ hc => ⟨cs, (h.block g (Array.getElem?_eq_some_iff.1 hc).1).trans hc, rfl⟩⟩
theorem Gr.alloc (g : Nat) (w : World) (o : Obj) : Gr g w (w.alloc o) := .of_below g ((Below.refl _ _).alloc (Nat.le_refl _) o)
theorem Gr.cell (h : Gr g w w1) {b o : Nat} (hb : b < w.heap.size) (hn : b ≠ g) : w1.cell? ⟨b, o, none⟩ = w.cell? ⟨b, o, none⟩ :=
  World.cell?_of_block (w := w) (h.1.block b hb (fun e => hn (Option.some.inj e)))
theorem Gr.setCells (g o : Nat) (vs : List Value) (w : World) : Gr g w (w.setCells g o vs) := ⟨setCells_grown g o vs w, Sm.sets vs o w⟩
theorem Gr.setCell (g o : Nat) (v : Value) (w : World) : Gr g w (w.setCell ⟨g, o, none⟩ v) := by
  have := Gr.setCells g o [v] w
  simpa [World.setCells] using this
theorem Gr.drew (g : Nat) (w : World) : Gr g w w.drew := ⟨⟨rfl, rfl, rfl, Nat.le_refl _, fun _ _ _ => rfl⟩, Sm.same rfl⟩
theorem Gr.drewN (g : Nat) (w : World) (n : Nat) : Gr g w (w.drewN n) := ⟨⟨rfl, rfl, rfl, Nat.le_refl _, fun _ _ _ => rfl⟩, Sm.same rfl⟩
theorem Gr.setRow (g : Nat) (cs old : Array Value) (t : TypeId) (fr : Nat × Nat) (w : World) (hg : w.heap[g]? = some (.cells old t fr)) (hs : cs.size = old.size) : Gr g w (w.setRow g cs) :=
  ⟨⟨rfl, rfl, rfl, by simp [World.setRow], fun i _ hn => setRow_other w g i cs (fun e => hn (by rw [e]))⟩, fun c1 t1 fr1 hc => by
    rw [hg] at hc
    injection hc with hc
    injection hc with a b c
    subst a
    subst b
    subst c
    exact ⟨cs, setRow_heap w g _ _ _ _ hg, hs⟩⟩
theorem Gr.below (h : Gr g w w1) {B : Nat} (hB : B ≤ w.heap.size) (hg : B ≤ g) : Below B w w1 :=
  ⟨h.1.os, h.1.tape, h.1.output, h.1.size, fun i hi => h.1.block i (by omega) (fun e => by have := Option.some.inj e; omega)⟩
theorem BO.gr0 {n : Nat} {l : List Int} (h : BO w g n l) (hg : Gr g w w1) : BO w1 g n [] := by
  obtain ⟨cur, t, h1, h2, h3, h4⟩ := h
  obtain ⟨c1, e1, z1⟩ := hg.2 cur t (0, 0) h1
  exact ⟨c1, t, e1, by omega, by simp, fun j hj => by simp at hj⟩
/-- A reading of bytes that do not stand in block g is kept. -/
theorem reads_gr {k : IntKind} {A : Option Addr} {n : Nat} {xs : List Int} (h : ReadsInt w k A n xs) (hg : Gr g w w1) (hA : ∀ a, A = some a → 0 < n → a.block ≠ g) : ReadsInt w1 k A n xs := by
  refine ⟨h.1, h.2.1, fun hn => ?_⟩
  obtain ⟨ad, e, hc⟩ := h.2.2 hn
  refine ⟨ad, e, fun j hj => ?_⟩
  have hx := hc j hj
  have hb : (ad.add j).block = ad.block := by unfold Addr.add; split <;> rfl
  rw [← hx]
  have hlt : ad.block < w.heap.size := by
    have := World.block_lt_of_cell? w _ hx
    rwa [hb] at this
  exact World.cell?_of_block (w := w) (by rw [hb]; exact hg.1.block _ hlt (fun e2 => hA ad e hn (Option.some.inj e2)))
end
theorem wpList_copy_bo {P : Program} {w : World} {ops : Array Oper} {rest : List Oper} {o : Oper} {a : Act} {Q : Exit → Act → World → Prop} (hgd : o.guard = none) (d s : Operand) (dT sT : TypeId)
    (ho : o.op = .call { callee := .builtin .copy, args := #[d, s], argTypes := #[dT, sT] }) (elem : TypeId) (hu : P.underlying dT = some (.slice elem)) (hsz : (P.info? elem).map (·.size) = some 1)
    (dp sp : Option Addr) (dLen dCap sLen sCap : Nat) (hd : a.eval d = .slice dp dLen dCap) (hs : a.eval s = .slice sp sLen sCap) (hle : sLen ≤ dLen)
    (g n : Nat) (l xs : List Int) (hB : BO w g n l) (hr : ReadsInt w .u8 sp sLen xs) (hdp : 0 < sLen → dp = some ⟨g, l.length, none⟩) (hfit : l.length + sLen ≤ n)
    (h : ∀ w', BO w' g n (l ++ xs) → Gr g w w' → wpList P ops Q rest (a.put o.dst (goInt sLen)) w') : wpList P ops Q (o :: rest) a w := by
  have hxl : xs.length = sLen := hr.1
  have hmin : Nat.min sLen dLen = sLen := Nat.min_eq_left hle
  by_cases h0 : sLen = 0
  · subst h0
    refine wpList_copy_nothing hgd d s dT sT ho elem hu hsz dp sp dLen dCap 0 sCap hd hs hmin ?_
    obtain rfl : xs = [] := List.eq_nil_of_length_eq_zero hxl
    have := h w (by simpa using hB) (Gr.refl g w)
    simpa using this
  · obtain rfl := hdp (by omega)
    obtain ⟨ad, rfl, hc⟩ := hr.2.2 (by omega)
    obtain ⟨cur, t, h1, h2, h3, h4⟩ := hB
    have hl : (xs.map (Value.int .u8)).length = sLen := by rw [List.length_map]; exact hxl
    refine wpList_copy_own hgd d s dT sT ho elem hu hsz g l.length dLen dCap ad sLen sCap hd hs cur t h1 (xs.map (Value.int .u8)) (by rw [hl, hmin]) (fun j v hv => ?_) (by rw [hl]; omega) (fun v hv => ?_) ?_
    · rw [List.getElem?_map] at hv
      obtain ⟨x, hx, rfl⟩ := Option.map_eq_some_iff.1 hv
      obtain ⟨hj, hx⟩ := List.getElem?_eq_some_iff.1 hx
      rw [hc j (by omega)]
      simp [List.getD, List.getElem?_eq_getElem hj, hx]
    · obtain ⟨x, _, rfl⟩ := List.mem_map.1 hv
      rfl
    · have := h _ (BO.row (⟨cur, t, h1, h2, h3, h4⟩ : BO w g n l) xs (by omega) cur t h1) (Gr.setRow g _ cur t (0, 0) w h1 (by simp; omega))
      rw [hl]
      rw [← hxl] at this ⊢
      simpa only [List.length_map] using this
theorem cut_buf {P : Program} (t e : TypeId) (kl : IntKind) {i : TypeInfo} (ht : P.underlying t = some (.slice e)) (hi : P.info? e = some i) (hsz : i.size = 1) (g o n c m : Nat) (hm : m ≤ n) (_hc : n ≤ c) (hlt : m < c) (W : World) :
    (Instr.slice t (.slice (some ⟨g, o, none⟩) n c) (some (.int kl (m : Int))) none none).run P W = .ok (.slice (some ⟨g, o + m, none⟩) (n - m) (c - m)) W := by
  have hel : P.elem t = e := by simp [Program.elem, ht]
  have hu : P.underlying t = some (.slice (P.elem t)) := by rw [hel]; exact ht
  rw [run_slice_l W t _ n c hu kl (m : Int) (Int.natCast_nonneg _) (by omega), hel]
  have : c ≠ m := by omega
  simp [sizeOf, typeInfo, hi, hsz, sliced, Result.andThen, this, Addr.add]
end Go.Proofs.YtgbliniamkpocaaDoor.Jp
