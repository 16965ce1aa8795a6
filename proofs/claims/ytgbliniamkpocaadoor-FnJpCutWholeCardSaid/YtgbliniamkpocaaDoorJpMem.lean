/- Small words on a block of bytes into which a call writes, piece behind piece. -/
import Derived.Test.YtgbliniamkpocaaDoorKit
import Derived.Laws.CopyOwn
import Derived.Lib.Hide
namespace Go.Proofs.YtgbliniamkpocaaDoor.Jp
open Go.RowKit Go.Proofs.YtgbliniamkpocaaDoorW.PrintWords Go.Proofs.YtgbliniamkpocaaDoor.Kit

/-- Block g is bytes that may be written, l its first. -/
def BO (w : World) (g n : Nat) (l : List Int) : Prop :=
  ∃ cur t, w.heap[g]? = some (.cells cur t (0, 0)) ∧ n ≤ cur.size ∧ l.length ≤ n ∧ ∀ j, j < l.length → cur[j]? = some (.int .u8 (l.getD j 0))
section
variable {w w1 : World} {g n : Nat} {l : List Int}
theorem BO.bb (h : BO w g n l) : BB w g n l := by
  obtain ⟨cur, t, h1, h2, h3, h4⟩ := h
  exact ⟨cur, t, 0, 0, h1, h2, .inl rfl, h3, h4⟩
theorem BO.le (h : BO w g n l) : l.length ≤ n := h.bb.le
theorem BO.lt (h : BO w g n l) : g < w.heap.size := h.bb.lt
theorem BO.block (h : BO w g n l) (hb : w1.heap[g]? = w.heap[g]?) : BO w1 g n l := by
  obtain ⟨cur, t, h1, r⟩ := h
  exact ⟨cur, t, hb.trans h1, r⟩
theorem BO.below (h : BO w g n l) (hb : Below w.heap.size w w1) : BO w1 g n l := h.block (hb.block g h.lt)
theorem BO.alloc (h : BO w g n l) (o : Obj) : BO (w.alloc o) g n l := h.block (Below.heap_alloc w o g h.lt)
theorem BO.push (h : BO w g n l) (hj : l.length < n) (x : Int) : BO (w.setCell ⟨g, l.length, none⟩ (.int .u8 x)) g n (l ++ [x]) := by
  obtain ⟨cs, t, h1, h2, h4, h5⟩ := h
  refine ⟨cs.setIfInBounds l.length (.int .u8 x), t, by simp [World.setCell, Array.getElem?_modify, h1], by simpa using h2, by simp; omega, fun i hi' => ?_⟩
  by_cases e : l.length = i
  · subst e
    rw [Array.getElem?_setIfInBounds_self_of_lt (by omega)]
    simp [List.getD]
  · have hlt : i < l.length := by simp at hi'; omega
    rw [Array.getElem?_setIfInBounds_ne e, h5 i hlt]
    simp [List.getD, List.getElem?_append_left hlt]
theorem BO.pushes : ∀ (news : List Int) {w : World} {l : List Int}, BO w g n l → l.length + news.length ≤ n → BO (w.setCells g l.length (news.map (Value.int .u8))) g n (l ++ news)
  | [], w, l, h, _ => by simpa [World.setCells] using h
  | x :: news, w, l, h, hl => by
    have h1 := h.push (by simp at hl; omega) x
    have h2 := BO.pushes news h1 (by simp at hl ⊢; omega)
    simpa [World.setCells] using h2
theorem BO.take (h : BO w g n l) (m : Nat) : BO w g n (l.take m) := by
  obtain ⟨cs, t, h1, h2, h3, h5⟩ := h
  refine ⟨cs, t, h1, h2, by simp; omega, fun j hj => ?_⟩
  have hj' : j < l.length ∧ j < m := by simp at hj; omega
  rw [h5 j hj'.1]
  simp [List.getD, hj'.2]
/-- Copied behind what stands there. -/
theorem BO.row (h : BO w g n l) (xs : List Int) (hf : l.length + xs.length ≤ n) (cur : Array Value) (t : TypeId) (hg : w.heap[g]? = some (.cells cur t (0, 0))) :
    BO (w.setRow g (cur.toList.take l.length ++ (xs.map (Value.int .u8) ++ cur.toList.drop (l.length + xs.length))).toArray) g n (l ++ xs) := by
  obtain ⟨cs, t', h1, h2, h3, h5⟩ := h
  obtain ⟨rfl, rfl⟩ : cs = cur ∧ t' = t := by
    rw [h1] at hg
    injection hg with hg
    injection hg with a b
    exact ⟨a, b⟩
  have hlen : (cs.toList.take l.length ++ (xs.map (Value.int .u8) ++ cs.toList.drop (l.length + xs.length))).toArray.size = cs.size := by
    simp
    omega
  refine ⟨_, t', setRow_heap w g _ _ t' _ hg, by rw [hlen]; exact h2, by simp; omega, fun j hj => ?_⟩
  have hs : (cs.toList.take l.length).length = l.length := by simp; omega
  rw [List.getElem?_toArray]
  by_cases e : j < l.length
  · rw [List.getElem?_append_left (by omega), List.getElem?_take, if_pos e, Array.getElem?_toList, h5 j e]
    simp [List.getD, List.getElem?_append_left e]
  · have hj2 : j - l.length < xs.length := by simp at hj; omega
    rw [List.getElem?_append_right (by omega), hs, List.getElem?_append_left (by simpa using hj2), List.getElem?_map, List.getElem?_eq_getElem hj2]
    simp [List.getD, List.getElem?_append_right (show l.length ≤ j by omega), hj2]
end
/-- Only block g may have changed. -/
def Gr (g : Nat) (w w1 : World) : Prop := w.grownBy w1 (some g)
section
variable {g : Nat} {w w1 w2 : World}
theorem Gr.refl (g : Nat) (w : World) : Gr g w w := ⟨rfl, rfl, rfl, Nat.le_refl _, fun _ _ _ => rfl⟩
theorem Gr.trans (h : Gr g w w1) (k : Gr g w1 w2) : Gr g w w2 :=
  ⟨k.os.trans h.os, k.tape.trans h.tape, k.output.trans h.output, Nat.le_trans h.size k.size, fun i hi hn => (k.block i (Nat.lt_of_lt_of_le hi h.size) hn).trans (h.block i hi hn)⟩
theorem Gr.of_below (g : Nat) (h : Below w.heap.size w w1) : Gr g w w1 := ⟨h.os, h.tape, h.output, h.size, fun i hi _ => h.block i hi⟩
theorem Gr.alloc (g : Nat) (w : World) (o : Obj) : Gr g w (w.alloc o) := .of_below g ((Below.refl _ _).alloc (Nat.le_refl _) o)
theorem Gr.cell (h : Gr g w w1) {b o : Nat} (hb : b < w.heap.size) (hn : b ≠ g) : w1.cell? ⟨b, o, none⟩ = w.cell? ⟨b, o, none⟩ :=
  World.cell?_of_block (w := w) (h.block b hb (fun e => hn (Option.some.inj e)))
theorem Gr.setCells (g o : Nat) (vs : List Value) (w : World) : Gr g w (w.setCells g o vs) := setCells_grown g o vs w
theorem Gr.setCell (g o : Nat) (v : Value) (w : World) : Gr g w (w.setCell ⟨g, o, none⟩ v) := by
  have := Gr.setCells g o [v] w
  simpa [World.setCells] using this
theorem Gr.drew (g : Nat) (w : World) : Gr g w w.drew := ⟨rfl, rfl, rfl, Nat.le_refl _, fun _ _ _ => rfl⟩
theorem Gr.drewN (g : Nat) (w : World) (n : Nat) : Gr g w (w.drewN n) := ⟨rfl, rfl, rfl, Nat.le_refl _, fun _ _ _ => rfl⟩
theorem Gr.setRow (g : Nat) (cs : Array Value) (w : World) : Gr g w (w.setRow g cs) :=
  ⟨rfl, rfl, rfl, by simp [World.setRow], fun i _ hn => setRow_other w g i cs (fun e => hn (by rw [e]))⟩
theorem Gr.below (h : Gr g w w1) {B : Nat} (hB : B ≤ w.heap.size) (hg : B ≤ g) : Below B w w1 :=
  ⟨h.os, h.tape, h.output, h.size, fun i hi => h.block i (by omega) (fun e => by have := Option.some.inj e; omega)⟩
/-- A reading of bytes that do not stand in block g is kept. -/
theorem reads_gr {k : IntKind} {A : Option Addr} {n : Nat} {xs : List Int} (h : ReadsInt w k A n xs) (hg : Gr g w w1) (hA : ∀ a, A = some a → 0 < n → a.block ≠ g) : ReadsInt w1 k A n xs := by
  refine ⟨h.1, h.2.1, fun hn => ?_⟩
  obtain ⟨ad, e, hc⟩ := h.2.2 hn
  refine ⟨ad, e, fun j hj => ?_⟩
  have hx := hc j hj
  have hb : (ad.add j).block = ad.block := by unfold Addr.add; split <;> rfl
  rw [← hx]
  have hlt : ad.block < w.heap.size := by
    have := World.block_lt_of_cell? w _ hx
    rwa [hb] at this
  exact World.cell?_of_block (w := w) (by rw [hb]; exact hg.block _ hlt (fun e2 => hA ad e hn (Option.some.inj e2)))
end
theorem wpList_copy_bo {P : Program} {w : World} {ops : Array Oper} {rest : List Oper} {o : Oper} {a : Act} {Q : Exit → Act → World → Prop} (hgd : o.guard = none) (d s : Operand) (dT sT : TypeId)
    (ho : o.op = .call { callee := .builtin .copy, args := #[d, s], argTypes := #[dT, sT] }) (elem : TypeId) (hu : P.underlying dT = some (.slice elem)) (hsz : (P.info? elem).map (·.size) = some 1)
    (dp sp : Option Addr) (dLen dCap sLen sCap : Nat) (hd : a.eval d = .slice dp dLen dCap) (hs : a.eval s = .slice sp sLen sCap) (hle : sLen ≤ dLen)
    (g n : Nat) (l xs : List Int) (hB : BO w g n l) (hr : ReadsInt w .u8 sp sLen xs) (hdp : 0 < sLen → dp = some ⟨g, l.length, none⟩) (hfit : l.length + sLen ≤ n)
    (h : ∀ w', BO w' g n (l ++ xs) → Gr g w w' → wpList P ops Q rest (a.put o.dst (goInt sLen)) w') : wpList P ops Q (o :: rest) a w := by
  have hxl : xs.length = sLen := hr.1
  have hmin : Nat.min sLen dLen = sLen := Nat.min_eq_left hle
  by_cases h0 : sLen = 0
  · subst h0
    refine wpList_copy_nothing hgd d s dT sT ho elem hu hsz dp sp dLen dCap 0 sCap hd hs hmin ?_
    obtain rfl : xs = [] := List.eq_nil_of_length_eq_zero hxl
    have := h w (by simpa using hB) (Gr.refl g w)
    simpa using this
  · obtain rfl := hdp (by omega)
    obtain ⟨ad, rfl, hc⟩ := hr.2.2 (by omega)
    obtain ⟨cur, t, h1, h2, h3, h4⟩ := hB
    have hl : (xs.map (Value.int .u8)).length = sLen := by rw [List.length_map]; exact hxl
    refine wpList_copy_own hgd d s dT sT ho elem hu hsz g l.length dLen dCap ad sLen sCap hd hs cur t h1 (xs.map (Value.int .u8)) (by rw [hl, hmin]) (fun j v hv => ?_) (by rw [hl]; omega) (fun v hv => ?_) ?_
    · rw [List.getElem?_map] at hv
      obtain ⟨x, hx, rfl⟩ := Option.map_eq_some_iff.1 hv
      obtain ⟨hj, hx⟩ := List.getElem?_eq_some_iff.1 hx
      rw [hc j (by omega)]
      simp [List.getD, List.getElem?_eq_getElem hj, hx]
    · obtain ⟨x, _, rfl⟩ := List.mem_map.1 hv
      rfl
    · have := h _ (BO.row (⟨cur, t, h1, h2, h3, h4⟩ : BO w g n l) xs (by omega) cur t h1) (Gr.setRow g _ w)
      rw [hl]
      rw [← hxl] at this ⊢
      simpa only [List.length_map] using this
theorem cut_buf {P : Program} (t e : TypeId) (kl : IntKind) {i : TypeInfo} (ht : P.underlying t = some (.slice e)) (hi : P.info? e = some i) (hsz : i.size = 1) (g o n c m : Nat) (hm : m ≤ n) (_hc : n ≤ c) (hlt : m < c) (W : World) :
    (Instr.slice t (.slice (some ⟨g, o, none⟩) n c) (some (.int kl (m : Int))) none none).run P W = .ok (.slice (some ⟨g, o + m, none⟩) (n - m) (c - m)) W := by
  have hel : P.elem t = e := by simp [Program.elem, ht]
  have hu : P.underlying t = some (.slice (P.elem t)) := by rw [hel]; exact ht
  rw [run_slice_l W t _ n c hu kl (m : Int) (Int.natCast_nonneg _) (by omega), hel]
  have : c ≠ m := by omega
  simp [sizeOf, typeInfo, hi, hsz, sliced, Result.andThen, this, Addr.add]
end Go.Proofs.YtgbliniamkpocaaDoor.Jp
