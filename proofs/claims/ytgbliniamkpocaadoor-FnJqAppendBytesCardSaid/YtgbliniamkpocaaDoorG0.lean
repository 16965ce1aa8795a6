/- Texts of this claim, laid together. -/
import Derived.Test.YtgbliniamkpocaaDoorWWords
import Derived.Lib.ConvBytes
import Derived.Deep.AppendSrc
import Derived.Deep.AppendLies
import Derived.Lib.Strings
/- Small words on blocks of bytes: rows that the call has made, of whatever element's or array's type. -/
namespace Go.Proofs.YtgbliniamkpocaaDoor.Kit
open Go.RowKit Go.Proofs.YtgbliniamkpocaaDoorW.PrintWords

/-- Block g holds bytes: its first cells are l, and none of its first 'cap' cells is frozen. -/
def BB (w : World) (g : Nat) (cap : Nat) (l : List Int) : Prop :=
  ∃ cs t lo hi, w.heap[g]? = some (.cells cs t (lo, hi)) ∧ cap ≤ cs.size ∧ (lo = hi ∨ cap ≤ lo) ∧ l.length ≤ cap ∧ ∀ j, j < l.length → cs[j]? = some (.int .u8 (l.getD j 0))

section
variable {w w1 : World} {g cap : Nat} {l : List Int}
theorem BB.le (h : BB w g cap l) : l.length ≤ cap := by
  obtain ⟨cs, t, lo, hi, h1, h2, h3, h4, h5⟩ := h
  exact h4
theorem BB.lt (h : BB w g cap l) : g < w.heap.size := by
  obtain ⟨cs, t, lo, hi, h1, h2⟩ := h
  exact (Array.getElem?_eq_some_iff.1 h1).1
theorem BB.cell (h : BB w g cap l) (j : Nat) (hj : j < l.length) : w.cell? ⟨g, j, none⟩ = some (.int .u8 (l.getD j 0)) := by
  obtain ⟨cs, t, lo, hi, h1, h2, h3, h4, h5⟩ := h
  have := h5 j hj
  simpa [World.cell?, h1] using this
theorem BB.there (h : BB w g cap l) (j : Nat) (hj : j < cap) : (w.cell? ⟨g, j, none⟩).isSome = true := by
  obtain ⟨cs, t, lo, hi, h1, h2, h3, h4, h5⟩ := h
  simp [World.cell?, h1]
  omega
theorem BB.frozen (h : BB w g cap l) (j : Nat) (hj : j < cap) : w.frozen? ⟨g, j, none⟩ = false := by
  obtain ⟨cs, t, lo, hi, h1, h2, h3, h4, h5⟩ := h
  simp [World.frozen?, h1]
  omega
theorem BB.set (h : BB w g cap l) (j : Nat) (hj : j < l.length) (x : Int) : BB (w.setCell ⟨g, j, none⟩ (.int .u8 x)) g cap (l.set j x) := by
  obtain ⟨cs, t, lo, hi, h1, h2, h3, h4, h5⟩ := h
  refine ⟨cs.setIfInBounds j (.int .u8 x), t, lo, hi, by simp [World.setCell, Array.getElem?_modify, h1], by simpa using h2, h3, by simpa using h4, fun i hi' => ?_⟩
  rw [List.length_set] at hi'
  by_cases e : j = i
  · subst e
    rw [Array.getElem?_setIfInBounds_self_of_lt (by omega)]
    simp [List.getD, hi']
  · have := h5 i hi'
    rw [Array.getElem?_setIfInBounds_ne e, this]
    simp [List.getD, List.getElem?_set_ne e]
/-- A store behind the last byte. -/
theorem BB.push (h : BB w g cap l) (hj : l.length < cap) (x : Int) : BB (w.setCell ⟨g, l.length, none⟩ (.int .u8 x)) g cap (l ++ [x]) := by
  obtain ⟨cs, t, lo, hi, h1, h2, h3, h4, h5⟩ := h
  refine ⟨cs.setIfInBounds l.length (.int .u8 x), t, lo, hi, by simp [World.setCell, Array.getElem?_modify, h1], by simpa using h2, h3, by simp; omega, fun i hi' => ?_⟩
  by_cases e : l.length = i
  · subst e
    rw [Array.getElem?_setIfInBounds_self_of_lt (by omega)]
    simp [List.getD]
  · have hlt : i < l.length := by simp at hi'; omega
    rw [Array.getElem?_setIfInBounds_ne e, h5 i hlt]
    simp [List.getD, List.getElem?_append_left hlt]
theorem BB.take (h : BB w g cap l) (n : Nat) : BB w g cap (l.take n) := by
  obtain ⟨cs, t, lo, hi, h1, h2, h3, h4, h5⟩ := h
  refine ⟨cs, t, lo, hi, h1, h2, h3, by simp; omega, fun j hj => ?_⟩
  have hj' : j < l.length ∧ j < n := by simp at hj; omega
  rw [h5 j hj'.1]
  simp [List.getD, hj'.2]
theorem BB.pushes (hB : ∀ x ∈ l, True) : ∀ (news : List Int) {w : World} {l : List Int}, BB w g cap l → l.length + news.length ≤ cap → BB (w.setCells g l.length (news.map (Value.int .u8))) g cap (l ++ news)
  | [], w, l, h, _ => by simpa [World.setCells] using h
  | x :: news, w, l, h, hl => by
    have h1 := h.push (by simp at hl; omega) x
    have h2 := BB.pushes hB news h1 (by simp at hl ⊢; omega)
    simpa [World.setCells] using h2
theorem BB.block (h : BB w g cap l) (hb : w1.heap[g]? = w.heap[g]?) : BB w1 g cap l := by
  obtain ⟨cs, t, lo, hi, h1, r⟩ := h
  exact ⟨cs, t, lo, hi, hb.trans h1, r⟩
theorem BB.below (h : BB w g cap l) (hb : Below w.heap.size w w1) : BB w1 g cap l := h.block (hb.block g h.lt)
theorem BB.grown {row : Option Nat} (h : BB w g cap l) (hg : w.grownBy w1 row) (hne : some g ≠ row) : BB w1 g cap l := h.block (hg.block g h.lt hne)
theorem BB.alloc (h : BB w g cap l) (o : Obj) : BB (w.alloc o) g cap l := h.block (Below.heap_alloc w o g h.lt)
theorem BB.drewN (h : BB w g cap l) (n : Nat) : BB (w.drewN n) g cap l := h
theorem BB.drew (h : BB w g cap l) : BB w.drew g cap l := h
theorem BB.far (h : BB w g cap l) {p : Addr} (hp : g ≠ p.block) (u : Value) : BB (w.setCell p u) g cap l := h.block (Below.heap_setCell w p u g hp)
theorem BB.conv (w : World) (e : TypeId) (s : ByteArray) : BB (Lib.bytesWorld w e s) w.heap.size (Lib.bytesCells w e s).size (s.data.toList.map fun c => (c.toNat : Int)) := by
  refine ⟨_, _, _, _, Lib.bytesWorld_at_new w e s, Nat.le_refl _, .inr (Nat.le_refl _), ?_, fun j hj => ?_⟩
  · simp [Lib.bytesCells]
  · simp only [List.length_map, Array.length_toList] at hj
    have hj' : j < s.size := hj
    simp [Lib.bytesCells, Array.getElem?_append, List.getD, hj']
end
theorem below_conv (w : World) (e : TypeId) (s : ByteArray) : Below w.heap.size w (Lib.bytesWorld w e s) :=
  ⟨rfl, rfl, rfl, by rw [Lib.bytesWorld_size]; omega, fun i hi => Lib.bytesWorld_at_old w e s i hi⟩

/-- v is a slice of the bytes l that begins its block, a block from B on; or nil. -/
def OB (B : Nat) (w : World) (v : Value) (l : List Int) : Prop := (v = .slice none 0 0 ∧ l = []) ∨ ∃ g cap, v = .slice (some ⟨g, 0, none⟩) l.length cap ∧ B ≤ g ∧ BB w g cap l

section
variable {P : Program} {w w1 : World} {B : Nat} {v : Value} {l : List Int}
theorem OB.nil (B : Nat) (w : World) : OB B w (.slice none 0 0) [] := .inl ⟨rfl, rfl⟩
theorem OB.mk {g cap : Nat} (hg : B ≤ g) (h : BB w g cap l) : OB B w (.slice (some ⟨g, 0, none⟩) l.length cap) l := .inr ⟨g, cap, rfl, hg, h⟩
theorem OB.imp (h : OB B w v l) (k : ∀ g cap, BB w g cap l → BB w1 g cap l) : OB B w1 v l := Or.imp id (fun ⟨g, cap, e, hg, h⟩ => ⟨g, cap, e, hg, k g cap h⟩) h
theorem OB.below (h : OB B w v l) (hb : Below w.heap.size w w1) : OB B w1 v l := h.imp fun _ _ h => h.below hb
theorem OB.alloc (h : OB B w v l) (o : Obj) : OB B (w.alloc o) v l := h.imp fun _ _ h => h.alloc o
theorem OB.drew (h : OB B w v l) : OB B w.drew v l := h
theorem OB.drewN (h : OB B w v l) (n : Nat) : OB B (w.drewN n) v l := h
theorem OB.lt (h : OB B w v l) : ∀ k, v.ownBlock = some k → B ≤ k ∧ k < w.heap.size := by
  rcases h with ⟨rfl, _⟩ | ⟨g, cap, rfl, hg, h⟩
  · intro k hk
    simp [Value.ownBlock] at hk
  · intro k hk
    have : g = k := by simpa [Value.ownBlock] using hk
    subst this
    exact ⟨hg, h.lt⟩
theorem OB.slice (h : OB B w v l) : ∃ a cap, v = .slice a l.length cap := by
  rcases h with ⟨rfl, rfl⟩ | ⟨g, cap, e, _⟩
  · exact ⟨none, 0, rfl⟩
  · exact ⟨_, cap, e⟩
theorem setCells_grown (g o : Nat) (vs : List Value) (w : World) : w.grownBy (w.setCells g o vs) (some g) := by
  obtain ⟨h1, h2, h3, h4⟩ := setCells_same g vs o w
  exact ⟨h1, h2, h3, by omega, fun k _ hk => setCells_far vs o k (fun e => hk (by rw [e]))⟩

/-- append onto bytes of the call's own, whatever is appended. -/
theorem OB.append {t tx ty e : TypeId} {i : TypeInfo} (ht : P.underlying t = some (.slice e)) (hi : P.info? e = some i) (hz : i.zero = some (.int .u8 0)) (hsz : i.size = 1) (hby : i.bytes = 1)
    (h : OB B w v l) (hB : B ≤ w.heap.size) {x : Value} {news : List Int} (hs : Src P 1 tx x news.length (news.map (Value.int .u8)) w) (hfit : l.length + news.length ≤ 140737488355327) :
    ∃ v' w', (Builtin.append_ #[t, tx] ty #[v, x]).run P w = .ok v' w' ∧ OB B w' v' (l ++ news) ∧ w.grownBy w' v.ownBlock ∧ (v'.ownBlock = v.ownBlock ∨ ∃ b, v'.ownBlock = some b ∧ w.heap.size ≤ b) := by
  have hs' : Src P i.size tx x news.length (news.map (Value.int .u8)) w := by rw [hsz]; exact hs
  rcases h with ⟨rfl, rfl⟩ | ⟨g, cap, rfl, hg, h⟩
  · by_cases hn : news.length = 0
    · obtain rfl : news = [] := List.eq_nil_of_length_eq_zero hn
      refine ⟨.slice none 0 0, w, ?_, .inl ⟨rfl, rfl⟩, ⟨rfl, rfl, rfl, Nat.le_refl _, fun _ _ _ => rfl⟩, .inl rfl⟩
      have hc : (Builtin.firstCells i.size 0 x).run P w = .ok #[] w := by simpa using hs'.cells
      rcases hs'.kind with ⟨e', hk⟩ | hk <;> simp [Builtin.append_, run_underlying ht, run_underlying hk, sizeOf, typeInfo, hi, hs'.len, hc]
    · have hold : (Builtin.firstCells i.size 0 (.slice none 0 0)).run P w.drew = .ok (([] : List Value)).toArray w.drew := run_firstCells_none w.drew i.size 0 0 0
      have hr := run_append_grow_src (P := P) w t tx ty e i (.int .u8 0) ht hi hz none 0 0 [] hold x news.length (news.map (Value.int .u8)) hs' (by omega) (by simp at hfit; omega)
        (growslice_fits (by omega) (by rw [hby]; simp at hfit; omega))
      have hge := grownCap_ge w (0 + news.length) 0 e
      refine ⟨_, _, hr, .inr ⟨w.heap.size, grownCap w (0 + news.length) 0 e, by simp, hB, ?_⟩, ⟨rfl, rfl, rfl, by simp, fun k hk _ => heap_alloc_old w.drew _ hk⟩, .inr ⟨w.heap.size, rfl, Nat.le_refl _⟩⟩
      refine ⟨_, _, 0, 0, heap_alloc_new w.drew _, ?_, .inl rfl, by simpa using hge, fun j hj => ?_⟩
      · simp only [Array.size_append, List.size_toArray, size_zeroCells, List.length_append, List.length_map, List.length_nil]
        show _ ≤ _ + _ * 1
        omega
      · rw [List.nil_append] at hj
        rw [Array.getElem?_append_left (by simpa using hj)]
        rw [List.getElem?_toArray, List.nil_append, List.nil_append, List.getElem?_map, List.getD_eq_getElem?_getD, List.getElem?_eq_getElem hj]
        rfl
  by_cases hroom : l.length + news.length ≤ cap
  · have hr := run_append_room_src (P := P) w t tx ty e i ht hi g 0 l.length cap x news.length (news.map (Value.int .u8)) hs' hroom
      (fun j hj => by rw [hsz, Nat.zero_add, Nat.mul_one]; exact h.there _ (by simp at hj; omega)) (fun j hj => by rw [hsz, Nat.zero_add, Nat.mul_one]; exact h.frozen _ (by simp at hj; omega))
    rw [hsz, Nat.zero_add, Nat.mul_one] at hr
    refine ⟨_, _, hr, .inr ⟨g, cap, by rw [List.length_append], hg, BB.pushes (l := []) (fun _ _ => trivial) news h hroom⟩, setCells_grown g _ _ w, .inl rfl⟩
  · have hold : (Builtin.firstCells i.size l.length (.slice (some ⟨g, 0, none⟩) l.length cap)).run P w.drew = .ok (l.map (Value.int .u8)).toArray w.drew := by
      rw [hsz]
      refine run_firstCells_some w.drew 1 l.length ⟨g, 0, none⟩ l.length cap (l.map (Value.int .u8)) (by simp) (fun j u hj => ?_)
      have e : (⟨g, 0, none⟩ : Addr).add j = ⟨g, j, none⟩ := by
        simp only [Addr.add]
        split <;> simp_all
      have hjl : j < l.length := by
        rcases Nat.lt_or_ge j l.length with h' | h'
        · exact h'
        · rw [List.getElem?_eq_none (by simpa using h')] at hj
          cases hj
      have := h.cell j hjl
      rw [e]
      rw [List.getElem?_map, List.getElem?_eq_getElem hjl] at hj
      simp at hj
      subst hj
      simpa [List.getD, hjl] using this
    have hr := run_append_grow_src (P := P) w t tx ty e i (.int .u8 0) ht hi hz (some ⟨g, 0, none⟩) l.length cap (l.map (Value.int .u8)) hold x news.length (news.map (Value.int .u8)) hs' (by omega) (by omega)
      (growslice_fits (by omega) (by rw [hby]; omega))
    have hge := grownCap_ge w (l.length + news.length) cap e
    refine ⟨_, _, hr, .inr ⟨w.heap.size, grownCap w (l.length + news.length) cap e, by rw [List.length_append], hB, ?_⟩, ⟨rfl, rfl, rfl, by simp, fun k hk _ => heap_alloc_old w.drew _ hk⟩, .inr ⟨w.heap.size, rfl, Nat.le_refl _⟩⟩
    refine ⟨_, _, 0, 0, heap_alloc_new w.drew _, ?_, .inl rfl, by simpa using hge, fun j hj => ?_⟩
    · simp only [Array.size_append, List.size_toArray, size_zeroCells, List.length_append, List.length_map]
      show _ ≤ _ + _ * 1
      omega
    · rw [Array.getElem?_append_left (by simpa using hj)]
      have hj' : j < l.length + news.length := by simpa using hj
      rw [List.getElem?_toArray, ← List.map_append, List.getElem?_map, List.getD_eq_getElem?_getD, List.getElem?_eq_getElem hj]
      rfl

def nums (s : ByteArray) : List Int := s.data.toList.map fun c => (c.toNat : Int)
theorem nums_get (s : ByteArray) (i : Nat) (h : i < s.size) : (nums s).getD i 0 = (s[i].toNat : Int) := by
  have h' : i < s.data.toList.length := by simpa using h
  simp only [nums, List.getD, List.getElem?_map]
  rw [List.getElem?_eq_getElem h']
  simp
  rfl
theorem nums_len (s : ByteArray) : (nums s).length = s.size := by simp [nums]
theorem nums_extract (s : ByteArray) (a b : Nat) : nums (s.extract a b) = ((nums s).drop a).take (b - a) := by
  simp [nums, List.map_drop, List.map_take]
end

/-- From w to w' a slice v of the call's own has become v': all other blocks are as they were. -/
def Keeps (w w' : World) (v v' : Value) : Prop := w.heap.size ≤ w'.heap.size ∧ (∀ k, k < w.heap.size → some k ≠ v.ownBlock → w'.heap[k]? = w.heap[k]?) ∧ (v'.ownBlock = v.ownBlock ∨ ∃ b, v'.ownBlock = some b ∧ w.heap.size ≤ b)
theorem Keeps.refl (w : World) (v : Value) : Keeps w w v v := ⟨Nat.le_refl _, fun _ _ _ => rfl, .inl rfl⟩
theorem Keeps.trans {w w1 w2 : World} {v v1 v2 : Value} (h : Keeps w w1 v v1) (k : Keeps w1 w2 v1 v2) : Keeps w w2 v v2 := by
  obtain ⟨a1, a2, a3⟩ := h
  obtain ⟨b1, b2, b3⟩ := k
  refine ⟨Nat.le_trans a1 b1, fun j hj hn => ?_, ?_⟩
  · refine (b2 j (by omega) (fun e => ?_)).trans (a2 j hj hn)
    rcases a3 with a3 | ⟨b, a3, hb⟩
    · exact hn (e.trans a3)
    · rw [a3] at e
      injection e with e
      omega
  · rcases b3 with b3 | ⟨b, b3, hb⟩
    · rcases a3 with a3 | ⟨b, a3, hb⟩
      · exact .inl (b3.trans a3)
      · exact .inr ⟨b, b3.trans a3, hb⟩
    · exact .inr ⟨b, b3, by omega⟩
theorem Keeps.of_below {w w1 : World} (h : Below w.heap.size w w1) (v : Value) : Keeps w w1 v v := ⟨h.size, fun k hk _ => h.block k hk, .inl rfl⟩
theorem Keeps.alloc {w w1 : World} {v v1 : Value} (h : Keeps w w1 v v1) (o : Obj) : Keeps w (w1.alloc o) v v1 := h.trans (.of_below (below_alloc (Below.refl _ _) o) v1)
theorem Keeps.drew {w w1 : World} {v v1 : Value} (h : Keeps w w1 v v1) : Keeps w w1.drew v v1 := h
theorem Keeps.grown {w w1 w2 : World} {v v1 v2 : Value} (h : Keeps w w1 v v1) (hg : w1.grownBy w2 v1.ownBlock) (ha : v2.ownBlock = v1.ownBlock ∨ ∃ b, v2.ownBlock = some b ∧ w1.heap.size ≤ b) : Keeps w w2 v v2 :=
  h.trans ⟨hg.size, fun k hk hn => hg.block k hk hn, ha⟩
theorem Keeps.blk {w w1 : World} {v v1 : Value} {g : Nat} {o : Obj} (h : Keeps w w1 v v1) (hb : w.heap[g]? = some o) (hn : some g ≠ v.ownBlock) : w1.heap[g]? = some o :=
  (h.2.1 g (by
    rcases Nat.lt_or_ge g w.heap.size with hlt | hge
    · exact hlt
    · rw [Array.getElem?_eq_none hge] at hb
      cases hb) hn).trans hb

end Go.Proofs.YtgbliniamkpocaaDoor.Kit
/- A reader of JSON texts in plain words, and jsonparser's readers: what needs no printed type (laid by mk_base.py). -/
namespace Go.Proofs.YtgbliniamkpocaaDoor.Jp
/-! ### A reader of JSON texts over the bytes: plain functions -/
def gb (L : List Int) (i : Nat) : Int := L.getD i 0
theorem gb_out {L : List Int} {i : Nat} (h : L.length ≤ i) : gb L i = 0 := by simp [gb, List.getD, List.getElem?_eq_none h]
theorem gb_in {L : List Int} {i : Nat} (h : gb L i ≠ 0) : i < L.length := Nat.lt_of_not_le fun h2 => h (gb_out h2)
def isBlank (c : Int) : Prop := c = 32 ∨ c = 9 ∨ c = 10 ∨ c = 13
instance (c : Int) : Decidable (isBlank c) := by unfold isBlank; infer_instance
def isDig (c : Int) : Prop := 48 ≤ c ∧ c ≤ 57
instance (c : Int) : Decidable (isDig c) := by unfold isDig; infer_instance
def isHex (c : Int) : Prop := (48 ≤ c ∧ c ≤ 57) ∨ (97 ≤ c ∧ c ≤ 102) ∨ (65 ≤ c ∧ c ≤ 70)
instance (c : Int) : Decidable (isHex c) := by unfold isHex; infer_instance
def isShort (c : Int) : Prop := c = 34 ∨ c = 92 ∨ c = 47 ∨ c = 98 ∨ c = 102 ∨ c = 110 ∨ c = 114 ∨ c = 116
instance (c : Int) : Decidable (isShort c) := by unfold isShort; infer_instance
theorem blank_in {L : List Int} {i : Nat} (h : isBlank (gb L i)) : i < L.length := gb_in (by unfold isBlank at h; omega)
theorem dig_in {L : List Int} {i : Nat} (h : isDig (gb L i)) : i < L.length := gb_in (by unfold isDig at h; omega)
theorem hex_in {L : List Int} {i : Nat} (h : isHex (gb L i)) : i < L.length := gb_in (by unfold isHex at h; omega)
theorem short_in {L : List Int} {i : Nat} (h : isShort (gb L i)) : i < L.length := gb_in (by unfold isShort at h; omega)
/-- The first place from i on that is no blank. -/
def bl (L : List Int) (i : Nat) : Nat := if h : isBlank (gb L i) then bl L (i + 1) else i
termination_by L.length - i
decreasing_by have := blank_in h; omega
/-- The first place from i on that is no digit. -/
def dg (L : List Int) (i : Nat) : Nat := if h : isDig (gb L i) then dg L (i + 1) else i
termination_by L.length - i
decreasing_by have := dig_in h; omega
/-- Behind what stands behind a backslash. -/
def escE (L : List Int) (i : Nat) : Option Nat :=
  if isShort (gb L i) then some (i + 1)
  else if gb L i = 117 then (if isHex (gb L (i + 1)) ∧ isHex (gb L (i + 2)) ∧ isHex (gb L (i + 3)) ∧ isHex (gb L (i + 4)) then some (i + 5) else none)
  else none
theorem escE_le {L : List Int} {i j : Nat} (h : escE L i = some j) : i < j ∧ j ≤ L.length := by
  unfold escE at h
  split at h
  · rename_i h1
    have := short_in h1
    injection h with h
    omega
  · split at h
    · split at h
      · rename_i h1
        have := hex_in h1.2.2.2
        injection h with h
        omega
      · cases h
    · cases h
/-- Behind the quotation mark that ends a string, from inside of it. -/
def st (L : List Int) (i : Nat) : Option Nat :=
  if hi : i < L.length then
    if gb L i = 34 then some (i + 1)
    else if gb L i < 32 then none
    else if gb L i = 92 then
      match _h : escE L (i + 1) with
      | none => none
      | some j => st L j
    else st L (i + 1)
  else none
termination_by L.length - i
decreasing_by
  · have := escE_le _h; omega
  · omega
/-- Is there this byte at a place. -/
def at_ (L : List Int) (i : Nat) (c : Int) : Prop := i < L.length ∧ gb L i = c
instance (L : List Int) (i : Nat) (c : Int) : Decidable (at_ L i c) := by unfold at_; infer_instance
/-- The end of a number's exponent, of its fraction, of a number. -/
def signE (L : List Int) (i : Nat) : Nat := if at_ L i 43 ∨ at_ L i 45 then i + 1 else i
def expE (L : List Int) (i : Nat) : Option Nat :=
  if at_ L i 101 ∨ at_ L i 69 then (if signE L (i + 1) < dg L (signE L (i + 1)) then some (dg L (signE L (i + 1))) else none) else some i
def fracE (L : List Int) (i : Nat) : Option Nat :=
  if at_ L i 46 then (if i + 1 < dg L (i + 1) then expE L (dg L (i + 1)) else none) else expE L i
def minusE (L : List Int) (i : Nat) : Nat := if at_ L i 45 then i + 1 else i
def numE (L : List Int) (i : Nat) : Option Nat :=
  if at_ L (minusE L i) 48 then fracE L (minusE L i + 1) else if minusE L i < dg L (minusE L i) then fracE L (dg L (minusE L i)) else none
def wordE (L : List Int) (i : Nat) (w : List Int) : Prop := (L.drop i).take w.length = w
instance (L : List Int) (i : Nat) (w : List Int) : Decidable (wordE L i w) := by unfold wordE; infer_instance

/-! ### jsonparser's readers in plain words: where a string ends, where a block ends -/
theorem gb_take {L : List Int} {i cut : Nat} (h : i < cut) : gb (L.take cut) i = gb L i := by
  simp [gb, List.getD, h]
def qe (L : List Int) (i : Nat) (odd : Bool) : Option Nat :=
  if _h : i < L.length then
    if gb L i = 34 ∧ odd = false then some (i + 1) else qe L (i + 1) (decide (gb L i = 92) && !odd)
  else none
termination_by L.length - i
theorem qe_out {L : List Int} {i : Nat} {o : Bool} (h : L.length ≤ i) : qe L i o = none := by rw [qe, dif_neg (by omega)]
theorem qe_mark {L : List Int} {i : Nat} (h : i < L.length) (e : gb L i = 34) : qe L i false = some (i + 1) := by rw [qe, dif_pos h, if_pos ⟨e, rfl⟩]
theorem qe_esc {L : List Int} {i : Nat} (h : i < L.length) (e : gb L i = 92) : qe L i false = qe L (i + 1) true := by
  rw [qe, dif_pos h, if_neg (by omega)]
  simp [e]
theorem qe_odd {L : List Int} {i : Nat} (h : i < L.length) : qe L i true = qe L (i + 1) false := by
  rw [qe, dif_pos h, if_neg (by simp)]
  simp
theorem qe_skip {L : List Int} {i : Nat} (h : i < L.length) (h1 : gb L i ≠ 34) (h2 : gb L i ≠ 92) : qe L i false = qe L (i + 1) false := by
  rw [qe, dif_pos h, if_neg (by omega)]
  simp [h2]
theorem qe_le (L : List Int) : ∀ (d i j : Nat) (o : Bool), L.length - i ≤ d → qe L i o = some j → i < j ∧ j ≤ L.length := by
  intro d
  induction d with
  | zero =>
    intro i j o hd h
    rw [qe_out (by omega)] at h
    cases h
  | succ d ih =>
    intro i j o hd h
    rw [qe] at h
    split at h
    · split at h
      · injection h with h
        omega
      · have := ih (i + 1) j _ (by omega) h
        omega
    · cases h
theorem qe_cut (L : List Int) (cut : Nat) : ∀ (d i j : Nat) (o : Bool), L.length - i ≤ d → qe L i o = some j → cut < j → qe (L.take cut) i o = none := by
  intro d
  induction d with
  | zero =>
    intro i j o hd h
    rw [qe_out (by omega)] at h
    cases h
  | succ d ih =>
    intro i j o hd h hc
    by_cases hi : i < cut
    · rw [qe] at h
      split at h
      · rename_i hl
        rw [qe, dif_pos (by rw [List.length_take]; omega), gb_take hi]
        split at h
        · injection h with h
          omega
        · rename_i hn
          rw [if_neg hn]
          exact ih (i + 1) j _ (by omega) h hc
      · cases h
    · exact qe_out (by rw [List.length_take]; omega)
theorem qe_take (L : List Int) (cut : Nat) : ∀ (d i j : Nat) (o : Bool), L.length - i ≤ d → qe L i o = some j → j ≤ cut → qe (L.take cut) i o = some j := by
  intro d
  induction d with
  | zero =>
    intro i j o hd h
    rw [qe_out (by omega)] at h
    cases h
  | succ d ih =>
    intro i j o hd h hc
    have hj := qe_le L _ i j o (Nat.le_refl _) h
    rw [qe] at h
    split at h
    · rename_i hl
      rw [qe, dif_pos (by rw [List.length_take]; omega), gb_take (by omega)]
      split at h
      · rename_i hn
        rw [if_pos hn]
        exact h
      · rename_i hn
        rw [if_neg hn]
        exact ih (i + 1) j _ (by omega) h hc
    · cases h
/-- The end of a string of a JSON text is where jsonparser finds it. -/
theorem st_qe (L : List Int) : ∀ (d i j : Nat), L.length - i ≤ d → st L i = some j → qe L i false = some j := by
  intro d
  induction d with
  | zero =>
    intro i j hd h
    rw [st, dif_neg (by omega)] at h
    cases h
  | succ d ih =>
    intro i j hd h
    rw [st] at h
    split at h
    · rename_i hl
      split at h
      · rename_i e
        rw [qe_mark hl e]
        exact h
      · rename_i n34
        split at h
        · cases h
        · split at h
          · rename_i e92
            split at h
            · cases h
            · rename_i k hk
              have hr := ih k j (by have := escE_le hk; omega) h
              rw [qe_esc hl e92, ← hr]
              unfold escE at hk
              split at hk
              · rename_i hs
                have := short_in hs
                injection hk with hk
                subst hk
                exact qe_odd this
              · split at hk
                · rename_i e117
                  split at hk
                  · rename_i hx
                    injection hk with hk
                    subst hk
                    obtain ⟨x1, x2, x3, x4⟩ := hx
                    have l1 := hex_in x1
                    have l2 := hex_in x2
                    have l3 := hex_in x3
                    have l4 := hex_in x4
                    have sk : ∀ k, isHex (gb L k) → gb L k ≠ 34 ∧ gb L k ≠ 92 := fun k hk => by unfold isHex at hk; omega
                    rw [qe_odd (by omega), qe_skip l1 (sk _ x1).1 (sk _ x1).2, qe_skip l2 (sk _ x2).1 (sk _ x2).2, qe_skip l3 (sk _ x3).1 (sk _ x3).2, qe_skip l4 (sk _ x4).1 (sk _ x4).2]
                  · cases hk
                · cases hk
          · rename_i n92
            rw [qe_skip hl n34 n92]
            exact ih (i + 1) j (by omega) h
    · cases h
/-- Behind the bracket that closes a block: v the level. -/
def be (L : List Int) (o c : Int) (i : Nat) (v : Int) : Option Nat :=
  if _h : i < L.length then
    if gb L i = 34 then
      match _hq : qe L (i + 1) false with
      | none => none
      | some j => be L o c j v
    else if gb L i = o then be L o c (i + 1) (v + 1)
    else if gb L i = c then (if v - 1 = 0 then some (i + 1) else be L o c (i + 1) (v - 1))
    else be L o c (i + 1) v
  else none
termination_by L.length - i
decreasing_by
  · have := qe_le L _ _ _ _ (Nat.le_refl _) _hq; omega
  all_goals omega
theorem be_out {L : List Int} {o c : Int} {i : Nat} {v : Int} (h : L.length ≤ i) : be L o c i v = none := by rw [be, dif_neg (by omega)]
theorem be_str {L : List Int} {o c : Int} {i j : Nat} {v : Int} (h : i < L.length) (e : gb L i = 34) (hq : qe L (i + 1) false = some j) : be L o c i v = be L o c j v := by
  rw [be, dif_pos h, if_pos e]
  split
  · rename_i h2
    rw [hq] at h2
    cases h2
  · rename_i k h2
    rw [hq] at h2
    injection h2 with h2
    rw [h2]
theorem be_str_no {L : List Int} {o c : Int} {i : Nat} {v : Int} (h : i < L.length) (e : gb L i = 34) (hq : qe L (i + 1) false = none) : be L o c i v = none := by
  rw [be, dif_pos h, if_pos e]
  split
  · rfl
  · rename_i k h2
    rw [hq] at h2
    cases h2
/-- The two kinds of brackets. -/
def OC (o c : Int) : Prop := (o = 91 ∧ c = 93) ∨ (o = 123 ∧ c = 125)
/-- What is neither a quotation mark nor a bracket. -/
def Pl (c : Int) : Prop := c ≠ 34 ∧ c ≠ 91 ∧ c ≠ 93 ∧ c ≠ 123 ∧ c ≠ 125
section
variable {L : List Int} {o c : Int}
theorem be_open {i : Nat} {v : Int} (hoc : OC o c) (h : at_ L i o) : be L o c i v = be L o c (i + 1) (v + 1) := by
  obtain ⟨h1, h2⟩ := h
  unfold OC at hoc
  rw [be, dif_pos h1, if_neg (by omega), if_pos h2]
theorem be_close {i : Nat} {v : Int} (hoc : OC o c) (h : at_ L i c) (hv : v ≠ 1) : be L o c i v = be L o c (i + 1) (v - 1) := by
  obtain ⟨h1, h2⟩ := h
  unfold OC at hoc
  rw [be, dif_pos h1, if_neg (by omega), if_neg (by omega), if_pos h2, if_neg (by omega)]
theorem be_end {i : Nat} (hoc : OC o c) (h : at_ L i c) : be L o c i 1 = some (i + 1) := by
  obtain ⟨h1, h2⟩ := h
  unfold OC at hoc
  rw [be, dif_pos h1, if_neg (by omega), if_neg (by omega), if_pos h2, if_pos (by omega)]
theorem be_other {i : Nat} {v : Int} (h : i < L.length) (h1 : gb L i ≠ 34) (h2 : gb L i ≠ o) (h3 : gb L i ≠ c) : be L o c i v = be L o c (i + 1) v := by
  rw [be, dif_pos h, if_neg h1, if_neg h2, if_neg h3]
theorem be_plain {i : Nat} {v : Int} (hoc : OC o c) (h : i < L.length) (hp : Pl (gb L i)) : be L o c i v = be L o c (i + 1) v := by
  unfold OC at hoc
  unfold Pl at hp
  exact be_other h hp.1 (by omega) (by omega)
theorem be_run (hoc : OC o c) {v : Int} : ∀ (d i e : Nat), e - i = d → i ≤ e → e ≤ L.length → (∀ k, i ≤ k → k < e → Pl (gb L k)) → be L o c i v = be L o c e v := by
  intro d
  induction d with
  | zero =>
    intro i e hd h1 h2 hp
    obtain rfl : i = e := by omega
    rfl
  | succ d ih =>
    intro i e hd h1 h2 hp
    rw [be_plain hoc (by omega) (hp i (Nat.le_refl _) (by omega))]
    exact ih (i + 1) e (by omega) (by omega) h2 (fun k hk => hp k (by omega))
theorem be_cut (cut : Nat) : ∀ (d i e : Nat) (v : Int), L.length - i ≤ d → be L o c i v = some e → cut < e → be (L.take cut) o c i v = none := by
  intro d
  induction d with
  | zero =>
    intro i e v hd h
    rw [be_out (by omega)] at h
    cases h
  | succ d ih =>
    intro i e v hd h hc
    by_cases hi : i < cut
    · by_cases hl : i < L.length
      · have hlt : i < (L.take cut).length := by rw [List.length_take]; omega
        by_cases h34 : gb L i = 34
        · have g34 : gb (L.take cut) i = 34 := by rw [gb_take hi]; exact h34
          cases hq : qe L (i + 1) false with
          | none =>
            rw [be_str_no hl h34 hq] at h
            cases h
          | some j =>
            rw [be_str hl h34 hq] at h
            have hj := qe_le L _ _ _ _ (Nat.le_refl _) hq
            by_cases hjc : cut < j
            · exact be_str_no hlt g34 (qe_cut L cut _ _ _ _ (Nat.le_refl _) hq hjc)
            · rw [be_str hlt g34 (qe_take L cut _ _ _ _ (Nat.le_refl _) hq (by omega))]
              exact ih j e v (by omega) h hc
        · rw [be, dif_pos hl, if_neg h34] at h
          rw [be, dif_pos hlt, gb_take hi, if_neg h34]
          split at h
          · rename_i h1
            rw [if_pos h1]
            exact ih (i + 1) e _ (by omega) h hc
          · rename_i h1
            rw [if_neg h1]
            split at h
            · rename_i h2
              rw [if_pos h2]
              split at h
              · injection h with h
                omega
              · rename_i h3
                rw [if_neg h3]
                exact ih (i + 1) e _ (by omega) h hc
            · rename_i h2
              rw [if_neg h2]
              exact ih (i + 1) e _ (by omega) h hc
      · rw [be_out (by omega)] at h
        cases h
    · exact be_out (by rw [List.length_take]; omega)
end
theorem be_le (l : List Int) (o c : Int) : ∀ (d i j : Nat) (v : Int), l.length - i ≤ d → be l o c i v = some j → i < j ∧ j ≤ l.length := by
  intro d
  induction d with
  | zero =>
    intro i j v hd h
    rw [be_out (by omega)] at h
    cases h
  | succ d ih =>
    intro i j v hd h
    by_cases hi : i < l.length
    · by_cases h34 : gb l i = 34
      · cases hqe : qe l (i + 1) false with
        | none =>
          rw [be_str_no hi h34 hqe] at h
          cases h
        | some k =>
          have hk := qe_le l _ _ _ _ (Nat.le_refl _) hqe
          rw [be_str hi h34 hqe] at h
          have := ih k j v (by omega) h
          omega
      · rw [be, dif_pos hi, if_neg h34] at h
        split at h
        · have := ih _ _ _ (by omega) h
          omega
        · split at h
          · split at h
            · injection h with h
              omega
            · have := ih _ _ _ (by omega) h
              omega
          · have := ih _ _ _ (by omega) h
            omega
    · rw [be_out (by omega)] at h
      cases h
/-! ### Where a number, a word ends for jsonparser -/
/-- What ends a number or a word. -/
def isDl (c : Int) : Prop := c = 32 ∨ c = 10 ∨ c = 13 ∨ c = 9 ∨ c = 44 ∨ c = 125 ∨ c = 93
instance (c : Int) : Decidable (isDl c) := by unfold isDl; infer_instance
def te (l : List Int) (i : Nat) : Nat := if _h : i < l.length ∧ ¬ isDl (gb l i) then te l (i + 1) else i
termination_by l.length - i
theorem te_go {l : List Int} {i : Nat} (h : i < l.length) (h2 : ¬ isDl (gb l i)) : te l i = te l (i + 1) := by rw [te, dif_pos ⟨h, h2⟩]
theorem te_stop {l : List Int} {i : Nat} (h : l.length ≤ i ∨ isDl (gb l i)) : te l i = i := by
  rw [te, dif_neg]
  rintro ⟨h1, h2⟩
  rcases h with h | h
  · omega
  · exact h2 h
theorem te_le (l : List Int) : ∀ (d i : Nat), l.length - i ≤ d → i ≤ l.length → i ≤ te l i ∧ te l i ≤ l.length := by
  intro d
  induction d with
  | zero =>
    intro i hd hi
    rw [te_stop (.inl (by omega))]
    omega
  | succ d ih =>
    intro i hd hi
    by_cases h : i < l.length ∧ ¬ isDl (gb l i)
    · rw [te_go h.1 h.2]
      have := ih (i + 1) (by omega) (by omega)
      omega
    · rw [te_stop (by by_cases h1 : i < l.length; (right; exact Classical.byContradiction (fun h2 => h ⟨h1, h2⟩)); (left; omega))]
      omega
theorem te_end {l : List Int} : ∀ (d i e : Nat), e - i = d → i ≤ e → e ≤ l.length → (∀ k, i ≤ k → k < e → ¬ isDl (gb l k)) → (e = l.length ∨ isDl (gb l e)) → te l i = e := by
  intro d
  induction d with
  | zero =>
    intro i e hd h1 h2 hk he
    obtain rfl : i = e := by omega
    exact te_stop (he.imp (fun h => by omega) id)
  | succ d ih =>
    intro i e hd h1 h2 hk he
    rw [te_go (by omega) (hk i (Nat.le_refl _) (by omega))]
    exact ih (i + 1) e (by omega) (by omega) h2 (fun k hk1 hk2 => hk k (by omega) hk2) he
/-- The value at off, as getTypeConfig has it: of kind k up to e. -/
def Gtv (L : List Int) (off : Nat) (k : Int) (e : Nat) : Prop :=
  (gb L off = 34 ∧ k = 1 ∧ qe L (off + 1) false = some e) ∨ (gb L off = 91 ∧ k = 4 ∧ be L 91 93 off 0 = some e) ∨ (gb L off = 123 ∧ k = 3 ∧ be L 123 125 off 0 = some e) ∨
  ((gb L off = 45 ∨ (48 ≤ gb L off ∧ gb L off ≤ 57)) ∧ k = 2 ∧ te L off = e) ∨
  ((L.take (te L off)).drop off = [116, 114, 117, 101] ∧ k = 5 ∧ te L off = e) ∨ ((L.take (te L off)).drop off = [102, 97, 108, 115, 101] ∧ k = 5 ∧ te L off = e) ∨
  ((L.take (te L off)).drop off = [110, 117, 108, 108] ∧ k = 6 ∧ te L off = e)
end Go.Proofs.YtgbliniamkpocaaDoor.Jp
