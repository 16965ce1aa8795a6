/- Small words on blocks of bytes: rows that the call has made, of whatever element's or array's type. -/
import Derived.Test.YtphpjboljlkdkaaDoorWWords
import Derived.Lib.ConvBytes
import Derived.Deep.AppendSrc
import Derived.Deep.AppendLies
import Derived.Lib.Strings
namespace Go.Proofs.YtphpjboljlkdkaaDoor.Kit
open Go.RowKit Go.Proofs.YtphpjboljlkdkaaDoorW.PrintWords

/-- Block g holds bytes: its first cells are l, and none of its first 'cap' cells is frozen. -/
def BB (w : World) (g : Nat) (cap : Nat) (l : List Int) : Prop :=
  ∃ cs t lo hi, w.heap[g]? = some (.cells cs t (lo, hi)) ∧ cap ≤ cs.size ∧ (lo = hi ∨ cap ≤ lo) ∧ l.length ≤ cap ∧ ∀ j, j < l.length → cs[j]? = some (.int .u8 (l.getD j 0))

section
variable {w w1 : World} {g cap : Nat} {l : List Int}
theorem BB.le (h : BB w g cap l) : l.length ≤ cap := by
  obtain ⟨cs, t, lo, hi, h1, h2, h3, h4, h5⟩ := h
  exact h4
theorem BB.lt (h : BB w g cap l) : g < w.heap.size := by
  obtain ⟨cs, t, lo, hi, h1, h2⟩ := h
  exact (Array.getElem?_eq_some_iff.1 h1).1
theorem BB.cell (h : BB w g cap l) (j : Nat) (hj : j < l.length) : w.cell? ⟨g, j, none⟩ = some (.int .u8 (l.getD j 0)) := by
  obtain ⟨cs, t, lo, hi, h1, h2, h3, h4, h5⟩ := h
  have := h5 j hj
  simpa [World.cell?, h1] using this
theorem BB.there (h : BB w g cap l) (j : Nat) (hj : j < cap) : (w.cell? ⟨g, j, none⟩).isSome = true := by
  obtain ⟨cs, t, lo, hi, h1, h2, h3, h4, h5⟩ := h
  simp [World.cell?, h1]
  omega
theorem BB.frozen (h : BB w g cap l) (j : Nat) (hj : j < cap) : w.frozen? ⟨g, j, none⟩ = false := by
  obtain ⟨cs, t, lo, hi, h1, h2, h3, h4, h5⟩ := h
  simp [World.frozen?, h1]
  omega
theorem BB.set (h : BB w g cap l) (j : Nat) (hj : j < l.length) (x : Int) : BB (w.setCell ⟨g, j, none⟩ (.int .u8 x)) g cap (l.set j x) := by
  obtain ⟨cs, t, lo, hi, h1, h2, h3, h4, h5⟩ := h
  refine ⟨cs.setIfInBounds j (.int .u8 x), t, lo, hi, by simp [World.setCell, Array.getElem?_modify, h1], by simpa using h2, h3, by simpa using h4, fun i hi' => ?_⟩
  rw [List.length_set] at hi'
  by_cases e : j = i
  · subst e
    rw [Array.getElem?_setIfInBounds_self_of_lt (by omega)]
    simp [List.getD, hi']
  · have := h5 i hi'
    rw [Array.getElem?_setIfInBounds_ne e, this]
    simp [List.getD, List.getElem?_set_ne e]
/-- A store behind the last byte. -/
theorem BB.push (h : BB w g cap l) (hj : l.length < cap) (x : Int) : BB (w.setCell ⟨g, l.length, none⟩ (.int .u8 x)) g cap (l ++ [x]) := by
  obtain ⟨cs, t, lo, hi, h1, h2, h3, h4, h5⟩ := h
  refine ⟨cs.setIfInBounds l.length (.int .u8 x), t, lo, hi, by simp [World.setCell, Array.getElem?_modify, h1], by simpa using h2, h3, by simp; omega, fun i hi' => ?_⟩
  by_cases e : l.length = i
  · subst e
    rw [Array.getElem?_setIfInBounds_self_of_lt (by omega)]
    simp [List.getD]
  · have hlt : i < l.length := by simp at hi'; omega
    rw [Array.getElem?_setIfInBounds_ne e, h5 i hlt]
    simp [List.getD, List.getElem?_append_left hlt]
theorem BB.take (h : BB w g cap l) (n : Nat) : BB w g cap (l.take n) := by
  obtain ⟨cs, t, lo, hi, h1, h2, h3, h4, h5⟩ := h
  refine ⟨cs, t, lo, hi, h1, h2, h3, by simp; omega, fun j hj => ?_⟩
  have hj' : j < l.length ∧ j < n := by simp at hj; omega
  rw [h5 j hj'.1]
  simp [List.getD, hj'.2]
theorem BB.pushes (hB : ∀ x ∈ l, True) : ∀ (news : List Int) {w : World} {l : List Int}, BB w g cap l → l.length + news.length ≤ cap → BB (w.setCells g l.length (news.map (Value.int .u8))) g cap (l ++ news)
  | [], w, l, h, _ => by simpa [World.setCells] using h
  | x :: news, w, l, h, hl => by
    have h1 := h.push (by simp at hl; omega) x
    have h2 := BB.pushes hB news h1 (by simp at hl ⊢; omega)
    simpa [World.setCells] using h2
theorem BB.block (h : BB w g cap l) (hb : w1.heap[g]? = w.heap[g]?) : BB w1 g cap l := by
  obtain ⟨cs, t, lo, hi, h1, r⟩ := h
  exact ⟨cs, t, lo, hi, hb.trans h1, r⟩
theorem BB.below (h : BB w g cap l) (hb : Below w.heap.size w w1) : BB w1 g cap l := h.block (hb.block g h.lt)
theorem BB.grown {row : Option Nat} (h : BB w g cap l) (hg : w.grownBy w1 row) (hne : some g ≠ row) : BB w1 g cap l := h.block (hg.block g h.lt hne)
theorem BB.alloc (h : BB w g cap l) (o : Obj) : BB (w.alloc o) g cap l := h.block (Below.heap_alloc w o g h.lt)
theorem BB.drewN (h : BB w g cap l) (n : Nat) : BB (w.drewN n) g cap l := h
theorem BB.drew (h : BB w g cap l) : BB w.drew g cap l := h
theorem BB.far (h : BB w g cap l) {p : Addr} (hp : g ≠ p.block) (u : Value) : BB (w.setCell p u) g cap l := h.block (Below.heap_setCell w p u g hp)
theorem BB.conv (w : World) (e : TypeId) (s : ByteArray) : BB (Lib.bytesWorld w e s) w.heap.size (Lib.bytesCells w e s).size (s.data.toList.map fun c => (c.toNat : Int)) := by
  refine ⟨_, _, _, _, Lib.bytesWorld_at_new w e s, Nat.le_refl _, .inr (Nat.le_refl _), ?_, fun j hj => ?_⟩
  · simp [Lib.bytesCells]
  · simp only [List.length_map, Array.length_toList] at hj
    have hj' : j < s.size := hj
    simp [Lib.bytesCells, Array.getElem?_append, List.getD, hj']
theorem BB.str {P : Program} {src dst e : TypeId} {c : Nat} (h : BB w g cap l) (hs : P.underlying src = some (.slice e)) (he : P.underlying e = some (.int .u8)) (hd : P.underlying dst = some .string) (hl : l.length ≤ 9223372036854775807) :
    (convert src dst (.slice (some ⟨g, 0, none⟩) l.length c)).run P w = .ok (.string (strOfNums l)) w :=
  string_of_reads hs he hd ⟨rfl, hl, fun _ => ⟨_, rfl, fun j hj => by
    have e : (⟨g, 0, none⟩ : Addr).add j = ⟨g, j, none⟩ := by
      simp only [Addr.add]
      split <;> simp_all
    rw [e]
    exact h.cell j hj⟩⟩
end
theorem below_conv (w : World) (e : TypeId) (s : ByteArray) : Below w.heap.size w (Lib.bytesWorld w e s) :=
  ⟨rfl, rfl, rfl, by rw [Lib.bytesWorld_size]; omega, fun i hi => Lib.bytesWorld_at_old w e s i hi⟩

/-- v is a slice of the bytes l that begins its block, a block from B on; or nil. -/
def OB (B : Nat) (w : World) (v : Value) (l : List Int) : Prop := (v = .slice none 0 0 ∧ l = []) ∨ ∃ g cap, v = .slice (some ⟨g, 0, none⟩) l.length cap ∧ B ≤ g ∧ BB w g cap l

section
variable {P : Program} {w w1 : World} {B : Nat} {v : Value} {l : List Int}
theorem OB.nil (B : Nat) (w : World) : OB B w (.slice none 0 0) [] := .inl ⟨rfl, rfl⟩
theorem OB.mk {g cap : Nat} (hg : B ≤ g) (h : BB w g cap l) : OB B w (.slice (some ⟨g, 0, none⟩) l.length cap) l := .inr ⟨g, cap, rfl, hg, h⟩
theorem OB.imp (h : OB B w v l) (k : ∀ g cap, BB w g cap l → BB w1 g cap l) : OB B w1 v l := Or.imp id (fun ⟨g, cap, e, hg, h⟩ => ⟨g, cap, e, hg, k g cap h⟩) h
theorem OB.below (h : OB B w v l) (hb : Below w.heap.size w w1) : OB B w1 v l := h.imp fun _ _ h => h.below hb
theorem OB.alloc (h : OB B w v l) (o : Obj) : OB B (w.alloc o) v l := h.imp fun _ _ h => h.alloc o
theorem OB.drew (h : OB B w v l) : OB B w.drew v l := h
theorem OB.drewN (h : OB B w v l) (n : Nat) : OB B (w.drewN n) v l := h
theorem OB.lt (h : OB B w v l) : ∀ k, v.ownBlock = some k → B ≤ k ∧ k < w.heap.size := by
  rcases h with ⟨rfl, _⟩ | ⟨g, cap, rfl, hg, h⟩
  · intro k hk
    simp [Value.ownBlock] at hk
  · intro k hk
    have : g = k := by simpa [Value.ownBlock] using hk
    subst this
    exact ⟨hg, h.lt⟩
theorem OB.slice (h : OB B w v l) : ∃ a cap, v = .slice a l.length cap := by
  rcases h with ⟨rfl, rfl⟩ | ⟨g, cap, e, _⟩
  · exact ⟨none, 0, rfl⟩
  · exact ⟨_, cap, e⟩
theorem OB.str {src dst e : TypeId} (h : OB B w v l) (hs : P.underlying src = some (.slice e)) (he : P.underlying e = some (.int .u8)) (hd : P.underlying dst = some .string) (hl : l.length ≤ 9223372036854775807) :
    (convert src dst v).run P w = .ok (.string (strOfNums l)) w := by
  rcases h with ⟨rfl, rfl⟩ | ⟨g, cap, rfl, hg, h⟩
  · exact run_convert_bytes_nil w src e hs he 0 0 dst hd
  · exact h.str hs he hd hl

theorem setCells_grown (g o : Nat) (vs : List Value) (w : World) : w.grownBy (w.setCells g o vs) (some g) := by
  obtain ⟨h1, h2, h3, h4⟩ := setCells_same g vs o w
  exact ⟨h1, h2, h3, by omega, fun k _ hk => setCells_far vs o k (fun e => hk (by rw [e]))⟩

/-- append onto bytes of the call's own, whatever is appended. -/
theorem OB.append {t tx ty e : TypeId} {i : TypeInfo} (ht : P.underlying t = some (.slice e)) (hi : P.info? e = some i) (hz : i.zero = some (.int .u8 0)) (hsz : i.size = 1) (hby : i.bytes = 1)
    (h : OB B w v l) (hB : B ≤ w.heap.size) {x : Value} {news : List Int} (hs : Src P 1 tx x news.length (news.map (Value.int .u8)) w) (hfit : l.length + news.length ≤ 140737488355327) :
    ∃ v' w', (Builtin.append_ #[t, tx] ty #[v, x]).run P w = .ok v' w' ∧ OB B w' v' (l ++ news) ∧ w.grownBy w' v.ownBlock ∧ (v'.ownBlock = v.ownBlock ∨ ∃ b, v'.ownBlock = some b ∧ w.heap.size ≤ b) := by
  have hs' : Src P i.size tx x news.length (news.map (Value.int .u8)) w := by rw [hsz]; exact hs
  rcases h with ⟨rfl, rfl⟩ | ⟨g, cap, rfl, hg, h⟩
  · by_cases hn : news.length = 0
    · obtain rfl : news = [] := List.eq_nil_of_length_eq_zero hn
      refine ⟨.slice none 0 0, w, ?_, .inl ⟨rfl, rfl⟩, ⟨rfl, rfl, rfl, Nat.le_refl _, fun _ _ _ => rfl⟩, .inl rfl⟩
      have hc : (Builtin.firstCells i.size 0 x).run P w = .ok #[] w := by simpa using hs'.cells
      rcases hs'.kind with ⟨e', hk⟩ | hk <;> simp [Builtin.append_, run_underlying ht, run_underlying hk, sizeOf, typeInfo, hi, hs'.len, hc]
    · have hold : (Builtin.firstCells i.size 0 (.slice none 0 0)).run P w.drew = .ok (([] : List Value)).toArray w.drew := run_firstCells_none w.drew i.size 0 0 0
      have hr := run_append_grow_src (P := P) w t tx ty e i (.int .u8 0) ht hi hz none 0 0 [] hold x news.length (news.map (Value.int .u8)) hs' (by omega) (by simp at hfit; omega)
        (growslice_fits (by omega) (by rw [hby]; simp at hfit; omega))
      have hge := grownCap_ge w (0 + news.length) 0 e
      refine ⟨_, _, hr, .inr ⟨w.heap.size, grownCap w (0 + news.length) 0 e, by simp, hB, ?_⟩, ⟨rfl, rfl, rfl, by simp, fun k hk _ => heap_alloc_old w.drew _ hk⟩, .inr ⟨w.heap.size, rfl, Nat.le_refl _⟩⟩
      refine ⟨_, _, 0, 0, heap_alloc_new w.drew _, ?_, .inl rfl, by simpa using hge, fun j hj => ?_⟩
      · simp only [Array.size_append, List.size_toArray, size_zeroCells, List.length_append, List.length_map, List.length_nil]
        show _ ≤ _ + _ * 1
        omega
      · rw [List.nil_append] at hj
        rw [Array.getElem?_append_left (by simpa using hj)]
        rw [List.getElem?_toArray, List.nil_append, List.nil_append, List.getElem?_map, List.getD_eq_getElem?_getD, List.getElem?_eq_getElem hj]
        rfl
  by_cases hroom : l.length + news.length ≤ cap
  · have hr := run_append_room_src (P := P) w t tx ty e i ht hi g 0 l.length cap x news.length (news.map (Value.int .u8)) hs' hroom
      (fun j hj => by rw [hsz, Nat.zero_add, Nat.mul_one]; exact h.there _ (by simp at hj; omega)) (fun j hj => by rw [hsz, Nat.zero_add, Nat.mul_one]; exact h.frozen _ (by simp at hj; omega))
    rw [hsz, Nat.zero_add, Nat.mul_one] at hr
    refine ⟨_, _, hr, .inr ⟨g, cap, by rw [List.length_append], hg, BB.pushes (l := []) (fun _ _ => trivial) news h hroom⟩, setCells_grown g _ _ w, .inl rfl⟩
  · have hold : (Builtin.firstCells i.size l.length (.slice (some ⟨g, 0, none⟩) l.length cap)).run P w.drew = .ok (l.map (Value.int .u8)).toArray w.drew := by
      rw [hsz]
      refine run_firstCells_some w.drew 1 l.length ⟨g, 0, none⟩ l.length cap (l.map (Value.int .u8)) (by simp) (fun j u hj => ?_)
      have e : (⟨g, 0, none⟩ : Addr).add j = ⟨g, j, none⟩ := by
        simp only [Addr.add]
        split <;> simp_all
      have hjl : j < l.length := by
        rcases Nat.lt_or_ge j l.length with h' | h'
        · exact h'
        · rw [List.getElem?_eq_none (by simpa using h')] at hj
          cases hj
      have := h.cell j hjl
      rw [e]
      rw [List.getElem?_map, List.getElem?_eq_getElem hjl] at hj
      simp at hj
      subst hj
      simpa [List.getD, hjl] using this
    have hr := run_append_grow_src (P := P) w t tx ty e i (.int .u8 0) ht hi hz (some ⟨g, 0, none⟩) l.length cap (l.map (Value.int .u8)) hold x news.length (news.map (Value.int .u8)) hs' (by omega) (by omega)
      (growslice_fits (by omega) (by rw [hby]; omega))
    have hge := grownCap_ge w (l.length + news.length) cap e
    refine ⟨_, _, hr, .inr ⟨w.heap.size, grownCap w (l.length + news.length) cap e, by rw [List.length_append], hB, ?_⟩, ⟨rfl, rfl, rfl, by simp, fun k hk _ => heap_alloc_old w.drew _ hk⟩, .inr ⟨w.heap.size, rfl, Nat.le_refl _⟩⟩
    refine ⟨_, _, 0, 0, heap_alloc_new w.drew _, ?_, .inl rfl, by simpa using hge, fun j hj => ?_⟩
    · simp only [Array.size_append, List.size_toArray, size_zeroCells, List.length_append, List.length_map]
      show _ ≤ _ + _ * 1
      omega
    · rw [Array.getElem?_append_left (by simpa using hj)]
      have hj' : j < l.length + news.length := by simpa using hj
      rw [List.getElem?_toArray, ← List.map_append, List.getElem?_map, List.getD_eq_getElem?_getD, List.getElem?_eq_getElem hj]
      rfl

def nums (s : ByteArray) : List Int := s.data.toList.map fun c => (c.toNat : Int)
theorem nums_get (s : ByteArray) (i : Nat) (h : i < s.size) : (nums s).getD i 0 = (s[i].toNat : Int) := by
  have h' : i < s.data.toList.length := by simpa using h
  simp only [nums, List.getD, List.getElem?_map]
  rw [List.getElem?_eq_getElem h']
  simp
  rfl
theorem nums_len (s : ByteArray) : (nums s).length = s.size := by simp [nums]
theorem nums_extract (s : ByteArray) (a b : Nat) : nums (s.extract a b) = ((nums s).drop a).take (b - a) := by
  simp [nums, List.map_drop, List.map_take]
/-- What is appended: a string's bytes. -/
theorem src_str {tx : TypeId} (hk : P.underlying tx = some .string) (s : ByteArray) (w : World) : Src P 1 tx (.string s) (nums s).length ((nums s).map (Value.int .u8)) w := by
  have h := Src.ofString (P := P) w hk s
  rw [nums_len]
  have e : byteCells s = (nums s).map (Value.int .u8) := by simp [byteCells, nums]
  rw [← e]
  exact h
/-- What is appended: the bytes of a literal's own block. -/
theorem src_lit {tx e' : TypeId} (hk : P.underlying tx = some (.slice e')) (news : List Int) {w : World} {g c : Nat} {t : TypeId} {fr : Nat × Nat} {cs : Array Value} (hb : w.heap[g]? = some (.cells cs t fr)) (hcs : cs = (news.map (Value.int .u8)).toArray) :
    Src P 1 tx (.slice (some ⟨g, 0, none⟩) news.length c) news.length (news.map (Value.int .u8)) w := by
  subst hcs
  refine Src.ofSlice w hk _ _ _ _ (by simp) (World.news_of_block hb) (fun u hu => ?_)
  obtain ⟨x, _, rfl⟩ := List.mem_map.1 hu
  rfl

/-- At the list of a plain region's operations. -/
theorem wpList_append_ob {ops : Array Oper} {rest : List Oper} {o : Oper} {a : Act} {Q : Exit → Act → World → Prop} (hgd : o.guard = none) (s x : Operand) (t tx : TypeId)
    (ho : o.op = .call { callee := .builtin .append, args := #[s, x], argTypes := #[t, tx] })
    {e : TypeId} {i : TypeInfo} (ht : P.underlying t = some (.slice e)) (hi : P.info? e = some i) (hz : i.zero = some (.int .u8 0)) (hsz : i.size = 1) (hby : i.bytes = 1)
    (v : Value) (l : List Int) (hs : a.eval s = v) (h : OB B w v l) (hB : B ≤ w.heap.size) (y : Value) (news : List Int) (hx : a.eval x = y) (hsrc : Src P 1 tx y news.length (news.map (Value.int .u8)) w) (hfit : l.length + news.length ≤ 140737488355327)
    (K : ∀ v' w', OB B w' v' (l ++ news) → w.grownBy w' v.ownBlock → wpList P ops Q rest (a.put o.dst v') w') : wpList P ops Q (o :: rest) a w :=
  wpList_plain hgd fun _ hK => by
    obtain ⟨v', w', hr, h2, h3, _⟩ := OB.append (P := P) (ty := o.type) ht hi hz hsz hby h hB hsrc hfit
    unfold Oper.wp execOp
    simp only [ho, resolve, invoke, builtin, Sem.run_bind, Sem.run_pure, Result.andThen_ok, List.map_toArray, List.map_cons, List.map_nil, hs, hx, hr]
    exact hK _ _ (K v' w' h2 h3)
/-- At a step of a region that draws its order. -/
theorem step_append_ob {ops : Array Oper} {o : Oper} {a : Act} {K : Act → World → Prop} {Q : Exit → Act → World → Prop} {E : Prop} (hgd : o.guard = none) (s x : Operand) (t tx : TypeId)
    (ho : o.op = .call { callee := .builtin .append, args := #[s, x], argTypes := #[t, tx] })
    {e : TypeId} {i : TypeInfo} (ht : P.underlying t = some (.slice e)) (hi : P.info? e = some i) (hz : i.zero = some (.int .u8 0)) (hsz : i.size = 1) (hby : i.bytes = 1)
    (v : Value) (l : List Int) (hs : a.eval s = v) (h : OB B w v l) (hB : B ≤ w.heap.size) (y : Value) (news : List Int) (hx : a.eval x = y) (hsrc : Src P 1 tx y news.length (news.map (Value.int .u8)) w) (hfit : l.length + news.length ≤ 140737488355327)
    (k : ∀ v' w', OB B w' v' (l ++ news) → w.grownBy w' v.ownBlock → K (a.put o.dst v') w') : if Region.wanted o (yielded ops a.tmps) = true then Oper.wp P o a w K Q else E := by
  have hw : Region.wanted o (yielded ops a.tmps) = true := by simp [Region.wanted, hgd]
  rw [if_pos hw]
  obtain ⟨v', w', hr, h2, h3, _⟩ := OB.append (P := P) (ty := o.type) ht hi hz hsz hby h hB hsrc hfit
  unfold Oper.wp execOp
  simp only [ho, resolve, invoke, builtin, Sem.run_bind, Sem.run_pure, Result.andThen_ok, List.map_toArray, List.map_cons, List.map_nil, hs, hx, hr]
  exact k v' w' h2 h3
/-- The same, and which block it is. At the list of a plain region's operations. -/
theorem wpList_append_obg {ops : Array Oper} {rest : List Oper} {o : Oper} {a : Act} {Q : Exit → Act → World → Prop} (hgd : o.guard = none) (s x : Operand) (t tx : TypeId)
    (ho : o.op = .call { callee := .builtin .append, args := #[s, x], argTypes := #[t, tx] })
    {e : TypeId} {i : TypeInfo} (ht : P.underlying t = some (.slice e)) (hi : P.info? e = some i) (hz : i.zero = some (.int .u8 0)) (hsz : i.size = 1) (hby : i.bytes = 1)
    (v : Value) (l : List Int) (hs : a.eval s = v) (h : OB B w v l) (hB : B ≤ w.heap.size) (y : Value) (news : List Int) (hx : a.eval x = y) (hsrc : Src P 1 tx y news.length (news.map (Value.int .u8)) w) (hfit : l.length + news.length ≤ 140737488355327)
    (K : ∀ v' w', OB B w' v' (l ++ news) → w.grownBy w' v.ownBlock → (v'.ownBlock = v.ownBlock ∨ ∃ b, v'.ownBlock = some b ∧ w.heap.size ≤ b) → wpList P ops Q rest (a.put o.dst v') w') : wpList P ops Q (o :: rest) a w :=
  wpList_plain hgd fun _ hK => by
    obtain ⟨v', w', hr, h2, h3, h4⟩ := OB.append (P := P) (ty := o.type) ht hi hz hsz hby h hB hsrc hfit
    unfold Oper.wp execOp
    simp only [ho, resolve, invoke, builtin, Sem.run_bind, Sem.run_pure, Result.andThen_ok, List.map_toArray, List.map_cons, List.map_nil, hs, hx, hr]
    exact hK _ _ (K v' w' h2 h3 h4)
/-- The same, and which block it is. At a step of a region that draws its order. -/
theorem step_append_obg {ops : Array Oper} {o : Oper} {a : Act} {K : Act → World → Prop} {Q : Exit → Act → World → Prop} {E : Prop} (hgd : o.guard = none) (s x : Operand) (t tx : TypeId)
    (ho : o.op = .call { callee := .builtin .append, args := #[s, x], argTypes := #[t, tx] })
    {e : TypeId} {i : TypeInfo} (ht : P.underlying t = some (.slice e)) (hi : P.info? e = some i) (hz : i.zero = some (.int .u8 0)) (hsz : i.size = 1) (hby : i.bytes = 1)
    (v : Value) (l : List Int) (hs : a.eval s = v) (h : OB B w v l) (hB : B ≤ w.heap.size) (y : Value) (news : List Int) (hx : a.eval x = y) (hsrc : Src P 1 tx y news.length (news.map (Value.int .u8)) w) (hfit : l.length + news.length ≤ 140737488355327)
    (k : ∀ v' w', OB B w' v' (l ++ news) → w.grownBy w' v.ownBlock → (v'.ownBlock = v.ownBlock ∨ ∃ b, v'.ownBlock = some b ∧ w.heap.size ≤ b) → K (a.put o.dst v') w') : if Region.wanted o (yielded ops a.tmps) = true then Oper.wp P o a w K Q else E := by
  have hw : Region.wanted o (yielded ops a.tmps) = true := by simp [Region.wanted, hgd]
  rw [if_pos hw]
  obtain ⟨v', w', hr, h2, h3, h4⟩ := OB.append (P := P) (ty := o.type) ht hi hz hsz hby h hB hsrc hfit
  unfold Oper.wp execOp
  simp only [ho, resolve, invoke, builtin, Sem.run_bind, Sem.run_pure, Result.andThen_ok, List.map_toArray, List.map_cons, List.map_nil, hs, hx, hr]
  exact k v' w' h2 h3 h4
end

/-- From w to w' a slice v of the call's own has become v': all other blocks are as they were. -/
def Keeps (w w' : World) (v v' : Value) : Prop := w.heap.size ≤ w'.heap.size ∧ (∀ k, k < w.heap.size → some k ≠ v.ownBlock → w'.heap[k]? = w.heap[k]?) ∧ (v'.ownBlock = v.ownBlock ∨ ∃ b, v'.ownBlock = some b ∧ w.heap.size ≤ b)
theorem Keeps.refl (w : World) (v : Value) : Keeps w w v v := ⟨Nat.le_refl _, fun _ _ _ => rfl, .inl rfl⟩
theorem Keeps.trans {w w1 w2 : World} {v v1 v2 : Value} (h : Keeps w w1 v v1) (k : Keeps w1 w2 v1 v2) : Keeps w w2 v v2 := by
  obtain ⟨a1, a2, a3⟩ := h
  obtain ⟨b1, b2, b3⟩ := k
  refine ⟨Nat.le_trans a1 b1, fun j hj hn => ?_, ?_⟩
  · refine (b2 j (by omega) (fun e => ?_)).trans (a2 j hj hn)
    rcases a3 with a3 | ⟨b, a3, hb⟩
    · exact hn (e.trans a3)
    · rw [a3] at e
      injection e with e
      omega
  · rcases b3 with b3 | ⟨b, b3, hb⟩
    · rcases a3 with a3 | ⟨b, a3, hb⟩
      · exact .inl (b3.trans a3)
      · exact .inr ⟨b, b3.trans a3, hb⟩
    · exact .inr ⟨b, b3, by omega⟩
theorem Keeps.of_below {w w1 : World} (h : Below w.heap.size w w1) (v : Value) : Keeps w w1 v v := ⟨h.size, fun k hk _ => h.block k hk, .inl rfl⟩
theorem Keeps.alloc {w w1 : World} {v v1 : Value} (h : Keeps w w1 v v1) (o : Obj) : Keeps w (w1.alloc o) v v1 := h.trans (.of_below (below_alloc (Below.refl _ _) o) v1)
theorem Keeps.drew {w w1 : World} {v v1 : Value} (h : Keeps w w1 v v1) : Keeps w w1.drew v v1 := h
theorem Keeps.grown {w w1 w2 : World} {v v1 v2 : Value} (h : Keeps w w1 v v1) (hg : w1.grownBy w2 v1.ownBlock) (ha : v2.ownBlock = v1.ownBlock ∨ ∃ b, v2.ownBlock = some b ∧ w1.heap.size ≤ b) : Keeps w w2 v v2 :=
  h.trans ⟨hg.size, fun k hk hn => hg.block k hk hn, ha⟩
theorem Keeps.blk {w w1 : World} {v v1 : Value} {g : Nat} {o : Obj} (h : Keeps w w1 v v1) (hb : w.heap[g]? = some o) (hn : some g ≠ v.ownBlock) : w1.heap[g]? = some o :=
  (h.2.1 g (by
    rcases Nat.lt_or_ge g w.heap.size with hlt | hge
    · exact hlt
    · rw [Array.getElem?_eq_none hge] at hb
      cases hb) hn).trans hb

end Go.Proofs.YtphpjboljlkdkaaDoor.Kit
