/- Of the text ahead of a value in a JSON text without blanks (at most 2^12 bytes) sjson takes away the value's name, if it has one, and the comma ahead of it; where it is the first one of its array or object it says that the comma behind goes (values whose name does not begin with a backslash). -/
import Derived.Test.YtbppoiedaojjmabPureFnSjTailA
namespace Go.Proofs.Ytbppoiedaojjmab.Pure
open Go.RowKit Go.Proofs.Ytbppoiedaojjmab.PFnSjTail Go.Proofs.YtbppoiedaojjmabW.PrintWords Go.Proofs.YtbppoiedaojjmabW.PrintLast
/-! ### The law -/
theorem nums_byte (s : ByteArray) : ∀ x ∈ Kit.nums s, 0 ≤ x ∧ x < 256 := by
  intro x hx
  unfold Kit.nums at hx
  obtain ⟨c, _, rfl⟩ := List.mem_map.1 hx
  have := c.toNat_lt
  omega
theorem nums_app (a b : ByteArray) : Kit.nums (a ++ b) = Kit.nums a ++ Kit.nums b := by simp [Kit.nums]
theorem nums_str {l : List Int} (h : ∀ x ∈ l, 0 ≤ x ∧ x < 256) : Kit.nums (strOfNums l) = l := by
  unfold Kit.nums
  rw [strOfNums_data, List.map_map]
  have e : ∀ x ∈ l, ((fun c : UInt8 => (c.toNat : Int)) ∘ fun n : Int => UInt8.ofNat n.toNat) x = id x := by
    intro x hx
    have := h x hx
    simp only [Function.comp, id, UInt8.toNat_ofNat']
    omega
  rw [List.map_congr_left e, List.map_id]
theorem ug_mem : ∀ L : List Int, (∀ x ∈ ug L, x ∈ L) ∧ ∀ k, ∀ x ∈ us L k, x ∈ L
  | [] => by simp [ug, us]
  | c :: r => by
    have h := ug_mem r
    refine ⟨fun x hx => ?_, fun k x hx => ?_⟩
    · rw [ug] at hx
      split at hx
      · split at hx
        · rename_i hc
          rcases List.mem_cons.1 hx with rfl | hx
          · simp [hc]
          · exact List.mem_cons_of_mem _ (h.2 0 x hx)
        · rcases List.mem_cons.1 hx with rfl | hx
          · simp
          · exact List.mem_cons_of_mem _ (h.1 x hx)
      · exact List.mem_cons_of_mem _ (h.1 x hx)
    · rw [us] at hx
      split at hx
      · rename_i hc
        split at hx
        · rcases List.mem_cons.1 hx with rfl | hx
          · simp [hc]
          · exact List.mem_cons_of_mem _ (h.1 x hx)
        · rcases List.mem_cons.1 hx with rfl | hx
          · simp [hc]
          · exact List.mem_cons_of_mem _ (h.2 0 x hx)
      · rcases List.mem_cons.1 hx with rfl | hx
        · simp
        · exact List.mem_cons_of_mem _ (h.2 _ x hx)
theorem nums_ugly (s : ByteArray) : Kit.nums (strOfNums (ug (Kit.nums s))) = ug (Kit.nums s) := nums_str fun x hx => nums_byte s x ((ug_mem _).1 x hx)
theorem str_take {s : ByteArray} {b w : Nat} (hw : w ≤ b) : (strOfNums (((Kit.nums s).take b).take w)).toList = (s.extract 0 w).toList := by
  rw [List.take_take, Nat.min_eq_left hw]
  have h1 : Kit.nums (strOfNums ((Kit.nums s).take w)) = (Kit.nums s).take w := nums_str fun x hx => nums_byte s x (List.mem_of_mem_take hx)
  have h2 : strOfNums ((Kit.nums s).take w) = s.extract 0 w := by
    have h3 : Kit.nums (s.extract 0 w) = (Kit.nums s).take w := by rw [Kit.nums_extract]; simp
    have h4 : strOfNums (Kit.nums (s.extract 0 w)) = s.extract 0 w := by
      apply ByteArray.ext
      apply Array.ext'
      rw [strOfNums_data]
      unfold Kit.nums
      rw [List.map_map]
      have e : ∀ x ∈ (s.extract 0 w).data.toList, ((fun n : Int => UInt8.ofNat n.toNat) ∘ fun c : UInt8 => (c.toNat : Int)) x = id x := by
        intro x _
        simp
      rw [List.map_congr_left e, List.map_id]
    rw [← h4, h3]
  rw [h2]
theorem tail_f {s : ByteArray} {b w : Nat} {fl : Bool} (hs : s.size ≤ 1000000) (h : tailR ((Kit.nums s).take b) = some (w, fl)) :
    ∃ x : ByteArray, impl_SjTail.f (s.extract 0 b) = some (x, fl) ∧ x.toList = (s.extract 0 w).toList := by
  refine ⟨strOfNums (((Kit.nums s).take b).take w), ?_, str_take ?_⟩
  · unfold impl_SjTail.f sjson_DoorTail.f
    have hz : (s.extract 0 b).size ≤ 140737488351232 := by
      rw [ByteArray.size_extract]
      omega
    rw [if_pos hz, Kit.nums_extract, List.drop_zero, Nat.sub_zero, h]
    rfl
  · have := tailR_le h
    rw [List.length_take] at this
    omega
theorem j3_first {k : Nat} {s x : ByteArray} {t : List S25} {len idx n0 f0 f1 f2 : Int} {ns : List S31} {ks : List S25} {q : S25} {b u : Nat} (h0 : n0 = 0) (hk : 0 < ks.length) (hq : rd_T25 ks n0 = q) (hb : q.f1 = (b : Int)) (hbs : b ≤ s.size) (hf : f1 = (u : Int)) (hu : u + 1 ≤ s.size) (hs : s.size ≤ 1000000)
    (hx : impl_SjTail.f (s.extract 0 b) = some (x, true)) (hxl : x.toList = (s.extract 0 (u + 1)).toList) :
    laws_FnSjTail.j3 (k + 1) s n0 t len idx (ks.length : Int) n0 false f0 f1 f2 ns ks = laws_FnSjTail.l1 k s t len idx (ks.length : Int) (wrap64 (n0 + 1)) f0 f1 f2 ns ks := by
  have hw : wrap64 (f1 + 1) = ((u + 1 : Nat) : Int) := by unfold wrap64; omega
  simp only [laws_FnSjTail.j3, Bool.false_eq_true, if_false]
  rw [if_neg (by omega), if_pos (by omega), if_pos (by omega), hq, hw, hb, Int.toNat_natCast, Int.toNat_natCast, hx]
  rw [if_pos (by omega), if_pos (by omega), Option.bind_some, if_pos (by omega), if_pos (by omega), if_pos hxl]
  rw [if_neg (by simp [h0])]
theorem j3_next {k : Nat} {s x : ByteArray} {t : List S25} {len idx n0 f0 f1 f2 : Int} {ns : List S31} {ks : List S25} {q : S25} {b u m : Nat} (h0 : n0 = ((m + 1 : Nat) : Int)) (hm : m + 1 < ks.length) (hml : ks.length ≤ 1000000000) (hq : rd_T25 ks n0 = q) (hb : q.f1 = (b : Int)) (hbs : b ≤ s.size) (hf : (rd_T25 ks (m : Int)).f2 = (u : Int)) (hu : u ≤ s.size)
    (hx : impl_SjTail.f (s.extract 0 b) = some (x, false)) (hxl : x.toList = (s.extract 0 u).toList) :
    laws_FnSjTail.j3 (k + 1) s n0 t len idx (ks.length : Int) n0 false f0 f1 f2 ns ks = laws_FnSjTail.l1 k s t len idx (ks.length : Int) (wrap64 (n0 + 1)) f0 f1 f2 ns ks := by
  have hw : wrap64 (n0 - 1) = (m : Int) := by unfold wrap64; omega
  simp only [laws_FnSjTail.j3, Bool.false_eq_true, if_false]
  rw [if_pos (by omega), hw, if_pos (by omega), if_pos (by omega), if_pos (by omega), if_pos (by omega), hq, hb, hf, Int.toNat_natCast, Int.toNat_natCast, hx]
  rw [if_pos (by omega), if_pos (by omega), Option.bind_some, if_pos (by omega), if_pos (by omega), if_pos hxl]
  have hz : (n0 == 0) = false := by rw [beq_eq_false_iff_ne]; omega
  rw [hz]
  simp
theorem l1_six {k : Nat} {s : ByteArray} {t : List S25} {len idx n0 f0 f1 f2 : Int} {ns : List S31} {ks : List S25} {a : S31} {u : Nat} (h0 : 0 ≤ n0) (hk : n0 < (ks.length : Int)) (h6 : f0 = 6) (hn : n0 < (ns.length : Int)) (hra : rd_T31 ns n0 = a) (haf : a.f0 = ((u + 1 : Nat) : Int)) (hu : u + 2 < s.size) (hs : s.size ≤ 1000000) :
    laws_FnSjTail.l1 (k + 1) s t len idx (ks.length : Int) n0 f0 f1 f2 ns ks = laws_FnSjTail.j3 k s n0 t len idx (ks.length : Int) n0 (gb (Kit.nums s) (u + 2) == 92) f0 f1 f2 ns ks := by
  have hw : wrap64 (a.f0 + 1) = ((u + 2 : Nat) : Int) := by unfold wrap64; omega
  simp only [laws_FnSjTail.l1]
  rw [if_pos hk, if_pos h6, if_pos h0, if_pos hn, hra, hw, if_pos (by omega), if_pos (by omega), bt_gb]
section
variable {s : ByteArray} {t : List S25} {len idx f0 f1 f2 : Int} {ns : List S31} {ks : List S25}
theorem kids_ev (hs : s.size ≤ 1000000) (hk : ks.length ≤ 1000000000) (hrest : Ev (fun k => laws_FnSjTail.l0 k s t len (wrap64 (idx + 1))) true) :
    ∀ (suf pre : List S25) (u : Nat) (first : Bool) (nsuf : List S31), ks = pre ++ suf → (f0 = 6 → ns.drop pre.length = nsuf) →
      ((first = true ∧ pre.length = 0 ∧ f1 = (u : Int)) ∨ (first = false ∧ 0 < pre.length ∧ (rd_T25 ks ((pre.length - 1 : Nat) : Int)).f2 = (u : Int))) →
      KidsOK (Kit.nums s) (f0 == 6) u first nsuf suf → Ev (fun k => laws_FnSjTail.l1 k s t len idx (ks.length : Int) (pre.length : Int) f0 f1 f2 ns ks) true := by
  intro suf
  induction suf with
  | nil =>
    intro pre u first nsuf he _ _ _
    rw [List.append_nil] at he
    subst he
    exact Ev.step (fun k => by simp only [laws_FnSjTail.l1]; rw [if_neg (by omega)]) hrest
  | cons q suf ih =>
    intro pre u first nsuf he hn hf hK
    have hL := Kit.nums_len s
    rw [KidsOK] at hK
    obtain ⟨b, e, hb, hq, hbl, hel, hul, hobj, htail, hK'⟩ := hK
    have hlen : pre.length < ks.length := by rw [he]; simp
    have hrd : rd_T25 ks (pre.length : Int) = q := by
      unfold rd_T25
      rw [he, Int.toNat_natCast, List.getD_eq_getElem?_getD, List.getElem?_append_right (Nat.le_refl _), Nat.sub_self]
      rfl
    have hw1 : wrap64 ((pre.length : Int) + 1) = ((pre ++ [q]).length : Int) := by
      rw [List.length_append, List.length_singleton]
      unfold wrap64
      omega
    have hnext : Ev (fun k => laws_FnSjTail.l1 k s t len idx (ks.length : Int) (wrap64 ((pre.length : Int) + 1)) f0 f1 f2 ns ks) true := by
      rw [hw1]
      refine ih (pre ++ [q]) e false nsuf.tail (by rw [he]; simp) (fun h6 => ?_) (.inr ⟨rfl, by simp, ?_⟩) hK'
      · rw [List.length_append, List.length_singleton, ← List.drop_drop, hn h6]
        simp
      · rw [List.length_append, List.length_singleton, Nat.add_sub_cancel, hrd, hq]
    have hskip : Ev (fun k => laws_FnSjTail.j3 k s (pre.length : Int) t len idx (ks.length : Int) (pre.length : Int) true f0 f1 f2 ns ks) true :=
      Ev.step (fun k => by simp only [laws_FnSjTail.j3, if_true]) hnext
    have hdo : tailR ((Kit.nums s).take b) = some (if first then u + 1 else u, first) → Ev (fun k => laws_FnSjTail.j3 k s (pre.length : Int) t len idx (ks.length : Int) (pre.length : Int) false f0 f1 f2 ns ks) true := by
      intro hT
      obtain ⟨x, hx, hxl⟩ := tail_f hs hT
      rcases hf with ⟨rfl, hp, hu⟩ | ⟨rfl, hp, hu⟩
      · exact Ev.step (fun k => j3_first (by omega) (by omega) hrd hb (by omega) hu (by omega) hs hx hxl) hnext
      · exact Ev.step (fun k => j3_next (m := pre.length - 1) (by omega) (by omega) hk hrd hb (by omega) hu (by omega) hx hxl) hnext
    by_cases h6 : f0 = 6
    · obtain ⟨a, ha, haf, hu2⟩ := hobj (by simp [h6])
      have hnl := hn h6
      rw [← hnl, List.head?_drop] at ha
      have hal : pre.length < ns.length := (List.getElem?_eq_some_iff.1 ha).1
      have hra : rd_T31 ns (pre.length : Int) = a := by
        unfold rd_T31
        rw [Int.toNat_natCast, List.getD_eq_getElem?_getD, ha]
        rfl
      have hst := fun k => l1_six (k := k) (t := t) (len := len) (idx := idx) (f1 := f1) (f2 := f2) (ks := ks) (n0 := (pre.length : Int)) (by omega) (by omega) h6 (by omega) hra haf (by omega) hs
      refine Ev.step hst ?_
      by_cases h92 : gb (Kit.nums s) (u + 2) = 92
      · rw [show (gb (Kit.nums s) (u + 2) == 92) = true by simp [h92]]
        exact hskip
      · rw [show (gb (Kit.nums s) (u + 2) == 92) = false by simp [h92]]
        rcases htail with ⟨_, h⟩ | h
        · exact absurd h h92
        · exact hdo h
    · refine Ev.step (fun k => ?_) (hdo ?_)
      · simp only [laws_FnSjTail.l1]
        rw [if_pos (by omega), if_neg h6]
      · rcases htail with ⟨h, _⟩ | h
        · simp at h
          exact absurd h h6
        · exact h
end
theorem last_ev : impl_SjTail.f (⟨#[91]⟩ : ByteArray) = some (⟨#[91]⟩, true) := by
  unfold impl_SjTail.f sjson_DoorTail.f
  rw [if_pos (by decide)]
  have h : tailR (Kit.nums (⟨#[91]⟩ : ByteArray)) = some (1, true) := by
    have : Kit.nums (⟨#[91]⟩ : ByteArray) = [91] := rfl
    rw [this]
    simp [tailR]
  rw [h]
  rfl
theorem nodes_ev {s : ByteArray} (hs : s.size ≤ 1000000) {t : List S25} (hg : ∀ q ∈ t, Good (Kit.nums s) q ∧ q.f4.length ≤ 1000000000) (ht : t.length ≤ 1000000000) :
    ∀ (suf pre : List S25), t = pre ++ suf → Ev (fun k => laws_FnSjTail.l0 k s t (t.length : Int) (pre.length : Int)) true := by
  intro suf
  induction suf with
  | nil =>
    intro pre he
    rw [List.append_nil] at he
    subst he
    refine Ev.step (fun k => ?_) (Ev.now true)
    simp only [laws_FnSjTail.l0]
    rw [if_neg (by omega), last_ev, Option.bind_some, if_pos (by rw [ByteArray.toList_eq])]
  | cons q suf ih =>
    intro pre he
    have hlen : pre.length < t.length := by rw [he]; simp
    have hrd : rd_T25 t (pre.length : Int) = q := by
      unfold rd_T25
      rw [he, Int.toNat_natCast, List.getD_eq_getElem?_getD, List.getElem?_append_right (Nat.le_refl _), Nat.sub_self]
      rfl
    have hw1 : wrap64 ((pre.length : Int) + 1) = ((pre ++ [q]).length : Int) := by
      rw [List.length_append, List.length_singleton]
      unfold wrap64
      omega
    obtain ⟨⟨i, hi, hK⟩, hq4⟩ := hg q (by rw [he]; simp)
    have hrest := ih (pre ++ [q]) (by rw [he]; simp)
    rw [← hw1] at hrest
    have := kids_ev hs hq4 hrest q.f4 [] i true q.f3 rfl (fun _ => rfl) (.inl ⟨rfl, rfl, hi⟩) hK (f2 := q.f2)
    refine Ev.step (fun k => ?_) this
    simp only [laws_FnSjTail.l0]
    rw [if_pos (by omega), if_pos (by omega), if_pos (by omega), hrd]
    rfl
theorem bare_ev {s : ByteArray} (hs : s.size ≤ 1000000) (hT : Tight (Kit.nums s) 0) :
    Ev (fun k => (spec_Places.f k s).bind fun b => (spec_All.f k b.1 b.2.1 b.2.2.1 b.2.2.2.1 b.2.2.2.2.1).bind fun t => laws_FnSjTail.l0 k s t (t.length : Int) 0) true := by
  have hp := places_ev s (by omega)
  have hL := Kit.nums_len s
  have fin : ∀ (p : S25) (ok : Bool) (m : Nat), m ≤ 1000000 → Tree (Kit.nums s) p m → Ev (fun k => spec_Places.f k s) (p.f0, p.f1, p.f2, p.f3, p.f4, ok) → Ev (fun k => (spec_Places.f k s).bind fun b => (spec_All.f k b.1 b.2.1 b.2.2.1 b.2.2.2.1 b.2.2.2.2.1).bind fun t => laws_FnSjTail.l0 k s t (t.length : Int) 0) true := by
    intro p ok m hm ht hp
    obtain ⟨ns, h1, h2, h3⟩ := tree_all ht (by omega)
    exact Ev.bind hp (Ev.bind h3 (nodes_ev hs (fun q hq => h2 q hq) (by omega) ns [] rfl))
  cases hP : places (Kit.nums s) with
  | none =>
    rw [hP] at hp
    exact fin ⟨0, 0, 0, [], []⟩ false 1 (by omega) (tree_leaf 0 0 0) hp
  | some p =>
    rw [hP] at hp
    unfold places at hP
    split at hP
    · cases hP
    · rename_i q e hv
      split at hP
      · injection hP with hP
        subst hP
        have hb := hT.bl
        rw [hb] at hv
        obtain ⟨_, h2, _, _, _, m, h3, h4⟩ := (all_tree (Kit.nums s) _).1 _ _ _ (by omega) hT hv
        exact fin q true m (by omega) h4 hp
      · cases hP
theorem FnSjTail : laws_FnSjTail.Pure := by
  intro a0 _
  refine Ev.rounds (r := true) ?_
  unfold laws_FnSjTail.f
  by_cases c1 : (a0.size : Int) > 2147483647
  · exact Ev.congr (fun k => if_pos c1) (Ev.now _)
  refine Ev.congr (fun k => if_neg c1) ?_
  have hp := places_ev a0 (by omega)
  have jt : ∀ (a b c : Int) (d : List S31) (e : List S25), Ev (fun k => laws_FnSjTail.j0 k a0 true a b c d e) true := fun a b c d e => Ev.step (fun k => by simp only [laws_FnSjTail.j0, if_true]) (Ev.now _)
  cases hP : places (Kit.nums a0) with
  | none =>
    rw [hP] at hp
    exact Ev.bind hp (jt _ _ _ _ _)
  | some p =>
    rw [hP] at hp
    refine Ev.bind hp ?_
    simp only [if_true]
    by_cases c2 : (a0.size : Int) > 4096
    · rw [decide_eq_true c2]
      exact jt _ _ _ _ _
    · rw [decide_eq_false c2]
      have hb := places_bare hP
      have hu := (ug_len (Kit.nums a0)).1
      have hL := Kit.nums_len a0
      have heta : (⟨p.f0, p.f1, p.f2, p.f3, p.f4⟩ : S25) = p := by cases p; rfl
      have e2 : spec_Bare.f a0 p.f0 p.f1 p.f2 p.f3 p.f4 = some (strOfNums (ug (Kit.nums a0))) := by
        unfold spec_Bare.f
        rw [heta, hb, Option.bind_some, if_pos (by omega)]
      have hsz : (strOfNums (ug (Kit.nums a0))).size ≤ 1000000 := by rw [strOfNums_size]; omega
      have hT : Tight (Kit.nums (strOfNums (ug (Kit.nums a0)))) 0 := by
        unfold Tight
        rw [List.drop_zero, nums_ugly, (ug_twice _).1]
      refine Ev.step (fun k => ?_) (bare_ev hsz hT)
      simp only [laws_FnSjTail.j0, Bool.false_eq_true, if_false]
      rw [e2, Option.bind_some]

end Go.Proofs.Ytbppoiedaojjmab.Pure
