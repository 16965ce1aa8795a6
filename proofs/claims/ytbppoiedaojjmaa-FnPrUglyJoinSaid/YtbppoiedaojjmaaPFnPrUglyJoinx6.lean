/- Written by a program of this session (a turned copy of the print) out of the translation. -/
import Derived.Test.YtbppoiedaojjmaaPFnPrUglyJoinx0
namespace Go.Proofs.Ytbppoiedaojjmaa.PFnPrUglyJoin
open Go.RowKit Go.Proofs.YtbppoiedaojjmaaW.PrintWords Go.Proofs.YtbppoiedaojjmaaW.PrintLast Go.Proofs.YtbppoiedaojjmaaW.PrintMore
attribute [local go_sem] max2_int min2_int max_two min_two max_three min_three max_four min_four   -- for this text's walks alone
set_option linter.unusedVariables false
set_option linter.unusedSimpArgs false

/-! impl.PrUgly, walked by hand: pretty.ugly over two blocks of bytes, or one -/
mutual
/-- What ugly makes of bytes outside of strings. -/
def ug : List Int → List Int
  | [] => []
  | c :: r => if 32 < c then (if c = 34 then 34 :: us r 0 else c :: ug r) else ug r
/-- .. inside of a string, behind k backslashes. -/
def us : List Int → Nat → List Int
  | [], _ => []
  | c :: r, k => if c = 34 then (if k % 2 = 0 then 34 :: ug r else 34 :: us r 0) else c :: us r (if c = 92 then k + 1 else 0)
end
/-- How many backslashes stand at the end. -/
def tb (o : List Int) : Nat := (o.reverse.takeWhile (fun c => c == 92)).length
theorem tb_snoc (o : List Int) (c : Int) : tb (o ++ [c]) = if c = 92 then tb o + 1 else 0 := by
  unfold tb
  rw [List.reverse_append, List.reverse_singleton, List.singleton_append, List.takeWhile_cons]
  by_cases h : c = 92
  · simp [h]
  · simp [h]
theorem tb_all (o : List Int) : ∀ t, t < tb o → t < o.length ∧ o.getD (o.length - 1 - t) 0 = 92 := by
  intro t ht
  have hl : tb o ≤ o.length := by
    unfold tb
    have := List.takeWhile_prefix (p := fun c : Int => c == 92) (l := o.reverse)
    have := this.length_le
    simpa using this
  refine ⟨by omega, ?_⟩
  have h1 : (o.reverse.takeWhile (fun c => c == 92))[t]'ht = o.reverse[t]'(by simp; omega) := List.IsPrefix.getElem (List.takeWhile_prefix _) ht
  have h2 : (o.reverse.takeWhile (fun c => c == 92))[t]'ht = 92 := by
    have := List.all_takeWhile (p := fun c : Int => c == 92) (l := o.reverse)
    have := List.all_eq_true.1 this _ (List.getElem_mem ht)
    simpa using this
  rw [h1, List.getElem_reverse] at h2
  rw [List.getD_eq_getElem?_getD, List.getElem?_eq_getElem (by omega)]
  simpa using h2
theorem takeWhile_stop {α : Type} (p : α → Bool) : ∀ (l : List α) (h : (l.takeWhile p).length < l.length), p (l[(l.takeWhile p).length]'h) = false
  | [], h => by simp at h
  | a :: l, h => by
    by_cases ha : p a = true
    · have h' : (l.takeWhile p).length < l.length := by
        rw [List.takeWhile_cons, if_pos ha] at h
        simpa using h
      have := takeWhile_stop p l h'
      simpa [List.takeWhile_cons, ha] using this
    · simp [List.takeWhile_cons, ha]
theorem tb_stop (o : List Int) (h : tb o < o.length) : o.getD (o.length - 1 - tb o) 0 ≠ 92 := by
  have h1 := takeWhile_stop (fun c : Int => c == 92) o.reverse (by simpa [tb] using h)
  rw [List.getD_eq_getElem?_getD, List.getElem?_eq_getElem (by omega)]
  rw [List.getElem_reverse] at h1
  simpa [tb] using h1
theorem drop_i (L : List Int) (i : Nat) (h : i < L.length) : L.drop i = L.getD i 0 :: L.drop (i + 1) := by
  rw [List.drop_eq_getElem_cons h, List.getD_eq_getElem?_getD, List.getElem?_eq_getElem h]
  rfl

theorem tmod_par (q l n : Nat) (h : (q : Int) - (l : Int) = -(n : Int)) : ((q : Int) - (l : Int)).tmod 2 = -((n % 2 : Nat) : Int) := by
  rw [h, Int.neg_tmod]
  rfl

/-- What ugly's loops hold: bytes still to be read in a block s, bytes written in a block g. -/
structure UI (w : World) (s g cap : Nat) (L out : List Int) (i : Nat) : Prop where
  src : ∀ k, i ≤ k → k < L.length → w.cell? ⟨s, k, none⟩ = some (.int .u8 (L.getD k 0))
  dst : Kit.BB w g cap out
  cap : L.length ≤ cap
theorem UI.next {w : World} {s g cap : Nat} {L out : List Int} {i j : Nat} (h : UI w s g cap L out i) (hj : i ≤ j) : UI w s g cap L out j := ⟨fun k h1 h2 => h.src k (by omega) h2, h.dst, h.cap⟩
theorem UI.alloc {w : World} {s g cap : Nat} {L out : List Int} {i : Nat} (h : UI w s g cap L out i) (o : Obj) : UI (w.alloc o) s g cap L out i :=
  ⟨fun k h1 h2 => pw_cell_below (below_alloc (Below.refl _ _) o) (h.src k h1 h2), h.dst.alloc o, h.cap⟩
theorem UI.push {w : World} {s g cap : Nat} {L out : List Int} {i : Nat} (h : UI w s g cap L out i) (hi : i < L.length) (hl : out.length ≤ i) :
    UI (w.setCell ⟨g, out.length, none⟩ (.int .u8 (L.getD i 0))) s g cap L (out ++ [L.getD i 0]) i := by
  have hc := h.cap
  refine ⟨fun k h1 h2 => ?_, h.dst.push (by omega) _, hc⟩
  by_cases e' : s = g ∧ k = out.length
  · obtain ⟨rfl, e⟩ := e'
    obtain rfl : i = k := by omega
    have hb := (h.dst.push (show out.length < cap by omega) (L.getD i 0)).cell out.length (by simp)
    rw [e]
    rw [e] at hb
    simpa using hb
  · exact (World.cell?_setCell_other _ _ _ _ (by intro e; simp only [Addr.mk.injEq] at e; omega)).trans (h.src k h1 h2)

section
variable {P : Program}
theorem wpList_push {ops : Array Oper} {rest : List Oper} {o : Oper} {a : Act} {Q : Exit → Act → World → Prop} (hgd : o.guard = none) (so x : Operand) (t tx : TypeId)
    (ho : o.op = .call { callee := .builtin .append, args := #[so, x], argTypes := #[t, tx] })
    {e : TypeId} {i5 : TypeInfo} (ht : P.underlying t = some (.slice e)) (hi : P.info? e = some i5) (hsz : i5.size = 1)
    {w : World} {s g cap : Nat} {L out : List Int} {i : Nat} (hs : a.eval so = .slice (some ⟨g, 0, none⟩) out.length cap) (h : UI w s g cap L out i) (hi2 : i < L.length) (hl : out.length ≤ i) (y : Value) (hx : a.eval x = y) (hsrc : Src P 1 tx y 1 [.int .u8 (L.getD i 0)] w)
    (K : ∀ w', UI w' s g cap L (out ++ [L.getD i 0]) i → (∀ B w0, Below B w0 w → B ≤ g → Below B w0 w') → wpList P ops Q rest (a.put o.dst (.slice (some ⟨g, 0, none⟩) (out.length + 1) cap)) w') : wpList P ops Q (o :: rest) a w :=
  wpList_plain hgd fun _ hK => by
    have hc := h.cap
    have hr := run_append_room_src (P := P) w t tx o.type e i5 ht hi g 0 out.length cap y 1 [.int .u8 (L.getD i 0)] (by rw [hsz]; exact hsrc) (by omega)
      (fun j hj => by rw [hsz, Nat.zero_add, Nat.mul_one]; exact h.dst.there _ (by simp at hj; omega)) (fun j hj => by rw [hsz, Nat.zero_add, Nat.mul_one]; exact h.dst.frozen _ (by simp at hj; omega))
    rw [hsz, Nat.zero_add, Nat.mul_one] at hr
    unfold Oper.wp execOp
    simp only [ho, resolve, invoke, builtin, Sem.run_bind, Sem.run_pure, Result.andThen_ok, List.map_toArray, List.map_cons, List.map_nil, hs, hx, hr]
    exact hK _ _ (K _ (h.push hi2 hl) (fun B w0 hB hg => hB.setCell hg _))
theorem src_one {tx e' : TypeId} (hk : P.underlying tx = some (.slice e')) (x : Int) (w : World) (t : TypeId) : Src P 1 tx (.slice (some ⟨w.heap.size, 0, none⟩) 1 1) 1 [.int .u8 x] (w.alloc (.cells #[.int .u8 x] t)) :=
  Kit.src_lit hk [x] (heap_alloc_new w _) rfl
end

set_option maxHeartbeats 8000000 in
set_option maxRecDepth 100000 in
theorem ugly_walk (gs g cs n0 cap : Nat) (L : List Int) (w0 w : World) (hU : UI w gs g cap L [] 0) (hn0 : n0 ≤ cap) (hn : L.length ≤ 140737488351232) (hB : Below w0.heap.size w0 w) (hg : w0.heap.size ≤ g) :
    Calls Try.prog 34 #[.slice (some ⟨g, 0, none⟩) n0 cap, .slice (some ⟨gs, 0, none⟩) L.length cs] w
      fun e w' => e = .returned (.slice (some ⟨g, 0, none⟩) (ug L).length cap) ∧ Kit.BB w' g cap (ug L) ∧ Below w0.heap.size w0 w' := by
  obtain ⟨i5, hi5, hz5, hsz5, hby5⟩ : ∃ i, Try.prog.info? 5 = some i ∧ i.zero = some (.int .u8 0) ∧ i.size = 1 ∧ i.bytes = 1 := ⟨_, rfl, rfl, rfl, rfl⟩
  have hu1 := Try.underlying39
  have HU := Aside0.mk hU
  have HB := Aside0.mk hB
  have hcap := hU.cap
  clear hU hB
  go_enter Try.func34, Try.ntmps34
  go_wp2
  go_loopw [0, 5] (fun dv iv wr => ∃ (i : Nat) (out : List Int), i ≤ L.length + 1 ∧ out.length ≤ i ∧ iv = .int .i64 i ∧ dv = .slice (some ⟨g, 0, none⟩) out.length cap ∧ Aside0 (out ++ ug (L.drop i) = ug L) ∧ Aside0 (UI wr gs g cap L out i) ∧ Aside0 (Below w0.heap.size w0 wr)) (fun _ iv _ => L.length + 1 - (intOf iv).toNat)
  case atStart => exact ⟨0, [], by omega, by simp, rfl, rfl, ⟨by simp⟩, HU, HB⟩
  case round =>
    clear HU HB
    obtain ⟨i, out, hi, hl, rfl, rfl, HE, HI, HW⟩ := hrel
    by_cases hlt : i < L.length
    · have HD := Aside0.mk (drop_i L i hlt)
      obtain ⟨x, hx⟩ : ∃ x, L.getD i 0 = x := ⟨_, rfl⟩
      have hc := HI.out.src i (Nat.le_refl _) hlt
      rw [hx] at hc
      have HX := Aside0.mk hx
      clear hx
      by_cases h32 : 32 < x
      · by_cases h34 : x = 34
        · subst h34
          have HE1 := Aside0.mk (show (out ++ [34]) ++ us (L.drop (i + 1)) (tb (out ++ [34])) = ug L by
            have h := HE.out
            rw [HD.out, HX.out, ug, if_pos h32, if_pos rfl] at h
            rw [tb_snoc, if_neg (by decide), List.append_assoc]
            exact h)
          go_wp2_with (at_builtin; refine wpList_push rfl (.tmp 20) (.tmp 25) 39 39 rfl hu1 hi5 hsz5 rfl (HI.out.alloc _) hlt hl _ rfl (by rw [HX.out]; exact src_one hu1 _ _ _) ?_; intro w1 hi1 hb1; have HB1 := Aside0.mk (hb1 _ _ (HW.out.alloc HW.out.size _) hg); have HI1 := Aside0.mk hi1; have hc1 := hi1.src i (Nat.le_refl _) hlt; rw [HX.out] at hc1; clear hi1 hb1)
          go_loopw [0, 5, 6] (fun dv iv jv wr => ∃ (m : Nat) (out : List Int), i < m ∧ m ≤ L.length ∧ out.length ≤ m ∧ tb out < out.length ∧ iv = .int .i64 m ∧ dv = .slice (some ⟨g, 0, none⟩) out.length cap ∧ Aside0 (out ++ us (L.drop m) (tb out) = ug L) ∧ Aside0 (UI wr gs g cap L out m) ∧ Aside0 (Below w0.heap.size w0 wr)) (fun _ iv _ _ => L.length - (intOf iv).toNat)
          case atStart =>
            have hx := HI1.out
            rw [HX.out] at hx
            exact ⟨i + 1, out ++ [34], by omega, by omega, by simp; omega, by rw [tb_snoc, if_neg (by decide)]; simp, by go_num, by simp, HE1, ⟨hx.next (by omega)⟩, HB1⟩
          case round =>
            clear HI1 HB1 HE1 HE HI HW HD HX hc hc1 h32 hi hl hlt
            obtain ⟨m, out, him, hm, hl, htb, rfl, rfl, HE, HI, HW⟩ := hrel
            by_cases hlt : m < L.length
            · have HD := Aside0.mk (drop_i L m hlt)
              obtain ⟨x, hx⟩ : ∃ x, L.getD m 0 = x := ⟨_, rfl⟩
              have hc := HI.out.src m (Nat.le_refl _) hlt
              rw [hx] at hc
              have HX := Aside0.mk hx
              clear hx
              by_cases h34 : x = 34
              · subst h34
                go_wp2_with (at_builtin; refine wpList_push rfl (.tmp 40) (.tmp 45) 39 39 rfl hu1 hi5 hsz5 rfl (HI.out.alloc _) hlt hl _ rfl (by rw [HX.out]; exact src_one hu1 _ _ _) ?_; intro w1 hi1 hb1; have HB1 := Aside0.mk (hb1 _ _ (HW.out.alloc HW.out.size _) hg); have HI1 := Aside0.mk hi1; have hc1 := hi1.src m (Nat.le_refl _) hlt; rw [HX.out] at hc1; clear hi1 hb1)
                have HQ := Aside0.mk (show ∀ q, q < out.length → w1.cell? ⟨g, q, none⟩ = some (.int .u8 (out.getD q 0)) by
                  intro q hq
                  have h := HI1.out.dst.cell q (by simp; omega)
                  rw [List.getD_eq_getElem?_getD, List.getElem?_append_left hq, ← List.getD_eq_getElem?_getD] at h
                  exact h)
                go_loopw [6] (fun jv wr => wr = w1 ∧ ∃ q t : Nat, t ≤ tb out ∧ q + 1 + t = out.length ∧ jv = .int .i64 q) (fun jv _ => (intOf jv).toNat)
                case atStart => exact ⟨rfl, out.length - 1, 0, Nat.zero_le _, by omega, by go_num⟩
                case round =>
                  obtain ⟨hw, q, t, ht, hqt, rfl⟩ := hrel
                  subst hw
                  have hcq := HQ.out q (by omega)
                  by_cases hlt2 : t < tb out
                  · have h := tb_all out t hlt2
                    rw [show out.length - 1 - t = q by omega] at h
                    rw [h.2] at hcq
                    go_wp2
                    go_roundw
                    case rel => exact ⟨trivial, q - 1, t + 1, by omega, by omega, by go_num⟩
                    case measure => simp [intOf]; omega
                  · have h := tb_stop out htb
                    rw [show out.length - 1 - tb out = q by omega] at h
                    obtain ⟨y, hy⟩ : ∃ y, out.getD q 0 = y := ⟨_, rfl⟩
                    rw [hy] at hcq h
                    clear hy
                    have htm := tmod_par q out.length (tb out + 1) (by omega)
                    by_cases hpar : tb out % 2 = 0
                    · have hpb : (((q : Int) - (out.length : Int)).tmod 2 != 0) = true := by
                        rw [htm, bne_iff_ne]
                        omega
                      clear htm
                      go_wp2
                      go_roundw
                      case rel =>
                        have hx := HI1.out
                        rw [HX.out] at hx
                        refine ⟨m + 1, out ++ [34], by omega, by simp; omega, by go_num, by simp, ⟨?_⟩, ⟨hx.next (by omega)⟩, HB1⟩
                        have h := HE.out
                        rw [HD.out, HX.out, us, if_pos rfl, if_pos hpar] at h
                        rw [List.append_assoc]
                        exact h
                      case measure => simp [intOf]; omega
                    · have hpb : (((q : Int) - (out.length : Int)).tmod 2 != 0) = false := by
                        rw [htm, bne_eq_false_iff_eq]
                        omega
                      clear htm
                      go_wp2
                      go_roundw
                      case rel =>
                        have hx := HI1.out
                        rw [HX.out] at hx
                        refine ⟨m + 1, out ++ [34], by omega, by omega, by simp; omega, by rw [tb_snoc, if_neg (by decide)]; simp, by go_num, by simp, ⟨?_⟩, ⟨hx.next (by omega)⟩, HB1⟩
                        have h := HE.out
                        rw [HD.out, HX.out, us, if_pos rfl, if_neg hpar] at h
                        rw [tb_snoc, if_neg (by decide), List.append_assoc]
                        exact h
                      case measure => simp [intOf]; omega
              · have HE1 := Aside0.mk (show (out ++ [x]) ++ us (L.drop (m + 1)) (tb (out ++ [x])) = ug L by
                  have h := HE.out
                  rw [HD.out, HX.out, us, if_neg h34] at h
                  rw [tb_snoc, List.append_assoc]
                  exact h)
                go_wp2_with (at_builtin; refine wpList_push rfl (.tmp 40) (.tmp 45) 39 39 rfl hu1 hi5 hsz5 rfl (HI.out.alloc _) hlt hl _ rfl (by rw [HX.out]; exact src_one hu1 _ _ _) ?_; intro w1 hi1 hb1; have HB1 := Aside0.mk (hb1 _ _ (HW.out.alloc HW.out.size _) hg); have HI1 := Aside0.mk hi1; have hc1 := hi1.src m (Nat.le_refl _) hlt; rw [HX.out] at hc1; clear hi1 hb1)
                go_roundw
                case rel =>
                  have hx := HI1.out
                  rw [HX.out] at hx
                  refine ⟨m + 1, out ++ [x], by omega, by omega, by simp; omega, ?_, by go_num, by simp, HE1, ⟨hx.next (by omega)⟩, HB1⟩
                  rw [tb_snoc]
                  split
                  · simp; omega
                  · simp
                case measure => simp [intOf]; omega
            · have hd : L.drop m = [] := List.drop_eq_nil_of_le (by omega)
              have he := HE.out
              rw [hd, us, List.append_nil] at he
              subst he
              go_wp2
              go_roundw
              case rel => exact ⟨m + 1, ug L, by omega, by omega, by go_num, rfl, ⟨by rw [List.drop_eq_nil_of_le (by omega), ug, List.append_nil]⟩, ⟨HI.out.next (by omega)⟩, HW⟩
              case measure => simp [intOf]; omega
        · have HE1 := Aside0.mk (show (out ++ [x]) ++ ug (L.drop (i + 1)) = ug L by
            have h := HE.out
            rw [HD.out, HX.out, ug, if_pos h32, if_neg h34] at h
            rw [List.append_assoc]
            exact h)
          go_wp2_with (at_builtin; refine wpList_push rfl (.tmp 20) (.tmp 25) 39 39 rfl hu1 hi5 hsz5 rfl (HI.out.alloc _) hlt hl _ rfl (by rw [HX.out]; exact src_one hu1 _ _ _) ?_; intro w1 hi1 hb1; have HB1 := Aside0.mk (hb1 _ _ (HW.out.alloc HW.out.size _) hg); have HI1 := Aside0.mk hi1; have hc1 := hi1.src i (Nat.le_refl _) hlt; rw [HX.out] at hc1; clear hi1 hb1)
          go_roundw
          case rel =>
            have hx := HI1.out
            rw [HX.out] at hx
            exact ⟨i + 1, out ++ [x], by omega, by simp; omega, by go_num, by simp, HE1, ⟨hx.next (by omega)⟩, HB1⟩
          case measure => simp [intOf]; omega
      · go_wp2
        go_roundw
        case rel =>
          refine ⟨i + 1, out, by omega, by omega, by go_num, rfl, ⟨?_⟩, ⟨HI.out.next (by omega)⟩, HW⟩
          have h := HE.out
          rw [HD.out, HX.out, ug, if_neg h32] at h
          exact h
        case measure => simp [intOf]; omega
    · have hd : L.drop i = [] := List.drop_eq_nil_of_le (by omega)
      have he := HE.out
      rw [hd, ug, List.append_nil] at he
      subst he
      go_wp2
      go_ret
      exact ⟨rfl, HI.out.dst, HW.out⟩

theorem ug_len : ∀ L : List Int, (ug L).length ≤ L.length ∧ ∀ k, (us L k).length ≤ L.length
  | [] => by simp [ug, us]
  | c :: r => by
    have h := ug_len r
    refine ⟨?_, fun k => ?_⟩
    · rw [ug]
      split
      · split
        · have := h.2 0
          simp only [List.length_cons]
          omega
        · have := h.1
          simp only [List.length_cons]
          omega
      · have := h.1
        simp only [List.length_cons]
        omega
    · rw [us]
      split
      · split
        · have := h.1
          simp only [List.length_cons]
          omega
        · have := h.2 0
          simp only [List.length_cons]
          omega
      · have := h.2 (if c = 92 then k + 1 else 0)
        simp only [List.length_cons]
        omega
theorem BB_less {w : World} {g cap c : Nat} {l : List Int} (h : Kit.BB w g cap l) (hc : c ≤ cap) (hl : l.length ≤ c) : Kit.BB w g c l := by
  obtain ⟨cs, t, lo, hi, h1, h2, h3, h4, h5⟩ := h
  exact ⟨cs, t, lo, hi, h1, by omega, by omega, hl, h5⟩
theorem UI_start {w : World} {g cap c : Nat} {L : List Int} (h : Kit.BB w g cap L) (hc : c ≤ cap) (hl : L.length ≤ c) : UI w g g c L [] 0 :=
  ⟨fun k _ h2 => h.cell k h2, BB_less (by simpa using h.take 0) hc (by simp), hl⟩
def impl_PrUgly.f (a0 : ByteArray) : Option ByteArray := if a0.size ≤ 140737488351232 then some (strOfNums (ug (Kit.nums a0))) else none
set_option maxHeartbeats 4000000 in
theorem impl_PrUgly.calls (a0 : ByteArray) (r : ByteArray) (w : World) (h : impl_PrUgly.f a0 = some r) :
    Calls Try.prog 15 #[.string a0] w fun e w' => e = .returned (.string r) ∧ Below w.heap.size w w' := by
  unfold impl_PrUgly.f at h
  split at h
  · rename_i hs
    injection h with h
    subst h
    have hcv := Lib.run_convert_string_bytes (P := Try.prog) w 9 39 5 a0 Try.underlying9 Try.underlying39 Try.underlying5
    have hB0 := Kit.BB.conv w 5 a0
    have hb0 := Kit.below_conv w 5 a0
    have hlen := Kit.nums_len a0
    have hul := (ug_len (Kit.nums a0)).1
    change Kit.BB _ _ _ (Kit.nums a0) at hB0
    generalize hW : Lib.bytesWorld w 5 a0 = w1 at hcv hB0 hb0
    generalize hC : grownCap w a0.size 0 5 = cap at hcv
    obtain ⟨i5, hi5, hz5, hsz5, hby5⟩ : ∃ i, Try.prog.info? 5 = some i ∧ i.zero = some (.int .u8 0) ∧ i.size = 1 ∧ i.bytes = 1 := ⟨_, rfl, rfl, rfl, rfl⟩
    have hmk := run_make (P := Try.prog) w1 39 5 i5 (.int .u8 0) Try.underlying39 hi5 hz5 .i64 .i64 0 (a0.size : Int) (Int.le_refl _) (by omega) (by rw [hby5]; omega) (by omega)
    rw [Int.toNat_natCast, Int.toNat_zero, hsz5, Nat.mul_one] at hmk
    have hui : UI (w1.alloc (.cells (madeCells (Value.int .u8 0).cells a0.size) 5)) w.heap.size w1.heap.size a0.size (Kit.nums a0) [] 0 :=
      ⟨fun k _ h2 => pw_cell_below (below_alloc (Below.refl _ _) _) (hB0.cell k h2), ⟨_, _, 0, 0, heap_alloc_new w1 _, by rw [size_madeCells]; exact Nat.le_refl _, .inl rfl, by simp, fun j hj => absurd hj (by simp)⟩, by rw [hlen]; exact Nat.le_refl _⟩
    have hb1 : Below w.heap.size w (w1.alloc (.cells (madeCells (Value.int .u8 0).cells a0.size) 5)) := below_alloc hb0 _
    have hge : w.heap.size ≤ w1.heap.size := hb0.size
    generalize hW2 : w1.alloc (.cells (madeCells (Value.int .u8 0).cells a0.size) 5) = w2 at hmk hui hb1
    have HUI := Aside0.mk hui
    have HB1 := Aside0.mk hb1
    clear hW hC hW2 hB0 hb0 hui hb1 hi5 hz5 hsz5 hby5
    go_enter Try.func15, Try.ntmps15
    go_wp2_with (first | (go_at_call 26; go_in) | (go_at_call 34; have hcall := ugly_walk w.heap.size w1.heap.size cap 0 a0.size (Kit.nums a0) w w2 HUI.out (Nat.zero_le _) (by rw [hlen]; exact hs) HB1.out hge; rw [hlen] at hcall; refine hcall.mono ?_; rintro e w3 ⟨rfl, hb2, hw2⟩; have hst := hb2.str (P := Try.prog) (src := 39) (dst := 9) (c := a0.size) Try.underlying39 Try.underlying5 Try.underlying9 (by rw [hlen] at hul; omega); clear hb2))
    go_ret
    exact ⟨rfl, hw2⟩
  · cases h

/-! ### spec_shortOf: function 27 -/
def spec_shortOf.f (a0 : Int) : Option (Int × Bool) := if a0 = 8 then (some (98, true)) else (if a0 = 12 then (some (102, true)) else (if a0 = 10 then (some (110, true)) else (if a0 = 13 then (some (114, true)) else (if a0 = 9 then (some (116, true)) else (if a0 = 34 then (some (a0, true)) else (if a0 = 92 then (some (a0, true)) else (if a0 = 47 then (some (a0, true)) else (some (0, false)))))))))
set_option maxHeartbeats 8000000 in
set_option maxRecDepth 100000 in
theorem spec_shortOf.calls (a0 : Int) (r1 : Int) (r2 : Bool) (w : World) (h : spec_shortOf.f a0 = some (r1, r2)) :
    Calls Try.prog 27 #[.int .u8 a0] w fun e w' => e = .returned (.tuple #[.int .u8 r1, .bool r2]) ∧ Drawn0 w w' := by
  have H : (if a0 = 8 then (some (98, true)) else (if a0 = 12 then (some (102, true)) else (if a0 = 10 then (some (110, true)) else (if a0 = 13 then (some (114, true)) else (if a0 = 9 then (some (116, true)) else (if a0 = 34 then (some (a0, true)) else (if a0 = 92 then (some (a0, true)) else (if a0 = 47 then (some (a0, true)) else (some (0, false)))))))))) = some (r1, r2) := h
  clear h
  by_cases c2 : a0 = 8
  · rw [if_pos c2] at H
    have c2b0 : (a0 == 8) = true := beq_iff_eq.mpr c2
    have c2b1 : (a0 != 8) = false := bne_eq_false_iff_eq.mpr c2
    clear c2
    simp only [Option.some.injEq, Prod.mk.injEq] at H
    obtain ⟨rfl, rfl⟩ := H
    go_enter Try.func27, Try.ntmps27
    go_wp2
    go_ret2
    exact ⟨by first | rfl | (simp; done) | (simp [*]; done), by repeat (first | exact Drawn0.refl _ | apply Drawn0.step)⟩
  · rw [if_neg c2] at H
    have c2b0 : (a0 == 8) = false := beq_eq_false_iff_ne.mpr c2
    have c2b1 : (a0 != 8) = true := bne_iff_ne.mpr c2
    by_cases c3 : a0 = 12
    · rw [if_pos c3] at H
      have c3b0 : (a0 == 12) = true := beq_iff_eq.mpr c3
      have c3b1 : (a0 != 12) = false := bne_eq_false_iff_eq.mpr c3
      clear c3
      simp only [Option.some.injEq, Prod.mk.injEq] at H
      obtain ⟨rfl, rfl⟩ := H
      go_enter Try.func27, Try.ntmps27
      go_wp2
      go_ret2
      exact ⟨by first | rfl | (simp; done) | (simp [*]; done), by repeat (first | exact Drawn0.refl _ | apply Drawn0.step)⟩
    · rw [if_neg c3] at H
      have c3b0 : (a0 == 12) = false := beq_eq_false_iff_ne.mpr c3
      have c3b1 : (a0 != 12) = true := bne_iff_ne.mpr c3
      by_cases c4 : a0 = 10
      · rw [if_pos c4] at H
        have c4b0 : (a0 == 10) = true := beq_iff_eq.mpr c4
        have c4b1 : (a0 != 10) = false := bne_eq_false_iff_eq.mpr c4
        clear c4
        simp only [Option.some.injEq, Prod.mk.injEq] at H
        obtain ⟨rfl, rfl⟩ := H
        go_enter Try.func27, Try.ntmps27
        go_wp2
        go_ret2
        exact ⟨by first | rfl | (simp; done) | (simp [*]; done), by repeat (first | exact Drawn0.refl _ | apply Drawn0.step)⟩
      · rw [if_neg c4] at H
        have c4b0 : (a0 == 10) = false := beq_eq_false_iff_ne.mpr c4
        have c4b1 : (a0 != 10) = true := bne_iff_ne.mpr c4
        by_cases c5 : a0 = 13
        · rw [if_pos c5] at H
          have c5b0 : (a0 == 13) = true := beq_iff_eq.mpr c5
          have c5b1 : (a0 != 13) = false := bne_eq_false_iff_eq.mpr c5
          clear c5
          simp only [Option.some.injEq, Prod.mk.injEq] at H
          obtain ⟨rfl, rfl⟩ := H
          go_enter Try.func27, Try.ntmps27
          go_wp2
          go_ret2
          exact ⟨by first | rfl | (simp; done) | (simp [*]; done), by repeat (first | exact Drawn0.refl _ | apply Drawn0.step)⟩
        · rw [if_neg c5] at H
          have c5b0 : (a0 == 13) = false := beq_eq_false_iff_ne.mpr c5
          have c5b1 : (a0 != 13) = true := bne_iff_ne.mpr c5
          by_cases c6 : a0 = 9
          · rw [if_pos c6] at H
            have c6b0 : (a0 == 9) = true := beq_iff_eq.mpr c6
            have c6b1 : (a0 != 9) = false := bne_eq_false_iff_eq.mpr c6
            clear c6
            simp only [Option.some.injEq, Prod.mk.injEq] at H
            obtain ⟨rfl, rfl⟩ := H
            go_enter Try.func27, Try.ntmps27
            go_wp2
            go_ret2
            exact ⟨by first | rfl | (simp; done) | (simp [*]; done), by repeat (first | exact Drawn0.refl _ | apply Drawn0.step)⟩
          · rw [if_neg c6] at H
            have c6b0 : (a0 == 9) = false := beq_eq_false_iff_ne.mpr c6
            have c6b1 : (a0 != 9) = true := bne_iff_ne.mpr c6
            by_cases c7 : a0 = 34
            · rw [if_pos c7] at H
              have c7b0 : (a0 == 34) = true := beq_iff_eq.mpr c7
              have c7b1 : (a0 != 34) = false := bne_eq_false_iff_eq.mpr c7
              clear c7
              simp only [Option.some.injEq, Prod.mk.injEq] at H
              obtain ⟨rfl, rfl⟩ := H
              go_enter Try.func27, Try.ntmps27
              go_wp2
              go_ret2
              exact ⟨by first | rfl | (simp; done) | (simp [*]; done), by repeat (first | exact Drawn0.refl _ | apply Drawn0.step)⟩
            · rw [if_neg c7] at H
              have c7b0 : (a0 == 34) = false := beq_eq_false_iff_ne.mpr c7
              have c7b1 : (a0 != 34) = true := bne_iff_ne.mpr c7
              by_cases c8 : a0 = 92
              · rw [if_pos c8] at H
                have c8b0 : (a0 == 92) = true := beq_iff_eq.mpr c8
                have c8b1 : (a0 != 92) = false := bne_eq_false_iff_eq.mpr c8
                clear c8
                simp only [Option.some.injEq, Prod.mk.injEq] at H
                obtain ⟨rfl, rfl⟩ := H
                go_enter Try.func27, Try.ntmps27
                go_wp2
                go_ret2
                exact ⟨by first | rfl | (simp; done) | (simp [*]; done), by repeat (first | exact Drawn0.refl _ | apply Drawn0.step)⟩
              · rw [if_neg c8] at H
                have c8b0 : (a0 == 92) = false := beq_eq_false_iff_ne.mpr c8
                have c8b1 : (a0 != 92) = true := bne_iff_ne.mpr c8
                by_cases c9 : a0 = 47
                · rw [if_pos c9] at H
                  have c9b0 : (a0 == 47) = true := beq_iff_eq.mpr c9
                  have c9b1 : (a0 != 47) = false := bne_eq_false_iff_eq.mpr c9
                  clear c9
                  simp only [Option.some.injEq, Prod.mk.injEq] at H
                  obtain ⟨rfl, rfl⟩ := H
                  go_enter Try.func27, Try.ntmps27
                  go_wp2
                  go_ret2
                  exact ⟨by first | rfl | (simp; done) | (simp [*]; done), by repeat (first | exact Drawn0.refl _ | apply Drawn0.step)⟩
                · rw [if_neg c9] at H
                  have c9b0 : (a0 == 47) = false := beq_eq_false_iff_ne.mpr c9
                  have c9b1 : (a0 != 47) = true := bne_iff_ne.mpr c9
                  simp only [Option.some.injEq, Prod.mk.injEq] at H
                  obtain ⟨rfl, rfl⟩ := H
                  go_enter Try.func27, Try.ntmps27
                  go_wp2
                  go_ret2
                  exact ⟨by first | rfl | (simp; done) | (simp [*]; done), by repeat (first | exact Drawn0.refl _ | apply Drawn0.step)⟩

/-! ### spec_digitOf: function 28 -/
def spec_digitOf.f (a0 : Int) (a1 : Bool) : Option (Int) := if a0 < 10 then (some ((wrap64 (48 + a0)) % 256)) else (if a1 = true then (some ((wrap64 ((wrap64 (65 + a0)) - 10)) % 256)) else (some ((wrap64 ((wrap64 (97 + a0)) - 10)) % 256)))
set_option maxHeartbeats 8000000 in
set_option maxRecDepth 100000 in
theorem spec_digitOf.calls (a0 : Int) (a1 : Bool) (r : Int) (w : World) (h : spec_digitOf.f a0 a1 = some r) :
    Calls Try.prog 28 #[.int .i64 a0, .bool a1] w fun e w' => e = .returned (.int .u8 r) ∧ Drawn0 w w' := by
  have H : (if a0 < 10 then (some ((wrap64 (48 + a0)) % 256)) else (if a1 = true then (some ((wrap64 ((wrap64 (65 + a0)) - 10)) % 256)) else (some ((wrap64 ((wrap64 (97 + a0)) - 10)) % 256)))) = some r := h
  clear h
  by_cases c3 : a0 < 10
  · rw [if_pos c3] at H
    have c3b0 : decide (a0 < 10) = true := decide_eq_true c3
    clear c3
    obtain rfl := Option.some.inj H
    go_enter Try.func28, Try.ntmps28
    go_wp2
    go_ret
    exact ⟨by first | rfl | (simp; done) | (simp [*]; done), by repeat (first | exact Drawn0.refl _ | apply Drawn0.step)⟩
  · rw [if_neg c3] at H
    have c3b0 : decide (a0 < 10) = false := decide_eq_false c3
    clear c3
    by_cases c4 : a1 = true
    · subst c4
      have H1 : (some ((wrap64 ((wrap64 (65 + a0)) - 10)) % 256)) = some r := by rw [if_pos rfl] at H; exact H
      clear H
      have H := H1
      clear H1
      obtain rfl := Option.some.inj H
      go_enter Try.func28, Try.ntmps28
      go_wp2
      go_ret
      exact ⟨by first | rfl | (simp; done) | (simp [*]; done), by repeat (first | exact Drawn0.refl _ | apply Drawn0.step)⟩
    · replace c4 := Bool.eq_false_iff.mpr c4
      subst c4
      have H1 : (some ((wrap64 ((wrap64 (97 + a0)) - 10)) % 256)) = some r := by rw [if_neg (show ¬ (false = true) by decide)] at H; exact H
      clear H
      have H := H1
      clear H1
      obtain rfl := Option.some.inj H
      go_enter Try.func28, Try.ntmps28
      go_wp2
      go_ret
      exact ⟨by first | rfl | (simp; done) | (simp [*]; done), by repeat (first | exact Drawn0.refl _ | apply Drawn0.step)⟩

/-! ### spec_Quote: function 16 -/
mutual
def spec_Quote.l0 : Nat → ByteArray → List Int → Int → Option (ByteArray)
  | 0, _, _, _ => none
  | k + 1, x0, x3, x4 => if x4 < (x0.size : Int) then (if 0 ≤ x4 then ((spec_shortOf.f (bt x0 x4)).bind fun bt287 => (if bt287.2 = true then (spec_Quote.j1 k x0 x3 x4 (bt x0 x4) bt287.1 ((bt x0 x4) != 47)) else (spec_Quote.j1 k x0 x3 x4 (bt x0 x4) bt287.1 false))) else (none)) else (if x3.length < 140737488355328 then (some (strOfNums (x3 ++ [34]))) else (none))
def spec_Quote.j1 : Nat → ByteArray → List Int → Int → Int → Int → Bool → Option (ByteArray)
  | 0, _, _, _, _, _, _ => none
  | k + 1, x0, x3, x4, x5, x6, x27 => if x27 = true then ((some (([92, x6] : List Int) : List Int)).bind fun y289 => (if x3.length + y289.length < 140737488355328 then (spec_Quote.l0 k x0 (x3 ++ y289) (wrap64 (x4 + 1))) else (none))) else (if x5 < 32 then ((spec_digitOf.f (wrap64 (Int.tmod x5 16)) false).bind fun t295 => ((some (([92, 117, 48, 48, (48 + ((Int.tdiv x5 16) % 256)) % 256, t295] : List Int) : List Int)).bind fun y296 => (if x3.length + y296.length < 140737488355328 then (spec_Quote.l0 k x0 (x3 ++ y296) (wrap64 (x4 + 1))) else (none)))) else (if x3.length < 140737488355328 then (spec_Quote.l0 k x0 (x3 ++ [x5]) (wrap64 (x4 + 1))) else (none)))
end
def spec_Quote.f (k : Nat) (a0 : ByteArray) : Option (ByteArray) := spec_Quote.l0 k a0 (([34] : List Int)) 0
theorem spec_Quote.mono_l : ∀ k, (∀ y0 y1 y2, LeO (spec_Quote.l0 k y0 y1 y2) (spec_Quote.l0 (k + 1) y0 y1 y2)) ∧ (∀ y0 y1 y2 y3 y4 y5, LeO (spec_Quote.j1 k y0 y1 y2 y3 y4 y5) (spec_Quote.j1 (k + 1) y0 y1 y2 y3 y4 y5))
  | 0 => ⟨fun _ _ _ r h => by simp [spec_Quote.l0] at h, fun _ _ _ _ _ _ r h => by simp [spec_Quote.j1] at h⟩
  | k + 1 => by
    obtain ⟨ih0, ih1⟩ := spec_Quote.mono_l k
    refine ⟨?_, ?_⟩
    · intro y0 y1 y2
      unfold spec_Quote.l0
      repeat' first
      | (with_reducible exact ih0 _ _ _)
      | (with_reducible exact ih1 _ _ _ _ _ _)
      | (with_reducible exact LeO.refl _)
      | (with_reducible exact LeO.none _)
      | (with_reducible refine LeO.ite ?_ ?_)
      | (with_reducible refine LeO.bind ?_ (fun _ => ?_))
      | exact ih0 _ _ _
      | exact ih1 _ _ _ _ _ _
      | exact LeO.none _
      | refine LeO.ite ?_ ?_
      | refine LeO.bind ?_ (fun _ => ?_)
    · intro y0 y1 y2 y3 y4 y5
      unfold spec_Quote.j1
      repeat' first
      | (with_reducible exact ih0 _ _ _)
      | (with_reducible exact ih1 _ _ _ _ _ _)
      | (with_reducible exact LeO.refl _)
      | (with_reducible exact LeO.none _)
      | (with_reducible refine LeO.ite ?_ ?_)
      | (with_reducible refine LeO.bind ?_ (fun _ => ?_))
      | exact ih0 _ _ _
      | exact ih1 _ _ _ _ _ _
      | exact LeO.none _
      | refine LeO.ite ?_ ?_
      | refine LeO.bind ?_ (fun _ => ?_)
theorem spec_Quote.mono : ∀ a0 k, LeO (spec_Quote.f k a0) (spec_Quote.f (k + 1) a0) := by
  intro a0 k
  obtain ⟨ih0, ih1⟩ := spec_Quote.mono_l k
  unfold spec_Quote.f
  repeat' first
      | (with_reducible exact ih0 _ _ _)
      | (with_reducible exact ih1 _ _ _ _ _ _)
      | (with_reducible exact LeO.refl _)
      | (with_reducible exact LeO.none _)
      | (with_reducible refine LeO.ite ?_ ?_)
      | (with_reducible refine LeO.bind ?_ (fun _ => ?_))
      | exact ih0 _ _ _
      | exact ih1 _ _ _ _ _ _
      | exact LeO.none _
      | refine LeO.ite ?_ ?_
      | refine LeO.bind ?_ (fun _ => ?_)
set_option maxHeartbeats 8000000 in
set_option maxRecDepth 100000 in
theorem spec_Quote.calls (k : Nat) (a0 : ByteArray) (r : ByteArray) (w : World) (h : spec_Quote.f k a0 = some r) :
    Calls Try.prog 16 #[.string a0] w fun e w' => e = .returned (.string r) ∧ Below w.heap.size w w' := by
  have HB := Aside0.mk (Below.refl w.heap.size w)
  have H : (spec_Quote.l0 k a0 (([34] : List Int)) 0) = some r := h
  clear h
  obtain ⟨y281, hy281⟩ : ∃ y_ : List Int, y_ = (([34] : List Int)) := ⟨_, rfl⟩
  replace H : (spec_Quote.l0 k a0 y281 0) = some r := by first | (rw [hy281]; with_reducible exact H) | (have H2_ := (Option.bind_some _ _).symm.trans H; rw [hy281]; with_reducible exact H2_) | (have H2_ := (Option.bind_some _ _).symm.trans H; with_reducible exact H2_) | with_reducible exact H | (rw [hy281]; exact H) | exact H
  have Ny281 := Aside0.mk hy281
  clear hy281
  have H' := Aside0.mk H
  clear H
  go_enter Try.func16, Try.ntmps16
  go_wp2_with (first | ((with_reducible refine gate_dst (N := 8) rfl ?_); refine Kd.R_lit (Kd.int .u8) _ 5 ?hg (N := 8) ?hd (xs := ([34] : List Int)) (inner := [.int .u8 34]) (ok := fun _ => True) (okp := fun _ => True) ?hr ?hp (fun _ hk => hk) trivial (Below.refl _ _) (Nat.le_refl _) (by simp) ?_; (case hd => rfl); (case hg => rfl); (case hr => first | (go_simp; done) | (go_simp; rfl)); (case hp => exact (Reps.one (show Kd.M (Kd.int .u8) _ _ _ 34 [.int .u8 34] from rfl) (Reps.none _ _))); intro v282 w2 ho3 hb hg_ hnew_; clear hg_ hnew_; (first | rw [← Ny281.out] at ho3 | (simp only [Int.reduceToNat] at ho3; rw [← Ny281.out] at ho3)); have n0_ := Aside0.mk (Kd.R_lower ho3 (below_size (by repeat (first | (with_reducible first | exact HB.out | apply below_alloc | apply pw_below_drewN | apply below_drew1) | exact HB.out)))); have n1_ := Aside0.mk (below_step (by repeat (first | (with_reducible first | exact HB.out | apply below_alloc | apply pw_below_drewN | apply below_drew1) | exact HB.out)) hb); clear HB; have HO283 := n0_; have HB := n1_; clear n0_ n1_; clear hb ho3))
  (try simp only [Act.put, List.setIfInBounds_toArray, List.set_cons_succ, List.set_cons_zero])
  go_loopg [3, 4] k (fun kq v3 v4 w' => ∃ (x3_1 : List Int) (x4_1 : Int), v4 = .int .i64 x4_1 ∧ Aside0 (spec_Quote.l0 kq a0 x3_1 x4_1 = some r) ∧ Aside0 (kq ≤ k) ∧ Aside0 (Kd.R (Kd.int .u8) 5 w' w.heap.size (fun _ => True) v3 x3_1) ∧ Aside0 (Below w.heap.size w w'))
  case atStart => exact ⟨(y281), (0), (by first | rfl | (simp; done) | (simp [*]; done)), H', ⟨Nat.le_refl _⟩, ⟨by (with_reducible repeat (first | apply Kd.R_alloc | apply Kd.R_drewN | apply Kd.R_drew)); exact HO283.out⟩, ⟨by repeat (first | (with_reducible first | exact HB.out | apply below_alloc | apply pw_below_drewN | apply below_drew1) | exact HB.out)⟩⟩
  case round =>
    clear H'
    try clear c1
    try clear p2
    obtain ⟨x3_1, x4_1, rfl, HA, HK1, HO_3, HB⟩ := hrel
    cases gk with
    | zero => exact absurd HA.out (by simp [spec_Quote.l0])
    | succ k1 =>
      have H := HA.out
      clear HA
      simp only [spec_Quote.l0] at H
      by_cases c4 : x4_1 < (a0.size : Int)
      · rw [if_pos c4] at H
        have c4b0 : decide (x4_1 < (a0.size : Int)) = true := decide_eq_true c4
        clear c4
        by_cases c5 : 0 ≤ x4_1
        · rw [if_pos c5] at H
          have c5b0 : decide (0 ≤ x4_1) = true := decide_eq_true c5
          clear c5
          replace H := Option.bind_eq_some_iff.mp H
          obtain ⟨⟨t287, t288⟩, A70, H⟩ := H
          replace H : (if t288 = true then (spec_Quote.j1 k1 a0 x3_1 x4_1 (bt a0 x4_1) t287 ((bt a0 x4_1) != 47)) else (spec_Quote.j1 k1 a0 x3_1 x4_1 (bt a0 x4_1) t287 false)) = some r := H
          have A7 := Aside0.mk A70
          clear A70
          have HC8 := Aside0.mk H
          clear H
          have p6 : 0 ≤ (x4_1 : Int) := of_decide_eq_true (by first | (with_reducible assumption) | assumption)
          have q6 : x4_1 < (a0.size : Int) := of_decide_eq_true (by first | (with_reducible assumption) | assumption)
          have hx6 := bt_at a0 x4_1
          replace p6 := eq_true p6
          replace q6 := eq_true q6
          go_upto_region 8 with (first | ((with_reducible refine gate_callee (f := 27) rfl ?_); refine goesL_ (some 20) rfl rfl Try.func27 (by kernel_rfl) rfl #[.int .u8 (bt a0 x4_1)] rfl (by (try simp only [List.map_toArray, List.map_cons, List.map_nil]); first | done | rfl | (simp only [List.length_drop, List.length_take]; rfl)) ?_; (with_reducible refine (spec_shortOf.calls (bt a0 x4_1) t287 t288 _ A7.out).mono ?_); rintro e w' ⟨rfl, ⟨nd, rfl⟩⟩; refine ⟨_, rfl, ?_⟩))
          (try simp only [Act.put, List.setIfInBounds_toArray, List.set_cons_zero, List.set_cons_succ])
          go_cut [27] (fun v27 wc => ∃ (kq : Nat) (x27_7 : Bool), v27 = .bool x27_7 ∧ Aside0 (spec_Quote.j1 kq a0 x3_1 x4_1 (bt a0 x4_1) t287 x27_7 = some r) ∧ Aside0 (kq ≤ k1) ∧ Aside0 (Kd.R (Kd.int .u8) 5 wc w.heap.size (fun _ => True) u3 x3_1) ∧ Aside0 (Below w.heap.size w wc))
          case first =>
            have H := HC8.out
            clear HC8
            by_cases c9 : t288 = true
            · subst c9
              have H1 : (spec_Quote.j1 k1 a0 x3_1 x4_1 (bt a0 x4_1) t287 ((bt a0 x4_1) != 47)) = some r := by rw [if_pos rfl] at H; exact H
              clear H
              have H := H1
              clear H1
              have H' := Aside0.mk H
              clear H
              go_wp2
              go_meet
              case rel => exact ⟨_, (((bt a0 x4_1) != 47)), (by first | rfl | (simp; done) | (simp [*]; done)), H', ⟨by have := HK1.out; first | omega | exact Nat.le_refl _⟩, ⟨by (with_reducible repeat (first | apply Kd.R_alloc | apply Kd.R_drewN | apply Kd.R_drew)); exact HO_3.out⟩, ⟨by repeat (first | (with_reducible first | exact HB.out | apply below_alloc | apply pw_below_drewN | apply below_drew1) | exact HB.out)⟩⟩
            · replace c9 := Bool.eq_false_iff.mpr c9
              subst c9
              have H1 : (spec_Quote.j1 k1 a0 x3_1 x4_1 (bt a0 x4_1) t287 false) = some r := by rw [if_neg (show ¬ (false = true) by decide)] at H; exact H
              clear H
              have H := H1
              clear H1
              have H' := Aside0.mk H
              clear H
              go_wp2
              go_meet
              case rel => exact ⟨_, (false), (by first | rfl | (simp; done) | (simp [*]; done)), H', ⟨by have := HK1.out; first | omega | exact Nat.le_refl _⟩, ⟨by (with_reducible repeat (first | apply Kd.R_alloc | apply Kd.R_drewN | apply Kd.R_drew)); exact HO_3.out⟩, ⟨by repeat (first | (with_reducible first | exact HB.out | apply below_alloc | apply pw_below_drewN | apply below_drew1) | exact HB.out)⟩⟩
          case rest =>
            clear HC8
            try clear c1
            try clear c2
            try clear p2
            try clear c4
            try clear c4b0
            try clear c5
            try clear c5b0
            try clear p6
            try clear q6
            try clear hx6
            try clear c9
            try clear p2
            try clear p6
            try clear q6
            obtain ⟨kq, x27_7, rfl, HA, HJ7, HO_3, HB⟩ := hcut
            cases kq with
            | zero => exact absurd HA.out (by simp [spec_Quote.j1])
            | succ kj7 =>
              have H := HA.out
              clear HA
              simp only [spec_Quote.j1] at H
              by_cases c10 : x27_7 = true
              · subst c10
                have H1 : ((some (([92, t287] : List Int) : List Int)).bind fun y289 => (if x3_1.length + y289.length < 140737488355328 then (spec_Quote.l0 kj7 a0 (x3_1 ++ y289) (wrap64 (x4_1 + 1))) else (none))) = some r := by rw [if_pos rfl] at H; exact H
                clear H
                have H := H1
                clear H1
                obtain ⟨y289, hy289⟩ : ∃ y_ : List Int, y_ = (([92, t287] : List Int)) := ⟨_, rfl⟩
                replace H : (if x3_1.length + y289.length < 140737488355328 then (spec_Quote.l0 kj7 a0 (x3_1 ++ y289) (wrap64 (x4_1 + 1))) else (none)) = some r := by first | (rw [hy289]; with_reducible exact H) | (have H2_ := (Option.bind_some _ _).symm.trans H; rw [hy289]; with_reducible exact H2_) | (have H2_ := (Option.bind_some _ _).symm.trans H; with_reducible exact H2_) | with_reducible exact H | (rw [hy289]; exact H) | exact H
                have Ny289 := Aside0.mk hy289
                clear hy289
                by_cases c11 : x3_1.length + y289.length < 140737488355328
                · rw [if_pos c11] at H
                  have LMc11 := Aside0.mk c11
                  clear c11
                  obtain ⟨y292, hy292⟩ : ∃ y_ : List Int, y_ = (x3_1 ++ y289) := ⟨_, rfl⟩
                  replace H : (spec_Quote.l0 kj7 a0 y292 (wrap64 (x4_1 + 1))) = some r := by first | (rw [hy292]; with_reducible exact H) | (have H2_ := (Option.bind_some _ _).symm.trans H; rw [hy292]; with_reducible exact H2_) | (have H2_ := (Option.bind_some _ _).symm.trans H; with_reducible exact H2_) | with_reducible exact H | (rw [hy292]; exact H) | exact H
                  have Ny292 := Aside0.mk hy292
                  clear hy292
                  have H' := Aside0.mk H
                  clear H
                  go_wp2_with (first | ((with_reducible refine gate_dst (N := 35) rfl ?_); refine Kd.R_lit (Kd.int .u8) _ 5 ?hg (N := 35) ?hd (xs := ([92, t287] : List Int)) (inner := [.int .u8 92, .int .u8 t287]) (ok := fun _ => True) (okp := fun _ => True) ?hr ?hp (fun _ hk => hk) trivial (Below.refl _ _) (Nat.le_refl _) (by simp) ?_; (case hd => rfl); (case hg => rfl); (case hr => first | (go_simp; done) | (go_simp; rfl)); (case hp => exact (Reps.one (show Kd.M (Kd.int .u8) _ _ _ 92 [.int .u8 92] from rfl) (Reps.one (show Kd.M (Kd.int .u8) _ _ _ t287 [.int .u8 t287] from rfl) (Reps.none _ _)))); intro v290 w12 ho13 hb hg_ hnew_; clear hg_ hnew_; (first | rw [← Ny289.out] at ho13 | (simp only [Int.reduceToNat] at ho13; rw [← Ny289.out] at ho13)); have n0_ := Aside0.mk (Kd.R_elder' (by (with_reducible repeat (first | apply Kd.R_alloc | apply Kd.R_drewN | apply Kd.R_drew)); exact HO_3.out) (Kd.R_base ho13) hb); have n1_ := Aside0.mk (Kd.R_lower (Kd.R_new' ho13 (Kd.R_lt (by (with_reducible repeat (first | apply Kd.R_alloc | apply Kd.R_drewN | apply Kd.R_drew)); exact HO_3.out))) (below_size (by repeat (first | (with_reducible first | exact HB.out | apply below_alloc | apply pw_below_drewN | apply below_drew1) | exact HB.out)))); have n2_ := Aside0.mk (below_step (by repeat (first | (with_reducible first | exact HB.out | apply below_alloc | apply pw_below_drewN | apply below_drew1) | exact HB.out)) hb); clear HO_3; clear HB; have HO_3 := n0_; have HO291 := n1_; have HB := n2_; clear n0_ n1_ n2_; clear hb ho13; obtain ⟨Ao15, co15, eo15⟩ := Kd.R_slice HO291.out; subst eo15) | ((with_reducible refine gate_builtin (b := .append) (xs := #[.tmp 33, .tmp 35]) rfl ?_); at_builtin; refine Kd.R_append_rows (Kd.int .u8) (w0 := w) w.heap.size rfl (.tmp 33) (.tmp 35) 39 5 (.int .u8 0) 1 rfl Try.underlying39 info5 rfl (by decide) (by omega) u3 x3_1 y289 _ _ _ (fun k_ => some k_ ≠ (.slice Ao15 y289.length co15 : Value).ownBlock) (fun _ => False) rfl rfl ?aO ?aR (fun _ _ h => h) (fun _ h => h.elim) ?aF ?aB ?aS ?aL ?_; (case aR => repeat (first | exact (Kd.R_reads' HO291.out).2.2 | (with_reducible refine Kd.C_alloc ?_ _) | (with_reducible refine Kd.C_drewN ?_ _) | (with_reducible refine Kd.C_drew ?_))); (case aB => exact (by repeat (first | (with_reducible first | exact HB.out | apply below_alloc | apply pw_below_drewN | apply below_drew1) | exact HB.out))); (case aF => exact (fun k_ hk => Kd.fresh' (Kd.R_lt (by (with_reducible repeat (first | apply Kd.R_alloc | apply Kd.R_drewN | apply Kd.R_drew)); exact HO291.out)) k_ hk)); (case aO => exact (by (with_reducible repeat (first | apply Kd.R_alloc | apply Kd.R_drewN | apply Kd.R_drew)); exact Kd.R_mono HO_3.out (fun _ hk => hk.2))); (case aS => exact (below_size (by repeat (first | (with_reducible first | exact HB.out | apply below_alloc | apply pw_below_drewN | apply below_drew1) | exact HB.out)))); (case aL => have := LMc11.out; omega); intro v293 w14 ho hb hg hat; rw [← Ny292.out] at ho; have n0_ := Aside0.mk (Kd.R_after (ok := (fun _ => True)) (by (with_reducible repeat (first | apply Kd.R_alloc | apply Kd.R_drewN | apply Kd.R_drew)); exact HO291.out) hg hat); have n1_ := Aside0.mk (hb); have n2_ := Aside0.mk (ho); clear HO291; clear HB; clear HO_3; have HO291 := n0_; have HB := n1_; have HO294 := n2_; clear n0_ n1_ n2_; clear ho hb hg hat))
                  go_roundg kj7
                  case measure => have := HK1.out; have := HJ7.out; omega
                  case rel => exact ⟨(y292), (wrap64 (x4_1 + 1)), (by first | rfl | (simp; done) | (simp [*]; done)), H', ⟨by have := HK1.out; have := HJ7.out; omega⟩, ⟨by (with_reducible repeat (first | apply Kd.R_alloc | apply Kd.R_drewN | apply Kd.R_drew)); exact Kd.R_mono HO294.out (fun _ hk => trivial)⟩, ⟨by repeat (first | (with_reducible first | exact HB.out | apply below_alloc | apply pw_below_drewN | apply below_drew1) | exact HB.out)⟩⟩
                · rw [if_neg c11] at H
                  exact absurd H (by simp)
              · replace c10 := Bool.eq_false_iff.mpr c10
                subst c10
                have H1 : (if (bt a0 x4_1) < 32 then ((spec_digitOf.f (wrap64 (Int.tmod (bt a0 x4_1) 16)) false).bind fun t295 => ((some (([92, 117, 48, 48, (48 + ((Int.tdiv (bt a0 x4_1) 16) % 256)) % 256, t295] : List Int) : List Int)).bind fun y296 => (if x3_1.length + y296.length < 140737488355328 then (spec_Quote.l0 kj7 a0 (x3_1 ++ y296) (wrap64 (x4_1 + 1))) else (none)))) else (if x3_1.length < 140737488355328 then (spec_Quote.l0 kj7 a0 (x3_1 ++ [(bt a0 x4_1)]) (wrap64 (x4_1 + 1))) else (none))) = some r := by rw [if_neg (show ¬ (false = true) by decide)] at H; exact H
                clear H
                have H := H1
                clear H1
                by_cases c16 : (bt a0 x4_1) < 32
                · rw [if_pos c16] at H
                  have c16b0 : decide ((bt a0 x4_1) < 32) = true := decide_eq_true c16
                  clear c16
                  replace H := Option.bind_eq_some_iff.mp H
                  obtain ⟨t295, A170, H⟩ := H
                  replace H : ((some (([92, 117, 48, 48, (48 + ((Int.tdiv (bt a0 x4_1) 16) % 256)) % 256, t295] : List Int) : List Int)).bind fun y296 => (if x3_1.length + y296.length < 140737488355328 then (spec_Quote.l0 kj7 a0 (x3_1 ++ y296) (wrap64 (x4_1 + 1))) else (none))) = some r := H
                  have A17 := Aside0.mk A170
                  clear A170
                  obtain ⟨y296, hy296⟩ : ∃ y_ : List Int, y_ = (([92, 117, 48, 48, (48 + ((Int.tdiv (bt a0 x4_1) 16) % 256)) % 256, t295] : List Int)) := ⟨_, rfl⟩
                  replace H : (if x3_1.length + y296.length < 140737488355328 then (spec_Quote.l0 kj7 a0 (x3_1 ++ y296) (wrap64 (x4_1 + 1))) else (none)) = some r := by first | (rw [hy296]; with_reducible exact H) | (have H2_ := (Option.bind_some _ _).symm.trans H; rw [hy296]; with_reducible exact H2_) | (have H2_ := (Option.bind_some _ _).symm.trans H; with_reducible exact H2_) | with_reducible exact H | (rw [hy296]; exact H) | exact H
                  have Ny296 := Aside0.mk hy296
                  clear hy296
                  by_cases c18 : x3_1.length + y296.length < 140737488355328
                  · rw [if_pos c18] at H
                    have LMc18 := Aside0.mk c18
                    clear c18
                    obtain ⟨y299, hy299⟩ : ∃ y_ : List Int, y_ = (x3_1 ++ y296) := ⟨_, rfl⟩
                    replace H : (spec_Quote.l0 kj7 a0 y299 (wrap64 (x4_1 + 1))) = some r := by first | (rw [hy299]; with_reducible exact H) | (have H2_ := (Option.bind_some _ _).symm.trans H; rw [hy299]; with_reducible exact H2_) | (have H2_ := (Option.bind_some _ _).symm.trans H; with_reducible exact H2_) | with_reducible exact H | (rw [hy299]; exact H) | exact H
                    have Ny299 := Aside0.mk hy299
                    clear hy299
                    have H' := Aside0.mk H
                    clear H
                    go_wp2_with (first | ((with_reducible refine gate_callee (f := 28) rfl ?_); refine goesL_ (some 47) rfl rfl Try.func28 (by kernel_rfl) rfl #[.int .i64 (wrap64 (Int.tmod (bt a0 x4_1) 16)), .bool false] rfl (by (try simp only [List.map_toArray, List.map_cons, List.map_nil]); first | done | rfl | (simp only [List.length_drop, List.length_take]; rfl)) ?_; (with_reducible refine (spec_digitOf.calls (wrap64 (Int.tmod (bt a0 x4_1) 16)) false t295 _ A17.out).mono ?_); rintro e w' ⟨rfl, ⟨nd, rfl⟩⟩; refine ⟨_, rfl, ?_⟩) | ((with_reducible refine gate_dst (N := 48) rfl ?_); refine Kd.R_lit (Kd.int .u8) _ 5 ?hg (N := 48) ?hd (xs := ([92, 117, 48, 48, (48 + ((Int.tdiv (bt a0 x4_1) 16) % 256)) % 256, t295] : List Int)) (inner := [.int .u8 92, .int .u8 117, .int .u8 48, .int .u8 48, .int .u8 ((48 + ((Int.tdiv (bt a0 x4_1) 16) % 256)) % 256), .int .u8 t295]) (ok := fun _ => True) (okp := fun _ => True) ?hr ?hp (fun _ hk => hk) trivial (Below.refl _ _) (Nat.le_refl _) (by simp) ?_; (case hd => rfl); (case hg => rfl); (case hr => first | (go_simp; done) | (go_simp; rfl)); (case hp => exact (Reps.one (show Kd.M (Kd.int .u8) _ _ _ 92 [.int .u8 92] from rfl) (Reps.one (show Kd.M (Kd.int .u8) _ _ _ 117 [.int .u8 117] from rfl) (Reps.one (show Kd.M (Kd.int .u8) _ _ _ 48 [.int .u8 48] from rfl) (Reps.one (show Kd.M (Kd.int .u8) _ _ _ 48 [.int .u8 48] from rfl) (Reps.one (show Kd.M (Kd.int .u8) _ _ _ ((48 + ((Int.tdiv (bt a0 x4_1) 16) % 256)) % 256) [.int .u8 ((48 + ((Int.tdiv (bt a0 x4_1) 16) % 256)) % 256)] from rfl) (Reps.one (show Kd.M (Kd.int .u8) _ _ _ t295 [.int .u8 t295] from rfl) (Reps.none _ _)))))))); intro v297 w19 ho20 hb hg_ hnew_; clear hg_ hnew_; (first | rw [← Ny296.out] at ho20 | (simp only [Int.reduceToNat] at ho20; rw [← Ny296.out] at ho20)); have n0_ := Aside0.mk (Kd.R_elder' (by (with_reducible repeat (first | apply Kd.R_alloc | apply Kd.R_drewN | apply Kd.R_drew)); exact HO_3.out) (Kd.R_base ho20) hb); have n1_ := Aside0.mk (Kd.R_lower (Kd.R_new' ho20 (Kd.R_lt (by (with_reducible repeat (first | apply Kd.R_alloc | apply Kd.R_drewN | apply Kd.R_drew)); exact HO_3.out))) (below_size (by repeat (first | (with_reducible first | exact HB.out | apply below_alloc | apply pw_below_drewN | apply below_drew1) | exact HB.out)))); have n2_ := Aside0.mk (below_step (by repeat (first | (with_reducible first | exact HB.out | apply below_alloc | apply pw_below_drewN | apply below_drew1) | exact HB.out)) hb); clear HO_3; clear HB; have HO_3 := n0_; have HO298 := n1_; have HB := n2_; clear n0_ n1_ n2_; clear hb ho20; obtain ⟨Ao22, co22, eo22⟩ := Kd.R_slice HO298.out; subst eo22) | ((with_reducible refine gate_builtin (b := .append) (xs := #[.tmp 40, .tmp 48]) rfl ?_); at_builtin; refine Kd.R_append_rows (Kd.int .u8) (w0 := w) w.heap.size rfl (.tmp 40) (.tmp 48) 39 5 (.int .u8 0) 1 rfl Try.underlying39 info5 rfl (by decide) (by omega) u3 x3_1 y296 _ _ _ (fun k_ => some k_ ≠ (.slice Ao22 y296.length co22 : Value).ownBlock) (fun _ => False) rfl rfl ?aO ?aR (fun _ _ h => h) (fun _ h => h.elim) ?aF ?aB ?aS ?aL ?_; (case aR => repeat (first | exact (Kd.R_reads' HO298.out).2.2 | (with_reducible refine Kd.C_alloc ?_ _) | (with_reducible refine Kd.C_drewN ?_ _) | (with_reducible refine Kd.C_drew ?_))); (case aB => exact (by repeat (first | (with_reducible first | exact HB.out | apply below_alloc | apply pw_below_drewN | apply below_drew1) | exact HB.out))); (case aF => exact (fun k_ hk => Kd.fresh' (Kd.R_lt (by (with_reducible repeat (first | apply Kd.R_alloc | apply Kd.R_drewN | apply Kd.R_drew)); exact HO298.out)) k_ hk)); (case aO => exact (by (with_reducible repeat (first | apply Kd.R_alloc | apply Kd.R_drewN | apply Kd.R_drew)); exact Kd.R_mono HO_3.out (fun _ hk => hk.2))); (case aS => exact (below_size (by repeat (first | (with_reducible first | exact HB.out | apply below_alloc | apply pw_below_drewN | apply below_drew1) | exact HB.out)))); (case aL => have := LMc18.out; omega); intro v300 w21 ho hb hg hat; rw [← Ny299.out] at ho; have n0_ := Aside0.mk (Kd.R_after (ok := (fun _ => True)) (by (with_reducible repeat (first | apply Kd.R_alloc | apply Kd.R_drewN | apply Kd.R_drew)); exact HO298.out) hg hat); have n1_ := Aside0.mk (hb); have n2_ := Aside0.mk (ho); clear HO298; clear HB; clear HO_3; have HO298 := n0_; have HB := n1_; have HO301 := n2_; clear n0_ n1_ n2_; clear ho hb hg hat))
                    go_roundg kj7
                    case measure => have := HK1.out; have := HJ7.out; omega
                    case rel => exact ⟨(y299), (wrap64 (x4_1 + 1)), (by first | rfl | (simp; done) | (simp [*]; done)), H', ⟨by have := HK1.out; have := HJ7.out; omega⟩, ⟨by (with_reducible repeat (first | apply Kd.R_alloc | apply Kd.R_drewN | apply Kd.R_drew)); exact Kd.R_mono HO301.out (fun _ hk => trivial)⟩, ⟨by repeat (first | (with_reducible first | exact HB.out | apply below_alloc | apply pw_below_drewN | apply below_drew1) | exact HB.out)⟩⟩
                  · rw [if_neg c18] at H
                    exact absurd H (by simp)
                · rw [if_neg c16] at H
                  have c16b0 : decide ((bt a0 x4_1) < 32) = false := decide_eq_false c16
                  clear c16
                  by_cases c23 : x3_1.length < 140737488355328
                  · rw [if_pos c23] at H
                    have LMc23 := Aside0.mk c23
                    clear c23
                    obtain ⟨y302, hy302⟩ : ∃ y_ : List Int, y_ = (x3_1 ++ [(bt a0 x4_1)]) := ⟨_, rfl⟩
                    replace H : (spec_Quote.l0 kj7 a0 y302 (wrap64 (x4_1 + 1))) = some r := by first | (rw [hy302]; with_reducible exact H) | (have H2_ := (Option.bind_some _ _).symm.trans H; rw [hy302]; with_reducible exact H2_) | (have H2_ := (Option.bind_some _ _).symm.trans H; with_reducible exact H2_) | with_reducible exact H | (rw [hy302]; exact H) | exact H
                    have Ny302 := Aside0.mk hy302
                    clear hy302
                    have H' := Aside0.mk H
                    clear H
                    go_wp2_with (first | ((with_reducible refine gate_builtin (b := .append) (xs := #[.tmp 23, .tmp 25]) rfl ?_); at_builtin; refine Kd.R_append (Kd.int .u8) (w0 := w) w.heap.size rfl (.tmp 23) (.tmp 25) 39 5 (.int .u8 0) 1 rfl Try.underlying39 info5 rfl (by decide) (by omega) u3 x3_1 (bt a0 x4_1) [.int .u8 (bt a0 x4_1)] (fun _ => True) (fun _ => False) rfl rfl ?aP (fun _ hk => hk.elim) ?aF ?aO ?aB ?aS ?aL ?_; (case aP => exact rfl); (case aB => exact (by repeat (first | (with_reducible first | exact HB.out | apply below_alloc | apply pw_below_drewN | apply below_drew1) | exact HB.out))); (case aF => exact (fun _ _ => trivial)); (case aO => exact (by (with_reducible repeat (first | apply Kd.R_alloc | apply Kd.R_drewN | apply Kd.R_drew)); exact HO_3.out)); (case aS => exact (below_size (by repeat (first | (with_reducible first | exact HB.out | apply below_alloc | apply pw_below_drewN | apply below_drew1) | exact HB.out)))); (case aL => have := LMc23.out; omega); intro v303 w24 ho hb hg hat; rw [← Ny302.out] at ho; have n0_ := Aside0.mk (hb); have n1_ := Aside0.mk (ho); clear HB; clear HO_3; have HB := n0_; have HO304 := n1_; clear n0_ n1_; clear ho hb hg hat))
                    go_roundg kj7
                    case measure => have := HK1.out; have := HJ7.out; omega
                    case rel => exact ⟨(y302), (wrap64 (x4_1 + 1)), (by first | rfl | (simp; done) | (simp [*]; done)), H', ⟨by have := HK1.out; have := HJ7.out; omega⟩, ⟨by (with_reducible repeat (first | apply Kd.R_alloc | apply Kd.R_drewN | apply Kd.R_drew)); exact HO304.out⟩, ⟨by repeat (first | (with_reducible first | exact HB.out | apply below_alloc | apply pw_below_drewN | apply below_drew1) | exact HB.out)⟩⟩
                  · rw [if_neg c23] at H
                    exact absurd H (by simp)
        · rw [if_neg c5] at H
          exact absurd H (by simp)
      · rw [if_neg c4] at H
        have c4b0 : decide (x4_1 < (a0.size : Int)) = false := decide_eq_false c4
        clear c4
        by_cases c25 : x3_1.length < 140737488355328
        · rw [if_pos c25] at H
          have LMc25 := Aside0.mk c25
          clear c25
          obtain ⟨y284, hy284⟩ : ∃ y_ : List Int, y_ = (x3_1 ++ [34]) := ⟨_, rfl⟩
          replace H : (some (strOfNums y284)) = some r := by first | (rw [hy284]; with_reducible exact H) | (have H2_ := (Option.bind_some _ _).symm.trans H; rw [hy284]; with_reducible exact H2_) | (have H2_ := (Option.bind_some _ _).symm.trans H; with_reducible exact H2_) | with_reducible exact H | (rw [hy284]; exact H) | exact H
          have Ny284 := Aside0.mk hy284
          clear hy284
          obtain rfl := Option.some.inj H
          go_wp2_with (first | ((with_reducible refine gate_builtin (b := .append) (xs := #[.tmp 50, .tmp 51]) rfl ?_); at_builtin; refine Kd.R_append (Kd.int .u8) (w0 := w) w.heap.size rfl (.tmp 50) (.tmp 51) 39 5 (.int .u8 0) 1 rfl Try.underlying39 info5 rfl (by decide) (by omega) u3 x3_1 34 [.int .u8 34] (fun _ => True) (fun _ => False) rfl rfl ?aP (fun _ hk => hk.elim) ?aF ?aO ?aB ?aS ?aL ?_; (case aP => exact rfl); (case aB => exact (by repeat (first | (with_reducible first | exact HB.out | apply below_alloc | apply pw_below_drewN | apply below_drew1) | exact HB.out))); (case aF => exact (fun _ _ => trivial)); (case aO => exact (by (with_reducible repeat (first | apply Kd.R_alloc | apply Kd.R_drewN | apply Kd.R_drew)); exact HO_3.out)); (case aS => exact (below_size (by repeat (first | (with_reducible first | exact HB.out | apply below_alloc | apply pw_below_drewN | apply below_drew1) | exact HB.out)))); (case aL => have := LMc25.out; omega); intro v285 w26 ho hb hg hat; rw [← Ny284.out] at ho; have n0_ := Aside0.mk (hb); have n1_ := Aside0.mk (ho); clear HB; clear HO_3; have HB := n0_; have HO286 := n1_; clear n0_ n1_; clear ho hb hg hat; have hcv27 := own_string (P := Try.prog) Try.underlying39 Try.underlying5 Try.underlying9 (Kd.own_of_R HO286.out)))
          go_ret
          exact ⟨by first | rfl | (simp [errW_none, errW_some] <;> rfl) | (simp [*, errW_none, errW_some] <;> rfl), by repeat (first | (with_reducible first | exact HB.out | apply below_alloc | apply pw_below_drewN | apply below_drew1) | exact HB.out)⟩
        · rw [if_neg c25] at H
          exact absurd H (by simp)

end Go.Proofs.Ytbppoiedaojjmaa.PFnPrUglyJoin
