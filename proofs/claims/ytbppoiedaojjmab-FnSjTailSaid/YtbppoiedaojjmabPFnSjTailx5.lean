/- Written by a program of this session (a turned copy of the print) out of the translation. -/
import Derived.Test.YtbppoiedaojjmabPFnSjTailx0
namespace Go.Proofs.Ytbppoiedaojjmab.PFnSjTail
open Go.RowKit Go.Proofs.YtbppoiedaojjmabW.PrintWords Go.Proofs.YtbppoiedaojjmabW.PrintLast Go.Proofs.YtbppoiedaojjmabW.PrintMore
attribute [local go_sem] max2_int min2_int max_two min_two max_three min_three max_four min_four   -- for this text's walks alone
set_option linter.unusedVariables false
set_option linter.unusedSimpArgs false

/-! spec.Bare, walked by hand -/
/-- A part of a text. -/
def part (L : List Int) (b e : Int) : Option (List Int) := if 0 ≤ b ∧ b ≤ e ∧ e ≤ (L.length : Int) then some ((L.drop b.toNat).take (e.toNat - b.toNat)) else none
mutual
/-- A place's text without blanks outside of strings. -/
def bare (L : List Int) : S25 → Option (List Int)
  | ⟨k, b, e, ns, ks⟩ => if k ≠ 5 ∧ k ≠ 6 then part L b e else (bares L (k == 6) ns ks true).bind fun x => some ((if k = 6 then 123 else 91) :: x ++ [if k = 6 then 125 else 93])
def bares (L : List Int) (obj : Bool) : List S31 → List S25 → Bool → Option (List Int)
  | _, [], _ => some []
  | ns, p :: ks, first =>
    (if obj then (match ns with | [] => none | n :: _ => (part L n.f0 n.f1).bind fun x => some (x ++ [58])) else some []).bind fun nm =>
      (bare L p).bind fun v => (bares L obj ns.tail ks false).bind fun r => some ((if first then [] else [44]) ++ nm ++ v ++ r)
end

theorem part_some {s : ByteArray} {b e : Int} {x : List Int} (h : part (Kit.nums s) b e = some x) : 0 ≤ b ∧ b ≤ e ∧ e ≤ (s.size : Int) ∧ x = Kit.nums (s.extract b.toNat e.toNat) := by
  unfold part at h
  rw [Kit.nums_len] at h
  split at h
  · rename_i hp
    injection h with h
    exact ⟨hp.1, hp.2.1, hp.2.2, by rw [← h, Kit.nums_extract]⟩
  · cases h

/-- A row's element at a place. -/
theorem drop_at {α : Type} (l : List α) (d : α) (j : Nat) (h : j < l.length) : l.drop j = l.getD j d :: l.drop (j + 1) := by
  rw [List.drop_eq_getElem_cons h, List.getD_eq_getElem?_getD, List.getElem?_eq_getElem h]
  rfl
theorem bares_end {L : List Int} {obj b : Bool} {ns : List S31} {ks : List S25} {j : Nat} {rest : List Int} (h : bares L obj (ns.drop j) (ks.drop j) b = some rest) (hj : ks.length ≤ j) : rest = [] := by
  rw [List.drop_eq_nil_of_le hj, bares.eq_def] at h
  injection h with h
  exact h.symm
theorem bares_arr {L : List Int} {b : Bool} {ns : List S31} {ks : List S25} {j : Nat} {rest : List Int} (h : bares L false (ns.drop j) (ks.drop j) b = some rest) (hj : j < ks.length) :
    ∃ v r, bare L (rd_T25 ks (j : Int)) = some v ∧ bares L false (ns.drop (j + 1)) (ks.drop (j + 1)) false = some r ∧ rest = (if b then [] else [44]) ++ v ++ r := by
  rw [drop_at ks z25 j hj, bares.eq_def] at h
  simp only [Bool.false_eq_true, if_false, Option.bind_some, List.tail_drop] at h
  obtain ⟨v, hv, h⟩ := Option.bind_eq_some_iff.mp h
  obtain ⟨r, hr, h⟩ := Option.bind_eq_some_iff.mp h
  injection h with h
  exact ⟨v, r, by unfold rd_T25; exact hv, hr, by rw [← h]; simp⟩
theorem bares_obj {L : List Int} {b : Bool} {ns : List S31} {ks : List S25} {j : Nat} {rest : List Int} (h : bares L true (ns.drop j) (ks.drop j) b = some rest) (hj : j < ks.length) :
    j < ns.length ∧ ∃ x v r, part L (rd_T31 ns (j : Int)).f0 (rd_T31 ns (j : Int)).f1 = some x ∧ bare L (rd_T25 ks (j : Int)) = some v ∧ bares L true (ns.drop (j + 1)) (ks.drop (j + 1)) false = some r ∧ rest = (if b then [] else [44]) ++ x ++ [58] ++ v ++ r := by
  rw [drop_at ks z25 j hj, bares.eq_def] at h
  rcases Nat.lt_or_ge j ns.length with hn | hn
  · rw [drop_at ns z31 j hn] at h
    simp only [if_true, List.tail_cons] at h
    obtain ⟨nm, hnm, h⟩ := Option.bind_eq_some_iff.mp h
    obtain ⟨x, hx, hnm⟩ := Option.bind_eq_some_iff.mp hnm
    obtain ⟨v, hv, h⟩ := Option.bind_eq_some_iff.mp h
    obtain ⟨r, hr, h⟩ := Option.bind_eq_some_iff.mp h
    injection h with h
    injection hnm with hnm
    exact ⟨hn, x, v, r, by unfold rd_T31; exact hx, by unfold rd_T25; exact hv, hr, by rw [← h, ← hnm]; simp⟩
  · rw [List.drop_eq_nil_of_le hn] at h
    simp at h
theorem kid_small {kind b e : Int} {ns : List S31} {ks : List S25} {j m : Nat} (h : SizeOf.sizeOf (⟨kind, b, e, ns, ks⟩ : S25) < m + 1) (hj : j < ks.length) : SizeOf.sizeOf (rd_T25 ks (j : Int)) < m := by
  have hm : rd_T25 ks (j : Int) ∈ ks := by
    unfold rd_T25
    rw [List.getD_eq_getElem?_getD, Int.toNat_natCast, List.getElem?_eq_getElem hj]
    exact List.getElem_mem hj
  have h1 := List.sizeOf_lt_of_mem hm
  simp only [S25.mk.sizeOf_spec] at h
  omega
theorem new_at (w : World) (o1 o2 : Obj) : ((w.alloc o1).alloc o2).heap[w.heap.size + 1]? = some o2 := by
  have := heap_alloc_new (w.alloc o1) o2
  simpa using this
theorem box_blk {w wr : World} {o : Obj} {v v1 : Value} (h : Kit.Keeps (w.alloc o) wr v v1) (hv : ∀ k, v.ownBlock = some k → k < w.heap.size) {o' : Obj} (ho : (w.alloc o).heap[w.heap.size]? = some o') : wr.heap[w.heap.size]? = some o' :=
  h.blk ho fun e => by have := hv _ e.symm; omega

set_option maxHeartbeats 8000000 in
set_option maxRecDepth 100000 in
theorem bareTo_walk (m : Nat) : ∀ (p : S25), SizeOf.sizeOf p < m → ∀ (text : ByteArray) (out x : List Int) (v : Value) (wB w : World) (A3 : Option Addr) (c3 : Nat) (A4 : Option Addr) (c4 : Nat),
    Below wB.heap.size wB w → Kit.OB wB.heap.size w v out → Kd.C k31 wB A3 p.f3.length p.f3 → Kd.C k25 wB A4 p.f4.length p.f4 → bare (Kit.nums text) p = some x → out.length + x.length ≤ 140737488355327 →
    Calls Try.prog 10 #[v, .string text, .agg #[.int .i64 p.f0, .int .i64 p.f1, .int .i64 p.f2, .slice A3 p.f3.length c3, .slice A4 p.f4.length c4]] w
      fun e w' => ∃ v', e = .returned v' ∧ Kit.OB wB.heap.size w' v' (out ++ x) ∧ Below wB.heap.size wB w' ∧ Kit.Keeps w w' v v' := by
  induction m with
  | zero => exact fun p h => absurd h (Nat.not_lt_zero _)
  | succ m ih =>
  intro p hm text out x v wB w A3 c3 A4 c4 hB hO hr3 hr4 hx hfit
  obtain ⟨i5, hi5, hz5, hsz5, hby5⟩ : ∃ i, Try.prog.info? 5 = some i ∧ i.zero = some (.int .u8 0) ∧ i.size = 1 ∧ i.bytes = 1 := ⟨_, rfl, rfl, rfl, rfl⟩
  have hu1 := Try.underlying25
  have hu2 := Try.underlying31
  obtain ⟨kind, b, e, ns, ks⟩ := p
  have IH := Lib.hid ih
  have HM := Lib.hid hm
  have HB := Aside0.mk hB
  have HO := Aside0.mk hO
  have HR3 := Aside0.mk hr3
  have HR4 := Aside0.mk hr4
  have HF := Aside0.mk hfit
  clear ih hm hB hO hr3 hr4 hfit
  unfold bare at hx
  by_cases hk : kind ≠ 5 ∧ kind ≠ 6
  · rw [if_pos hk] at hx
    obtain ⟨hb0, hbe, hes, rfl⟩ := part_some hx
    obtain ⟨hk5, hk6⟩ := hk
    have g1 : (kind != 5) = true := by rw [bne_iff_ne]; exact hk5
    have g2 : (kind != 6) = true := by rw [bne_iff_ne]; exact hk6
    clear hk5 hk6 hx
    go_enter Try.func10, Try.ntmps10
    go_wp2_with (at_builtin; refine Kit.wpList_append_obg rfl (.tmp 18) (.tmp 24) 38 9 rfl Try.underlying38 hi5 hz5 hsz5 hby5 _ _ rfl (HO.out.alloc _) (HB.out.alloc HB.out.size _).size _ _ rfl (Kit.src_str Try.underlying9 _ _) HF.out ?_; intro v1 w1 hob1 hgr1 hat1; have HB1 := Aside0.mk ((HB.out.alloc HB.out.size _).grown hgr1 (HB.out.alloc HB.out.size _).size (fun k hk => (HO.out.lt k hk).1)); have HO1 := Aside0.mk hob1; have HK1 := Aside0.mk (((Kit.Keeps.refl w v).alloc _).grown hgr1 hat1); clear hob1 hgr1 hat1)
    go_ret
    exact ⟨_, rfl, HO1.out, HB1.out, HK1.out⟩
  · by_cases h6 : kind = 6
    · subst h6
      rw [if_neg hk] at hx
      obtain ⟨X, hX, hx⟩ := Option.bind_eq_some_iff.mp hx
      have hx' : x = 123 :: X ++ [125] := by
        simp at hx
        rw [← hx]
        rfl
      have HX := Lib.hid hX
      subst hx'
      clear hk hx hX
      have hF : out.length + X.length + 2 ≤ 140737488355327 := by
        have := HF.out
        simp at this
        omega
      replace HF := Aside0.mk hF
      clear hF
      go_enter Try.func10, Try.ntmps10
      go_wp2_with (at_builtin; refine Kit.wpList_append_obg rfl (.tmp 29) (.tmp 31) 38 38 rfl Try.underlying38 hi5 hz5 hsz5 hby5 _ _ rfl ((HO.out.alloc _).alloc _) ((HB.out.alloc HB.out.size _).alloc (HB.out.alloc HB.out.size _).size _).size _ [123] rfl (Kit.src_lit Try.underlying38 [123] (new_at _ _ _) rfl) (by have := HF.out; simp; omega) ?_; intro v1 w1 hob1 hgr1 hat1; have HB1 := Aside0.mk (((HB.out.alloc HB.out.size _).alloc (HB.out.alloc HB.out.size _).size _).grown hgr1 ((HB.out.alloc HB.out.size _).alloc (HB.out.alloc HB.out.size _).size _).size (fun k hk => (HO.out.lt k hk).1)); have HO1 := Aside0.mk hob1; have HK1 := Aside0.mk (((Kit.Keeps.refl (w.alloc (.cells #[.int .i64 6, .int .i64 b, .int .i64 e, .slice A3 ns.length c3, .slice A4 ks.length c4] 25)) v).alloc _).grown hgr1 hat1); clear hob1 hgr1 hat1; have hbx1 := box_blk HK1.out (fun k hk => (HO.out.lt k hk).2) (heap_alloc_new w _); have hca1 : w1.cell? ⟨w.heap.size, 0, none⟩ = some (.int .i64 6) := (blk_cell hbx1 0).trans rfl; have hcd1 : w1.cell? ⟨w.heap.size, 3, none⟩ = some (.slice A3 ns.length c3) := (blk_cell hbx1 3).trans rfl; have hce1 : w1.cell? ⟨w.heap.size, 4, none⟩ = some (.slice A4 ks.length c4) := (blk_cell hbx1 4).trans rfl; clear hbx1)
      clear hca1 hcd1 hce1
      go_loopw [0, 9, 36] (fun v' kv iv wr => ∃ (j : Nat) (done rest : List Int), j ≤ ks.length ∧ iv = .int .i64 j ∧ Aside0 (bares (Kit.nums text) true (ns.drop j) (ks.drop j) (j == 0) = some rest) ∧ Aside0 (done ++ rest = X) ∧ Aside0 (Kit.OB wB.heap.size wr v' (out ++ 123 :: done)) ∧ Aside0 (Below wB.heap.size wB wr) ∧ Aside0 (Kit.Keeps (w.alloc (.cells #[.int .i64 6, .int .i64 b, .int .i64 e, .slice A3 ns.length c3, .slice A4 ks.length c4] 25)) wr v v')) (fun _ _ iv _ => ks.length - (intOf iv).toNat)
      case atStart => exact ⟨0, [], X, Nat.zero_le _, rfl, ⟨HX.out⟩, ⟨rfl⟩, HO1, HB1, HK1⟩
      case round =>
        clear HO1 HB1 HK1 HX
        obtain ⟨j, done, rest, hj, rfl, HR, HD, HOr, HBr, HKr⟩ := hrel
        have HL := Aside0.mk (show done.length + rest.length = X.length by rw [← HD.out, List.length_append])
        have hmx : ks.length ≤ 9223372036854775807 := HR4.out.2.1
        by_cases hlt : j < ks.length
        · obtain ⟨hns, nm, x1, r1, hnm, hx1, hr1, he1⟩ := bares_obj HR.out hlt
          obtain ⟨hp0, hp1, hp2, rfl⟩ := part_some hnm
          obtain ⟨na, eN, n0, n1⟩ := at_T31 HR3.out (j : Int) (by omega) (by omega)
          simp only [Int.toNat_natCast] at n0 n1
          have HN0 := Aside0.mk n0
          have HN1 := Aside0.mk n1
          subst eN
          clear hnm n0 n1
          have HKD := Aside0.mk (kid_small HM.out hlt)
          obtain ⟨ad, B3, d3, B4, d4, eA, k0, k1, k2, k3, k4, l3, g3, l4, g4⟩ := at_T25 HR4.out (j : Int) (by omega) (by omega)
          subst eA
          simp only [Int.toNat_natCast] at k0 k1 k2 k3 k4
          have HC0 := Aside0.mk k0
          have HC1 := Aside0.mk k1
          have HC2 := Aside0.mk k2
          have HC3 := Aside0.mk k3
          have HC4 := Aside0.mk k4
          have HG3 := Aside0.mk g3
          have HG4 := Aside0.mk g4
          have HX1 := Aside0.mk hx1
          have HR1 := Aside0.mk hr1
          have HE1 := Aside0.mk he1
          clear k0 k1 k2 k3 k4 g3 g4 hx1 hr1 he1
          by_cases hj0 : j = 0
          · have hneg : ¬ ((0 : Int) < (j : Int)) := by omega
            have hjt : (j == 0) = true := by rw [beq_iff_eq]; exact hj0
            have HJT := Aside0.mk hjt
            clear hjt hj0
            have hRL : rest.length = (Kit.nums (text.extract (rd_T31 ns (j : Int)).f0.toNat (rd_T31 ns (j : Int)).f1.toNat)).length + 1 + x1.length + r1.length := by
              rw [HE1.out, HJT.out]
              simp; omega
            have HRL := Aside0.mk hRL
            clear hRL
            have hbxr := box_blk HKr.out (fun k hk => (HO.out.lt k hk).2) (heap_alloc_new w _)
            have hcar := (blk_cell hbxr 0).trans (show _ = some (.int .i64 6) from rfl)
            have hcdr := (blk_cell hbxr 3).trans (show _ = some (.slice (some na) ns.length c3) from rfl)
            have hcer := (blk_cell hbxr 4).trans (show _ = some (.slice (some ad) ks.length c4) from rfl)
            clear hbxr
            have hk0r := pw_cell_below HBr.out HC0.out
            have hk1r := pw_cell_below HBr.out HC1.out
            have hk2r := pw_cell_below HBr.out HC2.out
            have hk3r := pw_cell_below HBr.out HC3.out
            have hk4r := pw_cell_below HBr.out HC4.out
            have hn0r := pw_cell_below HBr.out HN0.out
            have hn1r := pw_cell_below HBr.out HN1.out
            go_wp2_with fail
            go_region_law (refine Kit.step_append_obg rfl (.tmp 47) (.tmp 61) 38 9 rfl Try.underlying38 hi5 hz5 hsz5 hby5 _ _ rfl (Kit.OB.drew HOr.out) HBr.out.drew.size _ (Kit.nums (text.extract (rd_T31 ns (j : Int)).f0.toNat (rd_T31 ns (j : Int)).f1.toNat)) rfl (Kit.src_str Try.underlying9 _ _) (by have := HF.out; have := HL.out; have := HRL.out; simp at *; omega) ?_; intro v2 w2 hob2 hgr2 hat2; have HB2 := Aside0.mk (HBr.out.drew.grown hgr2 HBr.out.drew.size (fun k hk => (HOr.out.lt k hk).1)); have HO2 := Aside0.mk hob2; have HK2 := Aside0.mk (HKr.out.drew.grown hgr2 hat2); clear hob2 hgr2 hat2; clear hcar hcdr hcer hk0r hk1r hk2r hk3r hk4r hn0r hn1r; have hbx2 := box_blk HK2.out (fun k hk => (HO.out.lt k hk).2) (heap_alloc_new w _); have hca2 : w2.cell? ⟨w.heap.size, 0, none⟩ = some (.int .i64 6) := (blk_cell hbx2 0).trans rfl; have hcd2 : w2.cell? ⟨w.heap.size, 3, none⟩ = some (.slice (some na) ns.length c3) := (blk_cell hbx2 3).trans rfl; have hce2 : w2.cell? ⟨w.heap.size, 4, none⟩ = some (.slice (some ad) ks.length c4) := (blk_cell hbx2 4).trans rfl; clear hbx2; have hk02 := pw_cell_below HB2.out HC0.out; have hk12 := pw_cell_below HB2.out HC1.out; have hk22 := pw_cell_below HB2.out HC2.out; have hk32 := pw_cell_below HB2.out HC3.out; have hk42 := pw_cell_below HB2.out HC4.out; have hn02 := pw_cell_below HB2.out HN0.out; have hn12 := pw_cell_below HB2.out HN1.out)
            all_goals
              go_wp2_with (first | (at_builtin; refine Kit.wpList_append_obg rfl (.tmp 63) (.tmp 64) 38 38 rfl Try.underlying38 hi5 hz5 hsz5 hby5 _ _ rfl (HO2.out.alloc _) (HB2.out.alloc HB2.out.size _).size _ [58] rfl (Kit.src_lit Try.underlying38 [58] (heap_alloc_new _ _) rfl) (by have := HF.out; have := HL.out; have := HRL.out; simp at *; omega) ?_; intro v3 w3 hob3 hgr3 hat3; have HB3 := Aside0.mk ((HB2.out.alloc HB2.out.size _).grown hgr3 (HB2.out.alloc HB2.out.size _).size (fun k hk => (HO2.out.lt k hk).1)); have HO3 := Aside0.mk hob3; have HK3 := Aside0.mk ((HK2.out.alloc _).grown hgr3 hat3); clear hob3 hgr3 hat3; clear hca2 hcd2 hce2 hk02 hk12 hk22 hk32 hk42 hn02 hn12; have hbx3 := box_blk HK3.out (fun k hk => (HO.out.lt k hk).2) (heap_alloc_new w _); have hca3 : w3.cell? ⟨w.heap.size, 0, none⟩ = some (.int .i64 6) := (blk_cell hbx3 0).trans rfl; have hcd3 : w3.cell? ⟨w.heap.size, 3, none⟩ = some (.slice (some na) ns.length c3) := (blk_cell hbx3 3).trans rfl; have hce3 : w3.cell? ⟨w.heap.size, 4, none⟩ = some (.slice (some ad) ks.length c4) := (blk_cell hbx3 4).trans rfl; clear hbx3; have hk03 := pw_cell_below HB3.out HC0.out; have hk13 := pw_cell_below HB3.out HC1.out; have hk23 := pw_cell_below HB3.out HC2.out; have hk33 := pw_cell_below HB3.out HC3.out; have hk43 := pw_cell_below HB3.out HC4.out; have hn03 := pw_cell_below HB3.out HN0.out; have hn13 := pw_cell_below HB3.out HN1.out) | (go_at_call 10; refine (IH.out (rd_T25 ks (j : Int)) HKD.out text _ x1 _ wB _ B3 d3 B4 d4 HB3.out HO3.out HG3.out HG4.out HX1.out (by have := HF.out; have := HL.out; have := HRL.out; simp at *; omega)).mono ?_; rintro e w9 ⟨v9, rfl, hob9, hb9, hkp9⟩; have HO9 := Aside0.mk hob9; have HB9 := Aside0.mk hb9; have HK9 := Aside0.mk (HK3.out.trans hkp9); clear hob9 hb9 hkp9; clear hca3 hcd3 hce3 hk03 hk13 hk23 hk33 hk43 hn03 hn13))
              go_roundw
              case rel =>
                refine ⟨j + 1, done ++ Kit.nums (text.extract (rd_T31 ns (j : Int)).f0.toNat (rd_T31 ns (j : Int)).f1.toNat) ++ [58] ++ x1, r1, by omega, by go_num, ⟨by simpa using HR1.out⟩, ⟨?_⟩, ⟨?_⟩, HB9, HK9⟩
                · rw [← HD.out, HE1.out]
                  rw [HJT.out]
                  simp
                · simpa using HO9.out
              case measure => simp [intOf]; omega
          · have hpos : (0 : Int) < (j : Int) := by omega
            have hRL : rest.length = 1 + (Kit.nums (text.extract (rd_T31 ns (j : Int)).f0.toNat (rd_T31 ns (j : Int)).f1.toNat)).length + 1 + x1.length + r1.length := by
              have hj0 : (j == 0) = false := by rw [beq_eq_false_iff_ne]; omega
              rw [HE1.out, hj0]
              simp; omega
            have HRL := Aside0.mk hRL
            clear hRL
            have hbxr := box_blk HKr.out (fun k hk => (HO.out.lt k hk).2) (heap_alloc_new w _)
            have hcar := (blk_cell hbxr 0).trans (show _ = some (.int .i64 6) from rfl)
            have hcdr := (blk_cell hbxr 3).trans (show _ = some (.slice (some na) ns.length c3) from rfl)
            have hcer := (blk_cell hbxr 4).trans (show _ = some (.slice (some ad) ks.length c4) from rfl)
            clear hbxr
            have hk0r := pw_cell_below HBr.out HC0.out
            have hk1r := pw_cell_below HBr.out HC1.out
            have hk2r := pw_cell_below HBr.out HC2.out
            have hk3r := pw_cell_below HBr.out HC3.out
            have hk4r := pw_cell_below HBr.out HC4.out
            have hn0r := pw_cell_below HBr.out HN0.out
            have hn1r := pw_cell_below HBr.out HN1.out
            go_wp2_with (at_builtin; refine Kit.wpList_append_obg rfl (.tmp 41) (.tmp 42) 38 38 rfl Try.underlying38 hi5 hz5 hsz5 hby5 _ _ rfl (HOr.out.alloc _) (HBr.out.alloc HBr.out.size _).size _ [44] rfl (Kit.src_lit Try.underlying38 [44] (heap_alloc_new _ _) rfl) (by have := HF.out; have := HL.out; have := HRL.out; simp at *; omega) ?_; intro v1 w1 hob1 hgr1 hat1; have HB1 := Aside0.mk ((HBr.out.alloc HBr.out.size _).grown hgr1 (HBr.out.alloc HBr.out.size _).size (fun k hk => (HOr.out.lt k hk).1)); have HO1 := Aside0.mk hob1; have HK1 := Aside0.mk ((HKr.out.alloc _).grown hgr1 hat1); clear hob1 hgr1 hat1; clear hcar hcdr hcer hk0r hk1r hk2r hk3r hk4r hn0r hn1r; have hbx1 := box_blk HK1.out (fun k hk => (HO.out.lt k hk).2) (heap_alloc_new w _); have hca1 : w1.cell? ⟨w.heap.size, 0, none⟩ = some (.int .i64 6) := (blk_cell hbx1 0).trans rfl; have hcd1 : w1.cell? ⟨w.heap.size, 3, none⟩ = some (.slice (some na) ns.length c3) := (blk_cell hbx1 3).trans rfl; have hce1 : w1.cell? ⟨w.heap.size, 4, none⟩ = some (.slice (some ad) ks.length c4) := (blk_cell hbx1 4).trans rfl; clear hbx1; have hk01 := pw_cell_below HB1.out HC0.out; have hk11 := pw_cell_below HB1.out HC1.out; have hk21 := pw_cell_below HB1.out HC2.out; have hk31 := pw_cell_below HB1.out HC3.out; have hk41 := pw_cell_below HB1.out HC4.out; have hn01 := pw_cell_below HB1.out HN0.out; have hn11 := pw_cell_below HB1.out HN1.out)
            go_region_law (refine Kit.step_append_obg rfl (.tmp 47) (.tmp 61) 38 9 rfl Try.underlying38 hi5 hz5 hsz5 hby5 _ _ rfl (Kit.OB.drew HO1.out) HB1.out.drew.size _ (Kit.nums (text.extract (rd_T31 ns (j : Int)).f0.toNat (rd_T31 ns (j : Int)).f1.toNat)) rfl (Kit.src_str Try.underlying9 _ _) (by have := HF.out; have := HL.out; have := HRL.out; simp at *; omega) ?_; intro v2 w2 hob2 hgr2 hat2; have HB2 := Aside0.mk (HB1.out.drew.grown hgr2 HB1.out.drew.size (fun k hk => (HO1.out.lt k hk).1)); have HO2 := Aside0.mk hob2; have HK2 := Aside0.mk (HK1.out.drew.grown hgr2 hat2); clear hob2 hgr2 hat2; clear hca1 hcd1 hce1 hk01 hk11 hk21 hk31 hk41 hn01 hn11; have hbx2 := box_blk HK2.out (fun k hk => (HO.out.lt k hk).2) (heap_alloc_new w _); have hca2 : w2.cell? ⟨w.heap.size, 0, none⟩ = some (.int .i64 6) := (blk_cell hbx2 0).trans rfl; have hcd2 : w2.cell? ⟨w.heap.size, 3, none⟩ = some (.slice (some na) ns.length c3) := (blk_cell hbx2 3).trans rfl; have hce2 : w2.cell? ⟨w.heap.size, 4, none⟩ = some (.slice (some ad) ks.length c4) := (blk_cell hbx2 4).trans rfl; clear hbx2; have hk02 := pw_cell_below HB2.out HC0.out; have hk12 := pw_cell_below HB2.out HC1.out; have hk22 := pw_cell_below HB2.out HC2.out; have hk32 := pw_cell_below HB2.out HC3.out; have hk42 := pw_cell_below HB2.out HC4.out; have hn02 := pw_cell_below HB2.out HN0.out; have hn12 := pw_cell_below HB2.out HN1.out)
            all_goals
              go_wp2_with (first | (at_builtin; refine Kit.wpList_append_obg rfl (.tmp 63) (.tmp 64) 38 38 rfl Try.underlying38 hi5 hz5 hsz5 hby5 _ _ rfl (HO2.out.alloc _) (HB2.out.alloc HB2.out.size _).size _ [58] rfl (Kit.src_lit Try.underlying38 [58] (heap_alloc_new _ _) rfl) (by have := HF.out; have := HL.out; have := HRL.out; simp at *; omega) ?_; intro v3 w3 hob3 hgr3 hat3; have HB3 := Aside0.mk ((HB2.out.alloc HB2.out.size _).grown hgr3 (HB2.out.alloc HB2.out.size _).size (fun k hk => (HO2.out.lt k hk).1)); have HO3 := Aside0.mk hob3; have HK3 := Aside0.mk ((HK2.out.alloc _).grown hgr3 hat3); clear hob3 hgr3 hat3; clear hca2 hcd2 hce2 hk02 hk12 hk22 hk32 hk42 hn02 hn12; have hbx3 := box_blk HK3.out (fun k hk => (HO.out.lt k hk).2) (heap_alloc_new w _); have hca3 : w3.cell? ⟨w.heap.size, 0, none⟩ = some (.int .i64 6) := (blk_cell hbx3 0).trans rfl; have hcd3 : w3.cell? ⟨w.heap.size, 3, none⟩ = some (.slice (some na) ns.length c3) := (blk_cell hbx3 3).trans rfl; have hce3 : w3.cell? ⟨w.heap.size, 4, none⟩ = some (.slice (some ad) ks.length c4) := (blk_cell hbx3 4).trans rfl; clear hbx3; have hk03 := pw_cell_below HB3.out HC0.out; have hk13 := pw_cell_below HB3.out HC1.out; have hk23 := pw_cell_below HB3.out HC2.out; have hk33 := pw_cell_below HB3.out HC3.out; have hk43 := pw_cell_below HB3.out HC4.out; have hn03 := pw_cell_below HB3.out HN0.out; have hn13 := pw_cell_below HB3.out HN1.out) | (go_at_call 10; refine (IH.out (rd_T25 ks (j : Int)) HKD.out text _ x1 _ wB _ B3 d3 B4 d4 HB3.out HO3.out HG3.out HG4.out HX1.out (by have := HF.out; have := HL.out; have := HRL.out; simp at *; omega)).mono ?_; rintro e w9 ⟨v9, rfl, hob9, hb9, hkp9⟩; have HO9 := Aside0.mk hob9; have HB9 := Aside0.mk hb9; have HK9 := Aside0.mk (HK3.out.trans hkp9); clear hob9 hb9 hkp9; clear hca3 hcd3 hce3 hk03 hk13 hk23 hk33 hk43 hn03 hn13))
              go_roundw
              case rel =>
                refine ⟨j + 1, done ++ [44] ++ Kit.nums (text.extract (rd_T31 ns (j : Int)).f0.toNat (rd_T31 ns (j : Int)).f1.toNat) ++ [58] ++ x1, r1, by omega, by go_num, ⟨by simpa using HR1.out⟩, ⟨?_⟩, ⟨?_⟩, HB9, HK9⟩
                · rw [← HD.out, HE1.out]
                  have hj0 : (j == 0) = false := by rw [beq_eq_false_iff_ne]; omega
                  rw [hj0]
                  simp
                · simpa using HO9.out
              case measure => simp [intOf]; omega
        · have hdn := bares_end HR.out (by omega)
          have HDN := Aside0.mk hdn
          clear hdn
          go_wp2_with (at_builtin; refine Kit.wpList_append_obg rfl (.tmp 75) (.tmp 77) 38 38 rfl Try.underlying38 hi5 hz5 hsz5 hby5 _ _ rfl (HOr.out.alloc _) (HBr.out.alloc HBr.out.size _).size _ [125] rfl (Kit.src_lit Try.underlying38 [125] (heap_alloc_new _ _) rfl) (by have := HF.out; have := HL.out; simp; omega) ?_; intro v1 w1 hob1 hgr1 hat1; have HB1 := Aside0.mk ((HBr.out.alloc HBr.out.size _).grown hgr1 (HBr.out.alloc HBr.out.size _).size (fun k hk => (HOr.out.lt k hk).1)); have HO1 := Aside0.mk hob1; have HK1 := Aside0.mk ((HKr.out.alloc _).grown hgr1 hat1); clear hob1 hgr1 hat1)
          go_ret
          refine ⟨_, rfl, ?_, HB1.out, (Kit.Keeps.alloc (Kit.Keeps.refl w v) _).trans HK1.out⟩
          have hd := HD.out
          rw [HDN.out, List.append_nil] at hd
          rw [← hd]
          simpa using HO1.out
    · have h5 : kind = 5 := Classical.byContradiction fun e => hk ⟨e, h6⟩
      subst h5
      rw [if_neg hk] at hx
      obtain ⟨X, hX, hx⟩ := Option.bind_eq_some_iff.mp hx
      have hx' : x = 91 :: X ++ [93] := by
        simp at hx
        rw [← hx]
        rfl
      have HX := Lib.hid hX
      subst hx'
      clear hk hx hX h6
      have hF : out.length + X.length + 2 ≤ 140737488355327 := by
        have := HF.out
        simp at this
        omega
      replace HF := Aside0.mk hF
      clear hF
      go_enter Try.func10, Try.ntmps10
      go_wp2_with (at_builtin; refine Kit.wpList_append_obg rfl (.tmp 29) (.tmp 31) 38 38 rfl Try.underlying38 hi5 hz5 hsz5 hby5 _ _ rfl ((HO.out.alloc _).alloc _) ((HB.out.alloc HB.out.size _).alloc (HB.out.alloc HB.out.size _).size _).size _ [91] rfl (Kit.src_lit Try.underlying38 [91] (new_at _ _ _) rfl) (by have := HF.out; simp; omega) ?_; intro v1 w1 hob1 hgr1 hat1; have HB1 := Aside0.mk (((HB.out.alloc HB.out.size _).alloc (HB.out.alloc HB.out.size _).size _).grown hgr1 ((HB.out.alloc HB.out.size _).alloc (HB.out.alloc HB.out.size _).size _).size (fun k hk => (HO.out.lt k hk).1)); have HO1 := Aside0.mk hob1; have HK1 := Aside0.mk (((Kit.Keeps.refl (w.alloc (.cells #[.int .i64 5, .int .i64 b, .int .i64 e, .slice A3 ns.length c3, .slice A4 ks.length c4] 25)) v).alloc _).grown hgr1 hat1); clear hob1 hgr1 hat1; have hbx1 := box_blk HK1.out (fun k hk => (HO.out.lt k hk).2) (heap_alloc_new w _); have hca1 : w1.cell? ⟨w.heap.size, 0, none⟩ = some (.int .i64 5) := (blk_cell hbx1 0).trans rfl; have hcd1 : w1.cell? ⟨w.heap.size, 3, none⟩ = some (.slice A3 ns.length c3) := (blk_cell hbx1 3).trans rfl; have hce1 : w1.cell? ⟨w.heap.size, 4, none⟩ = some (.slice A4 ks.length c4) := (blk_cell hbx1 4).trans rfl; clear hbx1)
      clear hca1 hcd1 hce1
      go_loopw [0, 9, 36] (fun v' kv iv wr => ∃ (j : Nat) (done rest : List Int), j ≤ ks.length ∧ iv = .int .i64 j ∧ Aside0 (bares (Kit.nums text) false (ns.drop j) (ks.drop j) (j == 0) = some rest) ∧ Aside0 (done ++ rest = X) ∧ Aside0 (Kit.OB wB.heap.size wr v' (out ++ 91 :: done)) ∧ Aside0 (Below wB.heap.size wB wr) ∧ Aside0 (Kit.Keeps (w.alloc (.cells #[.int .i64 5, .int .i64 b, .int .i64 e, .slice A3 ns.length c3, .slice A4 ks.length c4] 25)) wr v v')) (fun _ _ iv _ => ks.length - (intOf iv).toNat)
      case atStart => exact ⟨0, [], X, Nat.zero_le _, rfl, ⟨HX.out⟩, ⟨rfl⟩, HO1, HB1, HK1⟩
      case round =>
        clear HO1 HB1 HK1 HX
        obtain ⟨j, done, rest, hj, rfl, HR, HD, HOr, HBr, HKr⟩ := hrel
        have HL := Aside0.mk (show done.length + rest.length = X.length by rw [← HD.out, List.length_append])
        have hmx : ks.length ≤ 9223372036854775807 := HR4.out.2.1
        by_cases hlt : j < ks.length
        · obtain ⟨x1, r1, hx1, hr1, he1⟩ := bares_arr HR.out hlt
          have HKD := Aside0.mk (kid_small HM.out hlt)
          obtain ⟨ad, B3, d3, B4, d4, eA, k0, k1, k2, k3, k4, l3, g3, l4, g4⟩ := at_T25 HR4.out (j : Int) (by omega) (by omega)
          subst eA
          simp only [Int.toNat_natCast] at k0 k1 k2 k3 k4
          have HC0 := Aside0.mk k0
          have HC1 := Aside0.mk k1
          have HC2 := Aside0.mk k2
          have HC3 := Aside0.mk k3
          have HC4 := Aside0.mk k4
          have HG3 := Aside0.mk g3
          have HG4 := Aside0.mk g4
          have HX1 := Aside0.mk hx1
          have HR1 := Aside0.mk hr1
          have HE1 := Aside0.mk he1
          clear k0 k1 k2 k3 k4 g3 g4 hx1 hr1 he1
          by_cases hj0 : j = 0
          · have hneg : ¬ ((0 : Int) < (j : Int)) := by omega
            have hjt : (j == 0) = true := by rw [beq_iff_eq]; exact hj0
            have HJT := Aside0.mk hjt
            clear hjt hj0
            have hRL : rest.length = x1.length + r1.length := by
              rw [HE1.out, HJT.out]
              simp
            have HRL := Aside0.mk hRL
            clear hRL
            have hbxr := box_blk HKr.out (fun k hk => (HO.out.lt k hk).2) (heap_alloc_new w _)
            have hcar := (blk_cell hbxr 0).trans (show _ = some (.int .i64 5) from rfl)
            have hcdr := (blk_cell hbxr 3).trans (show _ = some (.slice A3 ns.length c3) from rfl)
            have hcer := (blk_cell hbxr 4).trans (show _ = some (.slice (some ad) ks.length c4) from rfl)
            clear hbxr
            have hk0r := pw_cell_below HBr.out HC0.out
            have hk1r := pw_cell_below HBr.out HC1.out
            have hk2r := pw_cell_below HBr.out HC2.out
            have hk3r := pw_cell_below HBr.out HC3.out
            have hk4r := pw_cell_below HBr.out HC4.out
            go_wp2_with ((go_at_call 10; refine (IH.out (rd_T25 ks (j : Int)) HKD.out text _ x1 _ wB _ B3 d3 B4 d4 HBr.out HOr.out HG3.out HG4.out HX1.out (by have := HF.out; have := HL.out; have := HRL.out; simp at *; omega)).mono ?_; rintro e w9 ⟨v9, rfl, hob9, hb9, hkp9⟩; have HO9 := Aside0.mk hob9; have HB9 := Aside0.mk hb9; have HK9 := Aside0.mk (HKr.out.trans hkp9); clear hob9 hb9 hkp9; clear hcar hcdr hcer hk0r hk1r hk2r hk3r hk4r))
            go_roundw
            case rel =>
              refine ⟨j + 1, done ++ x1, r1, by omega, by go_num, ⟨by simpa using HR1.out⟩, ⟨?_⟩, ⟨?_⟩, HB9, HK9⟩
              · rw [← HD.out, HE1.out]
                rw [HJT.out]
                simp
              · simpa using HO9.out
            case measure => simp [intOf]; omega
          · have hpos : (0 : Int) < (j : Int) := by omega
            have hRL : rest.length = 1 + x1.length + r1.length := by
              have hj0 : (j == 0) = false := by rw [beq_eq_false_iff_ne]; omega
              rw [HE1.out, hj0]
              simp; omega
            have HRL := Aside0.mk hRL
            clear hRL
            have hbxr := box_blk HKr.out (fun k hk => (HO.out.lt k hk).2) (heap_alloc_new w _)
            have hcar := (blk_cell hbxr 0).trans (show _ = some (.int .i64 5) from rfl)
            have hcdr := (blk_cell hbxr 3).trans (show _ = some (.slice A3 ns.length c3) from rfl)
            have hcer := (blk_cell hbxr 4).trans (show _ = some (.slice (some ad) ks.length c4) from rfl)
            clear hbxr
            have hk0r := pw_cell_below HBr.out HC0.out
            have hk1r := pw_cell_below HBr.out HC1.out
            have hk2r := pw_cell_below HBr.out HC2.out
            have hk3r := pw_cell_below HBr.out HC3.out
            have hk4r := pw_cell_below HBr.out HC4.out
            go_wp2_with (first | (at_builtin; refine Kit.wpList_append_obg rfl (.tmp 41) (.tmp 42) 38 38 rfl Try.underlying38 hi5 hz5 hsz5 hby5 _ _ rfl (HOr.out.alloc _) (HBr.out.alloc HBr.out.size _).size _ [44] rfl (Kit.src_lit Try.underlying38 [44] (heap_alloc_new _ _) rfl) (by have := HF.out; have := HL.out; have := HRL.out; simp at *; omega) ?_; intro v1 w1 hob1 hgr1 hat1; have HB1 := Aside0.mk ((HBr.out.alloc HBr.out.size _).grown hgr1 (HBr.out.alloc HBr.out.size _).size (fun k hk => (HOr.out.lt k hk).1)); have HO1 := Aside0.mk hob1; have HK1 := Aside0.mk ((HKr.out.alloc _).grown hgr1 hat1); clear hob1 hgr1 hat1; clear hcar hcdr hcer hk0r hk1r hk2r hk3r hk4r; have hbx1 := box_blk HK1.out (fun k hk => (HO.out.lt k hk).2) (heap_alloc_new w _); have hca1 : w1.cell? ⟨w.heap.size, 0, none⟩ = some (.int .i64 5) := (blk_cell hbx1 0).trans rfl; have hcd1 : w1.cell? ⟨w.heap.size, 3, none⟩ = some (.slice A3 ns.length c3) := (blk_cell hbx1 3).trans rfl; have hce1 : w1.cell? ⟨w.heap.size, 4, none⟩ = some (.slice (some ad) ks.length c4) := (blk_cell hbx1 4).trans rfl; clear hbx1; have hk01 := pw_cell_below HB1.out HC0.out; have hk11 := pw_cell_below HB1.out HC1.out; have hk21 := pw_cell_below HB1.out HC2.out; have hk31 := pw_cell_below HB1.out HC3.out; have hk41 := pw_cell_below HB1.out HC4.out) | (go_at_call 10; refine (IH.out (rd_T25 ks (j : Int)) HKD.out text _ x1 _ wB _ B3 d3 B4 d4 HB1.out HO1.out HG3.out HG4.out HX1.out (by have := HF.out; have := HL.out; have := HRL.out; simp at *; omega)).mono ?_; rintro e w9 ⟨v9, rfl, hob9, hb9, hkp9⟩; have HO9 := Aside0.mk hob9; have HB9 := Aside0.mk hb9; have HK9 := Aside0.mk (HK1.out.trans hkp9); clear hob9 hb9 hkp9; clear hca1 hcd1 hce1 hk01 hk11 hk21 hk31 hk41))
            go_roundw
            case rel =>
              refine ⟨j + 1, done ++ [44] ++ x1, r1, by omega, by go_num, ⟨by simpa using HR1.out⟩, ⟨?_⟩, ⟨?_⟩, HB9, HK9⟩
              · rw [← HD.out, HE1.out]
                have hj0 : (j == 0) = false := by rw [beq_eq_false_iff_ne]; omega
                rw [hj0]
                simp
              · simpa using HO9.out
            case measure => simp [intOf]; omega
        · have hdn := bares_end HR.out (by omega)
          have HDN := Aside0.mk hdn
          clear hdn
          go_wp2_with (at_builtin; refine Kit.wpList_append_obg rfl (.tmp 75) (.tmp 77) 38 38 rfl Try.underlying38 hi5 hz5 hsz5 hby5 _ _ rfl (HOr.out.alloc _) (HBr.out.alloc HBr.out.size _).size _ [93] rfl (Kit.src_lit Try.underlying38 [93] (heap_alloc_new _ _) rfl) (by have := HF.out; have := HL.out; simp; omega) ?_; intro v1 w1 hob1 hgr1 hat1; have HB1 := Aside0.mk ((HBr.out.alloc HBr.out.size _).grown hgr1 (HBr.out.alloc HBr.out.size _).size (fun k hk => (HOr.out.lt k hk).1)); have HO1 := Aside0.mk hob1; have HK1 := Aside0.mk ((HKr.out.alloc _).grown hgr1 hat1); clear hob1 hgr1 hat1)
          go_ret
          refine ⟨_, rfl, ?_, HB1.out, (Kit.Keeps.alloc (Kit.Keeps.refl w v) _).trans HK1.out⟩
          have hd := HD.out
          rw [HDN.out, List.append_nil] at hd
          rw [← hd]
          simpa using HO1.out

def spec_Bare.f (a0 : ByteArray) (a1_0 a1_1 a1_2 : Int) (l1_3 : List S31) (l1_4 : List S25) : Option ByteArray :=
  (bare (Kit.nums a0) ⟨a1_0, a1_1, a1_2, l1_3, l1_4⟩).bind fun x => if x.length ≤ 140737488355327 then some (strOfNums x) else none
set_option maxHeartbeats 4000000 in
theorem spec_Bare.calls (a0 : ByteArray) (a1_0 : Int) (a1_1 : Int) (a1_2 : Int) (A1_3 : Option Addr) (c1_3 : Nat) (l1_3 : List S31) (A1_4 : Option Addr) (c1_4 : Nat) (l1_4 : List S25) (r : ByteArray) (w : World)
    (hr1_3 : Kd.C k31 w A1_3 l1_3.length l1_3) (hc1_3 : l1_3.length ≤ c1_3) (hr1_4 : Kd.C k25 w A1_4 l1_4.length l1_4) (hc1_4 : l1_4.length ≤ c1_4) (h : spec_Bare.f a0 a1_0 a1_1 a1_2 l1_3 l1_4 = some r) :
    Calls Try.prog 5 #[.string a0, .agg #[.int .i64 a1_0, .int .i64 a1_1, .int .i64 a1_2, .slice A1_3 l1_3.length c1_3, .slice A1_4 l1_4.length c1_4]] w fun e w' => e = .returned (.string r) ∧ Below w.heap.size w w' := by
  unfold spec_Bare.f at h
  obtain ⟨x, hx, h⟩ := Option.bind_eq_some_iff.mp h
  split at h
  · rename_i hl
    injection h with h
    subst h
    have hu1 := Try.underlying25
    have HX := Lib.hid hx
    have HL := Lib.hid hl
    have HR3 := Aside0.mk hr1_3
    have HR4 := Aside0.mk hr1_4
    clear hx hl hr1_3 hr1_4
    go_enter Try.func5, Try.ntmps5
    go_wp2_with (go_at_call 10; refine (bareTo_walk _ ⟨a1_0, a1_1, a1_2, l1_3, l1_4⟩ (Nat.lt_succ_self _) a0 [] x _ w _ A1_3 c1_3 A1_4 c1_4 (below_alloc (Below.refl _ _) _) (Kit.OB.nil _ _) HR3.out HR4.out HX.out (by have := HL.out; simp; omega)).mono ?_; rintro e w1 ⟨v1, rfl, hob, hb, _⟩; rw [List.nil_append] at hob; have hcv := hob.str (P := Try.prog) (src := 38) (dst := 9) Try.underlying38 Try.underlying5 Try.underlying9 (by have := HL.out; omega); clear hob)
    go_ret
    exact ⟨rfl, hb⟩
  · cases h

/-! ### spec_All: function 6 -/
mutual
def spec_All.l0 : Nat → List (S25) → List (S25) → Int → Int → Option ((List (S25)))
  | 0, _, _, _, _ => none
  | k + 1, x3, x9, x10, x11 => if x11 < x10 then (if 0 ≤ x11 then (if x11 < (x9.length : Int) then ((spec_All.f k ((rd_T25 x9 x11).f0) ((rd_T25 x9 x11).f1) ((rd_T25 x9 x11).f2) ((rd_T25 x9 x11).f3) ((rd_T25 x9 x11).f4)).bind fun t271 => (if x3.length + t271.length < 1954687338268 then (spec_All.l0 k (x3 ++ t271) x9 x10 (wrap64 (x11 + 1))) else (none))) else (none)) else (none)) else (some x3)
def spec_All.f : Nat → Int → Int → Int → List (S31) → List (S25) → Option ((List (S25)))
  | 0, _, _, _, _, _ => none
  | k + 1, a0_0, a0_1, a0_2, l0_3, l0_4 => spec_All.l0 k (([(⟨a0_0, a0_1, a0_2, l0_3, l0_4⟩ : S25)] : List (S25))) l0_4 (l0_4.length : Int) 0
end
theorem spec_All.mono_l : ∀ k, (∀ y0 y1 y2 y3 y4, LeO (spec_All.f k y0 y1 y2 y3 y4) (spec_All.f (k + 1) y0 y1 y2 y3 y4)) ∧ (∀ y0 y1 y2 y3, LeO (spec_All.l0 k y0 y1 y2 y3) (spec_All.l0 (k + 1) y0 y1 y2 y3))
  | 0 => ⟨fun _ _ _ _ _ r h => by simp [spec_All.f] at h, fun _ _ _ _ r h => by simp [spec_All.l0] at h⟩
  | k + 1 => by
    obtain ⟨ih0, ih1⟩ := spec_All.mono_l k
    refine ⟨?_, ?_⟩
    · intro y0 y1 y2 y3 y4
      unfold spec_All.f
      repeat' first
      | (with_reducible exact ih0 _ _ _ _ _)
      | (with_reducible exact ih1 _ _ _ _)
      | (with_reducible exact LeO.refl _)
      | (with_reducible exact LeO.none _)
      | (with_reducible refine LeO.ite ?_ ?_)
      | (with_reducible refine LeO.bind ?_ (fun _ => ?_))
      | exact ih0 _ _ _ _ _
      | exact ih1 _ _ _ _
      | exact LeO.none _
      | refine LeO.ite ?_ ?_
      | refine LeO.bind ?_ (fun _ => ?_)
    · intro y0 y1 y2 y3
      unfold spec_All.l0
      repeat' first
      | (with_reducible exact ih0 _ _ _ _ _)
      | (with_reducible exact ih1 _ _ _ _)
      | (with_reducible exact LeO.refl _)
      | (with_reducible exact LeO.none _)
      | (with_reducible refine LeO.ite ?_ ?_)
      | (with_reducible refine LeO.bind ?_ (fun _ => ?_))
      | exact ih0 _ _ _ _ _
      | exact ih1 _ _ _ _
      | exact LeO.none _
      | refine LeO.ite ?_ ?_
      | refine LeO.bind ?_ (fun _ => ?_)
theorem spec_All.mono : ∀ a0 a1 a2 a3 a4 k, LeO (spec_All.f k a0 a1 a2 a3 a4) (spec_All.f (k + 1) a0 a1 a2 a3 a4) := by
  intro a0 a1 a2 a3 a4 k
  obtain ⟨ih0, ih1⟩ := spec_All.mono_l k
  exact ih0 a0 a1 a2 a3 a4
set_option maxHeartbeats 8000000 in
set_option maxRecDepth 100000 in
theorem spec_All.calls (k : Nat) : ∀ (a0_0 : Int) (a0_1 : Int) (a0_2 : Int) (P0_3_ : Nat → Prop) (A0_3 : Option Addr) (c0_3 : Nat) (l0_3 : List (S31)) (P0_4_ : Nat → Prop) (A0_4 : Option Addr) (c0_4 : Nat) (l0_4 : List (S25)) (r : List (S25)) (w : World) (hs0_3 : Kd.V k31 31 w w.heap.size (fun k_ => P0_3_ k_) (.slice A0_3 l0_3.length c0_3) l0_3) (hs0_4 : Kd.V k25 25 w w.heap.size (fun k_ => P0_4_ k_) (.slice A0_4 l0_4.length c0_4) l0_4) (h : spec_All.f k a0_0 a0_1 a0_2 l0_3 l0_4 = some r),
    Calls Try.prog 6 #[.agg #[.int .i64 a0_0, .int .i64 a0_1, .int .i64 a0_2, .slice A0_3 l0_3.length c0_3, .slice A0_4 l0_4.length c0_4]] w fun e w' => ∃ v0_ : Value, e = .returned (v0_) ∧ Kd.N k25 25 w' w.heap.size (fun k_ => ((P0_3_ k_ ∨ P0_4_ k_) ∨ w.heap.size ≤ k_)) v0_ r ∧ Below w.heap.size w w' := by
  induction k using Nat.strongRecOn with
  | _ k ih =>
  intro a0_0 a0_1 a0_2 P0_3_ A0_3 c0_3 l0_3 P0_4_ A0_4 c0_4 l0_4 r w hs0_3 hs0_4 h
  cases k with
  | zero => exact absurd h (by simp [spec_All.f])
  | succ k =>
  simp only [spec_All.f] at h
  have hu25 := Try.underlying25
  have HO0_3 := Aside0.mk (show Kd.V k31 31 w w.heap.size (fun k_ => ((P0_3_ k_ ∨ P0_4_ k_) ∨ w.heap.size ≤ k_)) (.slice A0_3 l0_3.length c0_3) l0_3 from Kd.V_mono hs0_3 (fun k_ hk => .inl (.inl hk)))
  have HO0_4 := Aside0.mk (show Kd.V k25 25 w w.heap.size (fun k_ => ((P0_3_ k_ ∨ P0_4_ k_) ∨ w.heap.size ≤ k_)) (.slice A0_4 l0_4.length c0_4) l0_4 from Kd.V_mono hs0_4 (fun k_ hk => .inl (.inr hk)))
  have HB := Aside0.mk (Below.refl w.heap.size w)
  have H : (spec_All.l0 k (([(⟨a0_0, a0_1, a0_2, l0_3, l0_4⟩ : S25)] : List (S25))) l0_4 (l0_4.length : Int) 0) = some r := h
  clear h
  obtain ⟨y266, hy266⟩ : ∃ y_ : List (S25), y_ = (([(⟨a0_0, a0_1, a0_2, l0_3, l0_4⟩ : S25)] : List (S25))) := ⟨_, rfl⟩
  replace H : (spec_All.l0 k y266 l0_4 (l0_4.length : Int) 0) = some r := by first | (rw [hy266]; with_reducible exact H) | (have H2_ := (Option.bind_some _ _).symm.trans H; rw [hy266]; with_reducible exact H2_) | (have H2_ := (Option.bind_some _ _).symm.trans H; with_reducible exact H2_) | with_reducible exact H | (rw [hy266]; exact H) | exact H
  have Ny266 := Aside0.mk hy266
  clear hy266
  have H' := Aside0.mk H
  clear H
  go_enter Try.func6, Try.ntmps6
  go_wp2_with (first | ((with_reducible refine gate_dst (N := 1) rfl ?_); refine box_event ?hg (N := 1) ?hd (cs := #[.int .i64 a0_0, .int .i64 a0_1, .int .i64 a0_2, .slice A0_3 l0_3.length c0_3, .slice A0_4 l0_4.length c0_4]) (t := 25) ?hr ?_; (case hd => rfl); (case hg => rfl); (case hr => first | (go_simp; done) | (go_simp; rfl)); intro gb265 hg w2 hbox hb; have n0_ := Aside0.mk (Kd.V_below (Kd.V_elderB (by (with_reducible repeat (first | apply Kd.V_alloc | apply Kd.V_drewN | apply Kd.V_drew)); exact HO0_3.out) gb265 (Nat.le_of_eq hg.symm)) hb); have n1_ := Aside0.mk (Kd.V_below (Kd.V_elderB (by (with_reducible repeat (first | apply Kd.V_alloc | apply Kd.V_drewN | apply Kd.V_drew)); exact HO0_4.out) gb265 (Nat.le_of_eq hg.symm)) hb); have n2_ := Aside0.mk (below_step (by repeat (first | (with_reducible first | exact HB.out | apply below_alloc | apply pw_below_drewN | apply below_drew1) | exact HB.out)) hb); have n3_ := Aside0.mk (hbox); have n4_ := Aside0.mk ((by rw [hg]; exact (below_size (by repeat (first | (with_reducible first | exact HB.out | apply below_alloc | apply pw_below_drewN | apply below_drew1) | exact HB.out))) : w.heap.size ≤ gb265)); have n5_ := Aside0.mk ((by rw [hg]; exact (below_size (by repeat (first | (with_reducible first | exact HB.out | apply below_alloc | apply pw_below_drewN | apply below_drew1) | exact HB.out))) : w.heap.size ≤ gb265)); clear HO0_3; clear HO0_4; clear HB; have HO0_3 := n0_; have HO0_4 := n1_; have HB := n2_; have BK265 := n3_; have GW265 := n4_; have GE265 := n5_; clear n0_ n1_ n2_ n3_ n4_ n5_; clear hb hbox hg; have hcz3_0 : w2.cell? ⟨gb265, 0, none⟩ = some (.int .i64 a0_0) := (blk_cell BK265.out 0).trans rfl; have hcz3_1 : w2.cell? ⟨gb265, 1, none⟩ = some (.int .i64 a0_1) := (blk_cell BK265.out 1).trans rfl; have hcz3_2 : w2.cell? ⟨gb265, 2, none⟩ = some (.int .i64 a0_2) := (blk_cell BK265.out 2).trans rfl; have hcz3_3 : w2.cell? ⟨gb265, 3, none⟩ = some (.slice A0_3 l0_3.length c0_3) := (blk_cell BK265.out 3).trans rfl; have hcz3_4 : w2.cell? ⟨gb265, 4, none⟩ = some (.slice A0_4 l0_4.length c0_4) := (blk_cell BK265.out 4).trans rfl; have hfz3_0 := blk_frozen BK265.out 0; have hfz3_1 := blk_frozen BK265.out 1; have hfz3_2 := blk_frozen BK265.out 2; have hfz3_3 := blk_frozen BK265.out 3; have hfz3_4 := blk_frozen BK265.out 4) | ((with_reducible refine gate_dst (N := 7) rfl ?_); refine Kd.N_lit k25 _ 25 ?hg (N' := 7) ?hd (xs := ([(⟨a0_0, a0_1, a0_2, l0_3, l0_4⟩ : S25)] : List (S25))) (inner := [.int .i64 a0_0, .int .i64 a0_1, .int .i64 a0_2, .slice A0_3 l0_3.length c0_3, .slice A0_4 l0_4.length c0_4]) (ok := (fun k_ => ((P0_3_ k_ ∨ P0_4_ k_) ∨ w.heap.size ≤ k_) ∧ k_ ≠ gb265)) (okp := (fun k_ => ((P0_3_ k_ ∨ P0_4_ k_) ∨ w.heap.size ≤ k_) ∧ k_ ≠ gb265)) ?hr ?hp (fun _ hk => hk) ((show ∀ k_, w2.heap.size ≤ k_ → (fun k_ => ((P0_3_ k_ ∨ P0_4_ k_) ∨ w.heap.size ≤ k_) ∧ k_ ≠ gb265) k_ from fun k_ hk => ⟨(.inr (Nat.le_trans (below_size (by repeat (first | (with_reducible first | exact HB.out | apply below_alloc | apply pw_below_drewN | apply below_drew1 | refine below_set ?_ GE265.out) | exact HB.out))) hk)), Kd.freshB (g := gb265) (o := .cells #[.int .i64 a0_0, .int .i64 a0_1, .int .i64 a0_2, .slice A0_3 l0_3.length c0_3, .slice A0_4 l0_4.length c0_4] 25 (0, 0)) (by (with_reducible repeat (first | refine blk_drewN ?_ _ | refine blk_drew ?_ | refine blk_alloc ?_ _)); exact BK265.out) k_ hk⟩) _ (Nat.le_refl _)) (Below.refl _ _) (Nat.le_refl _) (by simp) ?_; (case hd => rfl); (case hg => rfl); (case hr => first | (go_simp; done) | (go_simp; rfl)); (case hp => exact (Reps.c5 (show Kd.FK k25 _ _ (⟨a0_0, a0_1, a0_2, l0_3, l0_4⟩ : S25) [.int .i64 a0_0, .int .i64 a0_1, .int .i64 a0_2, .slice A0_3 l0_3.length c0_3, .slice A0_4 l0_4.length c0_4] from (k25_mkF _ _ (⟨a0_0, a0_1, a0_2, l0_3, l0_4⟩ : S25) (Kd.V_reads' (Kd.V_mono (ok' := (fun k_ => ((P0_3_ k_ ∨ P0_4_ k_) ∨ w.heap.size ≤ k_) ∧ k_ ≠ gb265)) (HO0_3.out) (fun k_ hk => ⟨hk.1, hk.2⟩))).2.1 (Kd.V_F (Kd.V_mono (ok' := (fun k_ => ((P0_3_ k_ ∨ P0_4_ k_) ∨ w.heap.size ≤ k_) ∧ k_ ≠ gb265)) (HO0_3.out) (fun k_ hk => ⟨hk.1, hk.2⟩))) (Kd.V_reads' (Kd.V_mono (ok' := (fun k_ => ((P0_3_ k_ ∨ P0_4_ k_) ∨ w.heap.size ≤ k_) ∧ k_ ≠ gb265)) (HO0_4.out) (fun k_ hk => ⟨hk.1, hk.2⟩))).2.1 (Kd.V_F (Kd.V_mono (ok' := (fun k_ => ((P0_3_ k_ ∨ P0_4_ k_) ∨ w.heap.size ≤ k_) ∧ k_ ≠ gb265)) (HO0_4.out) (fun k_ hk => ⟨hk.1, hk.2⟩))))) (Reps.none _ _))); intro v267 w4 ho5 hb hg_ hnew_; clear hg_ hnew_; (first | rw [← Ny266.out] at ho5 | (simp only [Int.reduceToNat] at ho5; rw [← Ny266.out] at ho5)); have n0_ := Aside0.mk (Kd.V_elder' (by (with_reducible repeat (first | apply Kd.V_alloc | apply Kd.V_drewN | apply Kd.V_drew)); exact HO0_3.out) (Kd.N_base ho5) hb); have n1_ := Aside0.mk (Kd.V_elder' (by (with_reducible repeat (first | apply Kd.V_alloc | apply Kd.V_drewN | apply Kd.V_drew)); exact HO0_4.out) (Kd.N_base ho5) hb); have n2_ := Aside0.mk (Kd.N_lower ho5 (below_size (by repeat (first | (with_reducible first | exact HB.out | apply below_alloc | apply pw_below_drewN | apply below_drew1 | refine below_set ?_ GE265.out) | exact HB.out)))); have n3_ := Aside0.mk (blk_below (g := gb265) (o := .cells #[.int .i64 a0_0, .int .i64 a0_1, .int .i64 a0_2, .slice A0_3 l0_3.length c0_3, .slice A0_4 l0_4.length c0_4] 25 (0, 0)) (by (with_reducible repeat (first | refine blk_drewN ?_ _ | refine blk_drew ?_ | refine blk_alloc ?_ _)); exact BK265.out) hb); have n4_ := Aside0.mk (below_step (by repeat (first | (with_reducible first | exact HB.out | apply below_alloc | apply pw_below_drewN | apply below_drew1 | refine below_set ?_ GE265.out) | exact HB.out)) hb); clear HO0_3; clear HO0_4; clear BK265; clear HB; have HO0_3 := n0_; have HO0_4 := n1_; have HO268 := n2_; have BK265 := n3_; have HB := n4_; clear n0_ n1_ n2_ n3_ n4_; clear hb ho5; have hcz6_0 : w4.cell? ⟨gb265, 0, none⟩ = some (.int .i64 a0_0) := (blk_cell BK265.out 0).trans rfl; have hcz6_1 : w4.cell? ⟨gb265, 1, none⟩ = some (.int .i64 a0_1) := (blk_cell BK265.out 1).trans rfl; have hcz6_2 : w4.cell? ⟨gb265, 2, none⟩ = some (.int .i64 a0_2) := (blk_cell BK265.out 2).trans rfl; have hcz6_3 : w4.cell? ⟨gb265, 3, none⟩ = some (.slice A0_3 l0_3.length c0_3) := (blk_cell BK265.out 3).trans rfl; have hcz6_4 : w4.cell? ⟨gb265, 4, none⟩ = some (.slice A0_4 l0_4.length c0_4) := (blk_cell BK265.out 4).trans rfl; have hfz6_0 := blk_frozen BK265.out 0; have hfz6_1 := blk_frozen BK265.out 1; have hfz6_2 := blk_frozen BK265.out 2; have hfz6_3 := blk_frozen BK265.out 3; have hfz6_4 := blk_frozen BK265.out 4))
  (try simp only [Act.put, List.setIfInBounds_toArray, List.set_cons_succ, List.set_cons_zero])
  go_loopg [3, 11] k (fun kq v3 v11 w' => ∃ (x3_1 : List (S25)) (x11_1 : Int), v11 = .int .i64 x11_1 ∧ Aside0 (spec_All.l0 kq x3_1 l0_4 (l0_4.length : Int) x11_1 = some r) ∧ Aside0 (kq ≤ k) ∧ Aside0 (Kd.N k25 25 w' w.heap.size (fun k_ => ((P0_3_ k_ ∨ P0_4_ k_) ∨ w.heap.size ≤ k_) ∧ k_ ≠ gb265) v3 x3_1) ∧ Aside0 (Kd.V k25 25 w' w.heap.size (fun k_ => ((P0_3_ k_ ∨ P0_4_ k_) ∨ w.heap.size ≤ k_) ∧ some k_ ≠ (v3 : Value).ownBlock ∧ k_ ≠ gb265) (.slice A0_4 l0_4.length c0_4) l0_4) ∧ Aside0 (Kd.V k31 31 w' w.heap.size (fun k_ => ((P0_3_ k_ ∨ P0_4_ k_) ∨ w.heap.size ≤ k_) ∧ some k_ ≠ (v3 : Value).ownBlock ∧ k_ ≠ gb265) (.slice A0_3 l0_3.length c0_3) l0_3) ∧ Aside0 (Kd.V k25 25 w' w.heap.size (fun k_ => ((P0_3_ k_ ∨ P0_4_ k_) ∨ w.heap.size ≤ k_) ∧ some k_ ≠ (v3 : Value).ownBlock ∧ k_ ≠ gb265) (.slice A0_4 l0_4.length c0_4) l0_4) ∧ Aside0 (w'.heap[gb265]? = some (.cells #[.int .i64 a0_0, .int .i64 a0_1, .int .i64 a0_2, (.slice A0_3 l0_3.length c0_3), (.slice A0_4 l0_4.length c0_4)] 25 (0, 0))) ∧ Aside0 (Below w.heap.size w w'))
  case atStart => exact ⟨(y266), (0), (by first | rfl | (simp; done) | (simp [*]; done)), H', ⟨Nat.le_refl _⟩, ⟨by (with_reducible repeat (first | apply Kd.N_alloc | apply Kd.N_drewN | apply Kd.N_drew)); exact HO268.out⟩, ⟨by (with_reducible repeat (first | apply Kd.V_alloc | apply Kd.V_drewN | apply Kd.V_drew)); exact Kd.V_mono HO0_4.out (fun _ hk => ⟨hk.1.1, ⟨hk.2, hk.1.2⟩⟩)⟩, ⟨by (with_reducible repeat (first | apply Kd.V_alloc | apply Kd.V_drewN | apply Kd.V_drew)); exact Kd.V_mono HO0_3.out (fun _ hk => ⟨hk.1.1, ⟨hk.2, hk.1.2⟩⟩)⟩, ⟨by (with_reducible repeat (first | apply Kd.V_alloc | apply Kd.V_drewN | apply Kd.V_drew)); exact Kd.V_mono HO0_4.out (fun _ hk => ⟨hk.1.1, ⟨hk.2, hk.1.2⟩⟩)⟩, ⟨by (with_reducible repeat (first | refine blk_drewN ?_ _ | refine blk_drew ?_ | refine blk_alloc ?_ _)); exact BK265.out⟩, ⟨by repeat (first | (with_reducible first | exact HB.out | apply below_alloc | apply pw_below_drewN | apply below_drew1 | refine below_set ?_ GE265.out) | exact HB.out)⟩⟩
  case round =>
    clear H'
    try clear p2
    try clear c5
    try clear c6
    try clear hcz3_0
    try clear hcz3_1
    try clear hcz3_2
    try clear hcz3_3
    try clear hcz3_4
    try clear hcz6_0
    try clear hcz6_1
    try clear hcz6_2
    try clear hcz6_3
    try clear hcz6_4
    try clear hfz3_0
    try clear hfz3_1
    try clear hfz3_2
    try clear hfz3_3
    try clear hfz3_4
    try clear hfz6_0
    try clear hfz6_1
    try clear hfz6_2
    try clear hfz6_3
    try clear hfz6_4
    obtain ⟨x3_1, x11_1, rfl, HA, HK1, HO_3, HO_9, HO_266003, HO_266004, BK265, HB⟩ := hrel
    cases gk with
    | zero => exact absurd HA.out (by simp [spec_All.l0])
    | succ k1 =>
      have H := HA.out
      clear HA
      simp only [spec_All.l0] at H
      by_cases c7 : x11_1 < (l0_4.length : Int)
      · rw [if_pos c7] at H
        have c7b0 : decide (x11_1 < (l0_4.length : Int)) = true := decide_eq_true c7
        clear c7
        by_cases c8 : 0 ≤ x11_1
        · rw [if_pos c8] at H
          have c8b0 : decide (0 ≤ x11_1) = true := decide_eq_true c8
          clear c8
          by_cases c9 : x11_1 < (l0_4.length : Int)
          · rw [if_pos c9] at H
            have c9b0 : decide (x11_1 < (l0_4.length : Int)) = true := decide_eq_true c9
            clear c9
            replace H := Option.bind_eq_some_iff.mp H
            obtain ⟨t271, A100, H⟩ := H
            replace H : (if x3_1.length + t271.length < 1954687338268 then (spec_All.l0 k1 (x3_1 ++ t271) l0_4 (l0_4.length : Int) (wrap64 (x11_1 + 1))) else (none)) = some r := H
            have A10 := Aside0.mk A100
            clear A100
            by_cases c11 : x3_1.length + t271.length < 1954687338268
            · rw [if_pos c11] at H
              have LMc11 := Aside0.mk c11
              clear c11
              obtain ⟨y274, hy274⟩ : ∃ y_ : List (S25), y_ = (x3_1 ++ t271) := ⟨_, rfl⟩
              replace H : (spec_All.l0 k1 y274 l0_4 (l0_4.length : Int) (wrap64 (x11_1 + 1))) = some r := by first | (rw [hy274]; with_reducible exact H) | (have H2_ := (Option.bind_some _ _).symm.trans H; rw [hy274]; with_reducible exact H2_) | (have H2_ := (Option.bind_some _ _).symm.trans H; with_reducible exact H2_) | with_reducible exact H | (rw [hy274]; exact H) | exact H
              have Ny274 := Aside0.mk hy274
              clear hy274
              have H' := Aside0.mk H
              clear H
              have p269 : 0 ≤ (x11_1 : Int) := of_decide_eq_true (by first | (with_reducible assumption) | assumption)
              have q269 : x11_1 < (l0_4.length : Int) := of_decide_eq_true (by first | (with_reducible assumption) | assumption)
              obtain ⟨ad269, A269_3, c269_3, A269_4, c269_4, e269, hx269_0, hx269_1, hx269_2, hx269_3, hx269_4, hl269_3, hi269_3, hl269_4, hi269_4⟩ := at_T25 (Kd.V_reads' HO_9.out).2.2 x11_1 p269 q269
              cases e269
              obtain ⟨ce269, hce269, hMe269, hcc269⟩ := Kd.V_get HO_9.out z25 x11_1 p269 (by first | exact q269 | exact of_decide_eq_true (by first | (with_reducible assumption) | assumption) | (have e_ := (Kd.V_reads' HO_9.out).1; omega))
              obtain ⟨ua269_3, uc269_3, ua269_4, uc269_4, rfl, ul269_3, ge269_3, ul269_4, ge269_4⟩ := k25_openF hMe269
              have hv269_3 := hcc269 3 _ rfl
              rw [add_field _ _ 3 (by omega)] at hv269_3
              replace hv269_3 := Option.some.inj (hv269_3.symm.trans hx269_3)
              injection hv269_3 with hva_ hvn_ hvc_
              rw [hva_] at ge269_3
              rw [hvc_] at ul269_3
              have HL269_3 := Aside0.mk (show Kd.V k31 31 _ w.heap.size _ _ ((rd_T25 l0_4 x11_1).f3) from Kd.V_mk ul269_3 ge269_3)
              clear hva_ hvn_ hvc_ ge269_3 ul269_3
              have hv269_4 := hcc269 4 _ rfl
              rw [add_field _ _ 4 (by omega)] at hv269_4
              replace hv269_4 := Option.some.inj (hv269_4.symm.trans hx269_4)
              injection hv269_4 with hva_ hvn_ hvc_
              rw [hva_] at ge269_4
              rw [hvc_] at ul269_4
              have HL269_4 := Aside0.mk (show Kd.V k25 25 _ w.heap.size _ _ ((rd_T25 l0_4 x11_1).f4) from Kd.V_mk ul269_4 ge269_4)
              clear hva_ hvn_ hvc_ ge269_4 ul269_4
              clear hcc269 hce269
              have HR269_3 := Aside0.mk hi269_3
              have HC269_3 := Aside0.mk hl269_3
              clear hi269_3 hl269_3
              have HR269_4 := Aside0.mk hi269_4
              have HC269_4 := Aside0.mk hl269_4
              clear hi269_4 hl269_4
              replace p269 := eq_true p269
              replace q269 := eq_true q269
              go_wp2_with (first | ((with_reducible refine gate_dst (N := 5) rfl ?_); refine box_event ?hg (N := 5) ?hd (cs := #[.int .i64 0, .int .i64 0, .int .i64 0, .slice none 0 0, .slice none 0 0]) (t := 25) ?hr ?_; (case hd => rfl); (case hg => rfl); (case hr => first | (go_simp; done) | (go_simp; rfl)); intro gb270 hg w12 hbox hb; have n0_ := Aside0.mk (Kd.N_below (Kd.N_elderB (by (with_reducible repeat (first | apply Kd.N_alloc | apply Kd.N_drewN | apply Kd.N_drew)); exact HO_3.out) gb270 (Nat.le_of_eq hg.symm)) hb); have n1_ := Aside0.mk (Kd.V_below (Kd.V_elderB (by (with_reducible repeat (first | apply Kd.V_alloc | apply Kd.V_drewN | apply Kd.V_drew)); exact HO_9.out) gb270 (Nat.le_of_eq hg.symm)) hb); have n2_ := Aside0.mk (Kd.V_below (Kd.V_elderB (by (with_reducible repeat (first | apply Kd.V_alloc | apply Kd.V_drewN | apply Kd.V_drew)); exact HO_266003.out) gb270 (Nat.le_of_eq hg.symm)) hb); have n3_ := Aside0.mk (Kd.V_below (Kd.V_elderB (by (with_reducible repeat (first | apply Kd.V_alloc | apply Kd.V_drewN | apply Kd.V_drew)); exact HO_266004.out) gb270 (Nat.le_of_eq hg.symm)) hb); have n4_ := Aside0.mk (Kd.V_below (Kd.V_elderB (by (with_reducible repeat (first | apply Kd.V_alloc | apply Kd.V_drewN | apply Kd.V_drew)); exact HL269_3.out) gb270 (Nat.le_of_eq hg.symm)) hb); have n5_ := Aside0.mk (Kd.V_below (Kd.V_elderB (by (with_reducible repeat (first | apply Kd.V_alloc | apply Kd.V_drewN | apply Kd.V_drew)); exact HL269_4.out) gb270 (Nat.le_of_eq hg.symm)) hb); have n6_ := Aside0.mk (blk_below (g := gb265) (o := .cells #[.int .i64 a0_0, .int .i64 a0_1, .int .i64 a0_2, .slice A0_3 l0_3.length c0_3, .slice (some ad269) l0_4.length c0_4] 25 (0, 0)) (by (with_reducible repeat (first | refine blk_drewN ?_ _ | refine blk_drew ?_ | refine blk_alloc ?_ _)); exact BK265.out) hb); have n7_ := Aside0.mk (Kd.C_below (by repeat (first | (with_reducible exact HR269_3.out) | (with_reducible refine Kd.C_alloc ?_ _) | (with_reducible refine Kd.C_drewN ?_ _) | (with_reducible refine Kd.C_drew ?_) | exact HR269_3.out)) hb); have n8_ := Aside0.mk (Kd.C_below (by repeat (first | (with_reducible exact HR269_4.out) | (with_reducible refine Kd.C_alloc ?_ _) | (with_reducible refine Kd.C_drewN ?_ _) | (with_reducible refine Kd.C_drew ?_) | exact HR269_4.out)) hb); have n9_ := Aside0.mk (below_step (by repeat (first | (with_reducible first | exact HB.out | apply below_alloc | apply pw_below_drewN | apply below_drew1 | refine below_set ?_ GE265.out) | exact HB.out)) hb); have n10_ := Aside0.mk (hbox); have n11_ := Aside0.mk ((by rw [hg]; exact (below_size (by repeat (first | (with_reducible first | exact HB.out | apply below_alloc | apply pw_below_drewN | apply below_drew1 | refine below_set ?_ GE265.out) | exact HB.out))) : w.heap.size ≤ gb270)); have n12_ := Aside0.mk ((by rw [hg]; exact (below_size (by repeat (first | (with_reducible first | exact HB.out | apply below_alloc | apply pw_below_drewN | apply below_drew1 | refine below_set ?_ GE265.out) | exact HB.out))) : w.heap.size ≤ gb270)); have n13_ := Aside0.mk ((by rw [hg]; exact Nat.ne_of_lt (blk_lt (g := gb265) (o := .cells #[.int .i64 a0_0, .int .i64 a0_1, .int .i64 a0_2, .slice A0_3 l0_3.length c0_3, .slice (some ad269) l0_4.length c0_4] 25 (0, 0)) (by (with_reducible repeat (first | refine blk_drewN ?_ _ | refine blk_drew ?_ | refine blk_alloc ?_ _)); exact BK265.out)) : gb265 ≠ gb270)); have n14_ := Aside0.mk ((by rw [hg]; exact Nat.ne_of_gt (blk_lt (g := gb265) (o := .cells #[.int .i64 a0_0, .int .i64 a0_1, .int .i64 a0_2, .slice A0_3 l0_3.length c0_3, .slice (some ad269) l0_4.length c0_4] 25 (0, 0)) (by (with_reducible repeat (first | refine blk_drewN ?_ _ | refine blk_drew ?_ | refine blk_alloc ?_ _)); exact BK265.out)) : gb270 ≠ gb265)); clear HO_3; clear HO_9; clear HO_266003; clear HO_266004; clear HL269_3; clear HL269_4; clear BK265; clear HR269_3; clear HR269_4; clear HB; have HO_3 := n0_; have HO_9 := n1_; have HO_266003 := n2_; have HO_266004 := n3_; have HL269_3 := n4_; have HL269_4 := n5_; have BK265 := n6_; have HR269_3 := n7_; have HR269_4 := n8_; have HB := n9_; have BK270 := n10_; have GW270 := n11_; have GE270 := n12_; have NB265_270 := n13_; have NB270_265 := n14_; clear n0_ n1_ n2_ n3_ n4_ n5_ n6_ n7_ n8_ n9_ n10_ n11_ n12_ n13_ n14_; clear hb hbox hg; have hnb13 := NB270_265.out; have hnc13 := NB265_270.out; have hcz14_0 : w12.cell? ⟨gb270, 0, none⟩ = some (.int .i64 0) := (blk_cell BK270.out 0).trans rfl; have hcz14_1 : w12.cell? ⟨gb270, 1, none⟩ = some (.int .i64 0) := (blk_cell BK270.out 1).trans rfl; have hcz14_2 : w12.cell? ⟨gb270, 2, none⟩ = some (.int .i64 0) := (blk_cell BK270.out 2).trans rfl; have hcz14_3 : w12.cell? ⟨gb270, 3, none⟩ = some (.slice none 0 0) := (blk_cell BK270.out 3).trans rfl; have hcz14_4 : w12.cell? ⟨gb270, 4, none⟩ = some (.slice none 0 0) := (blk_cell BK270.out 4).trans rfl; have hfz14_0 := blk_frozen BK270.out 0; have hfz14_1 := blk_frozen BK270.out 1; have hfz14_2 := blk_frozen BK270.out 2; have hfz14_3 := blk_frozen BK270.out 3; have hfz14_4 := blk_frozen BK270.out 4) | ((with_reducible refine gate_store (t := 25) (p := 5) rfl ?_); refine store_event (t := 25) (p := 5) (v := ?vo_w15) (w1 := (((((w12.setCell ⟨gb270, 0, none⟩ (.int .i64 ((rd_T25 l0_4 x11_1).f0))).setCell ⟨gb270, 1, none⟩ (.int .i64 ((rd_T25 l0_4 x11_1).f1))).setCell ⟨gb270, 2, none⟩ (.int .i64 ((rd_T25 l0_4 x11_1).f2))).setCell ⟨gb270, 3, none⟩ (.slice A269_3 ((rd_T25 l0_4 x11_1).f3).length c269_3)).setCell ⟨gb270, 4, none⟩ (.slice A269_4 ((rd_T25 l0_4 x11_1).f4).length c269_4))) ?hg ?ho ?hn ?hr ?_; (case ho => rfl); (case hg => rfl); (case hn => rfl); (case hr => first | (go_simp; done) | (go_simp; rfl)); intro w15 hw; have n0_ : Aside0 (Kd.N k25 25 w15 w.heap.size (fun k_ => ((P0_3_ k_ ∨ P0_4_ k_) ∨ w.heap.size ≤ k_) ∧ k_ ≠ gb265 ∧ k_ ≠ gb270) u3 x3_1) := ⟨(by rw [hw]; exact (by (with_reducible repeat (first | apply Kd.N_alloc | apply Kd.N_drewN | apply Kd.N_drew)); exact Kd.N_mono (Kd.N_far (p := ⟨gb270, 4, none⟩) (Kd.N_far (p := ⟨gb270, 3, none⟩) (Kd.N_far (p := ⟨gb270, 2, none⟩) (Kd.N_far (p := ⟨gb270, 1, none⟩) (Kd.N_far (p := ⟨gb270, 0, none⟩) (Kd.N_mono HO_3.out (fun k_ hk => (⟨hk, hk.2⟩ : _ ∧ k_ ≠ gb270))) (fun _ hk => hk.2) (.int .i64 ((rd_T25 l0_4 x11_1).f0))) (fun _ hk => hk.2) (.int .i64 ((rd_T25 l0_4 x11_1).f1))) (fun _ hk => hk.2) (.int .i64 ((rd_T25 l0_4 x11_1).f2))) (fun _ hk => hk.2) (.slice A269_3 ((rd_T25 l0_4 x11_1).f3).length c269_3)) (fun _ hk => hk.2) (.slice A269_4 ((rd_T25 l0_4 x11_1).f4).length c269_4)) (fun _ hk => ⟨hk.1.1.1, ⟨hk.1.1.2, hk.1.2⟩⟩)))⟩; have n1_ : Aside0 (Kd.V k25 25 w15 w.heap.size (fun k_ => ((P0_3_ k_ ∨ P0_4_ k_) ∨ w.heap.size ≤ k_) ∧ some k_ ≠ (u3 : Value).ownBlock ∧ k_ ≠ gb265 ∧ k_ ≠ gb270) (.slice (some ad269) l0_4.length c0_4) l0_4) := ⟨(by rw [hw]; exact (by (with_reducible repeat (first | apply Kd.V_alloc | apply Kd.V_drewN | apply Kd.V_drew)); exact Kd.V_mono (Kd.V_far (p := ⟨gb270, 4, none⟩) (Kd.V_far (p := ⟨gb270, 3, none⟩) (Kd.V_far (p := ⟨gb270, 2, none⟩) (Kd.V_far (p := ⟨gb270, 1, none⟩) (Kd.V_far (p := ⟨gb270, 0, none⟩) (Kd.V_mono HO_9.out (fun k_ hk => (⟨hk, hk.2⟩ : _ ∧ k_ ≠ gb270))) (fun _ hk => hk.2) (.int .i64 ((rd_T25 l0_4 x11_1).f0))) (fun _ hk => hk.2) (.int .i64 ((rd_T25 l0_4 x11_1).f1))) (fun _ hk => hk.2) (.int .i64 ((rd_T25 l0_4 x11_1).f2))) (fun _ hk => hk.2) (.slice A269_3 ((rd_T25 l0_4 x11_1).f3).length c269_3)) (fun _ hk => hk.2) (.slice A269_4 ((rd_T25 l0_4 x11_1).f4).length c269_4)) (fun _ hk => ⟨hk.1.1.1, ⟨hk.1.1.2.1, ⟨hk.1.1.2.2, hk.1.2⟩⟩⟩)))⟩; have n2_ : Aside0 (Kd.V k31 31 w15 w.heap.size (fun k_ => ((P0_3_ k_ ∨ P0_4_ k_) ∨ w.heap.size ≤ k_) ∧ some k_ ≠ (u3 : Value).ownBlock ∧ k_ ≠ gb265 ∧ k_ ≠ gb270) (.slice A0_3 l0_3.length c0_3) l0_3) := ⟨(by rw [hw]; exact (by (with_reducible repeat (first | apply Kd.V_alloc | apply Kd.V_drewN | apply Kd.V_drew)); exact Kd.V_mono (Kd.V_far (p := ⟨gb270, 4, none⟩) (Kd.V_far (p := ⟨gb270, 3, none⟩) (Kd.V_far (p := ⟨gb270, 2, none⟩) (Kd.V_far (p := ⟨gb270, 1, none⟩) (Kd.V_far (p := ⟨gb270, 0, none⟩) (Kd.V_mono HO_266003.out (fun k_ hk => (⟨hk, hk.2⟩ : _ ∧ k_ ≠ gb270))) (fun _ hk => hk.2) (.int .i64 ((rd_T25 l0_4 x11_1).f0))) (fun _ hk => hk.2) (.int .i64 ((rd_T25 l0_4 x11_1).f1))) (fun _ hk => hk.2) (.int .i64 ((rd_T25 l0_4 x11_1).f2))) (fun _ hk => hk.2) (.slice A269_3 ((rd_T25 l0_4 x11_1).f3).length c269_3)) (fun _ hk => hk.2) (.slice A269_4 ((rd_T25 l0_4 x11_1).f4).length c269_4)) (fun _ hk => ⟨hk.1.1.1, ⟨hk.1.1.2.1, ⟨hk.1.1.2.2, hk.1.2⟩⟩⟩)))⟩; have n3_ : Aside0 (Kd.V k25 25 w15 w.heap.size (fun k_ => ((P0_3_ k_ ∨ P0_4_ k_) ∨ w.heap.size ≤ k_) ∧ some k_ ≠ (u3 : Value).ownBlock ∧ k_ ≠ gb265 ∧ k_ ≠ gb270) (.slice (some ad269) l0_4.length c0_4) l0_4) := ⟨(by rw [hw]; exact (by (with_reducible repeat (first | apply Kd.V_alloc | apply Kd.V_drewN | apply Kd.V_drew)); exact Kd.V_mono (Kd.V_far (p := ⟨gb270, 4, none⟩) (Kd.V_far (p := ⟨gb270, 3, none⟩) (Kd.V_far (p := ⟨gb270, 2, none⟩) (Kd.V_far (p := ⟨gb270, 1, none⟩) (Kd.V_far (p := ⟨gb270, 0, none⟩) (Kd.V_mono HO_266004.out (fun k_ hk => (⟨hk, hk.2⟩ : _ ∧ k_ ≠ gb270))) (fun _ hk => hk.2) (.int .i64 ((rd_T25 l0_4 x11_1).f0))) (fun _ hk => hk.2) (.int .i64 ((rd_T25 l0_4 x11_1).f1))) (fun _ hk => hk.2) (.int .i64 ((rd_T25 l0_4 x11_1).f2))) (fun _ hk => hk.2) (.slice A269_3 ((rd_T25 l0_4 x11_1).f3).length c269_3)) (fun _ hk => hk.2) (.slice A269_4 ((rd_T25 l0_4 x11_1).f4).length c269_4)) (fun _ hk => ⟨hk.1.1.1, ⟨hk.1.1.2.1, ⟨hk.1.1.2.2, hk.1.2⟩⟩⟩)))⟩; have n4_ : Aside0 (Kd.V k31 31 w15 w.heap.size (fun k_ => ((P0_3_ k_ ∨ P0_4_ k_) ∨ w.heap.size ≤ k_) ∧ some k_ ≠ (u3 : Value).ownBlock ∧ k_ ≠ gb265 ∧ k_ ≠ gb270) (.slice A269_3 ((rd_T25 l0_4 x11_1).f3).length c269_3) ((rd_T25 l0_4 x11_1).f3)) := ⟨(by rw [hw]; exact (by (with_reducible repeat (first | apply Kd.V_alloc | apply Kd.V_drewN | apply Kd.V_drew)); exact Kd.V_mono (Kd.V_far (p := ⟨gb270, 4, none⟩) (Kd.V_far (p := ⟨gb270, 3, none⟩) (Kd.V_far (p := ⟨gb270, 2, none⟩) (Kd.V_far (p := ⟨gb270, 1, none⟩) (Kd.V_far (p := ⟨gb270, 0, none⟩) (Kd.V_mono HL269_3.out (fun k_ hk => (⟨hk, hk.2⟩ : _ ∧ k_ ≠ gb270))) (fun _ hk => hk.2) (.int .i64 ((rd_T25 l0_4 x11_1).f0))) (fun _ hk => hk.2) (.int .i64 ((rd_T25 l0_4 x11_1).f1))) (fun _ hk => hk.2) (.int .i64 ((rd_T25 l0_4 x11_1).f2))) (fun _ hk => hk.2) (.slice A269_3 ((rd_T25 l0_4 x11_1).f3).length c269_3)) (fun _ hk => hk.2) (.slice A269_4 ((rd_T25 l0_4 x11_1).f4).length c269_4)) (fun _ hk => ⟨hk.1.1.1, ⟨hk.1.1.2.1, ⟨hk.1.1.2.2, hk.1.2⟩⟩⟩)))⟩; have n5_ : Aside0 (Kd.V k25 25 w15 w.heap.size (fun k_ => ((P0_3_ k_ ∨ P0_4_ k_) ∨ w.heap.size ≤ k_) ∧ some k_ ≠ (u3 : Value).ownBlock ∧ k_ ≠ gb265 ∧ k_ ≠ gb270) (.slice A269_4 ((rd_T25 l0_4 x11_1).f4).length c269_4) ((rd_T25 l0_4 x11_1).f4)) := ⟨(by rw [hw]; exact (by (with_reducible repeat (first | apply Kd.V_alloc | apply Kd.V_drewN | apply Kd.V_drew)); exact Kd.V_mono (Kd.V_far (p := ⟨gb270, 4, none⟩) (Kd.V_far (p := ⟨gb270, 3, none⟩) (Kd.V_far (p := ⟨gb270, 2, none⟩) (Kd.V_far (p := ⟨gb270, 1, none⟩) (Kd.V_far (p := ⟨gb270, 0, none⟩) (Kd.V_mono HL269_4.out (fun k_ hk => (⟨hk, hk.2⟩ : _ ∧ k_ ≠ gb270))) (fun _ hk => hk.2) (.int .i64 ((rd_T25 l0_4 x11_1).f0))) (fun _ hk => hk.2) (.int .i64 ((rd_T25 l0_4 x11_1).f1))) (fun _ hk => hk.2) (.int .i64 ((rd_T25 l0_4 x11_1).f2))) (fun _ hk => hk.2) (.slice A269_3 ((rd_T25 l0_4 x11_1).f3).length c269_3)) (fun _ hk => hk.2) (.slice A269_4 ((rd_T25 l0_4 x11_1).f4).length c269_4)) (fun _ hk => ⟨hk.1.1.1, ⟨hk.1.1.2.1, ⟨hk.1.1.2.2, hk.1.2⟩⟩⟩)))⟩; have n6_ : Aside0 (w15.heap[gb265]? = some (.cells #[.int .i64 a0_0, .int .i64 a0_1, .int .i64 a0_2, .slice A0_3 l0_3.length c0_3, .slice (some ad269) l0_4.length c0_4] 25 (0, 0))) := ⟨(by rw [hw]; exact (by (with_reducible repeat (first | refine blk_drewN ?_ _ | refine blk_drew ?_ | refine blk_alloc ?_ _)); refine blk_far ?_ NB265_270.out _; (with_reducible repeat (first | refine blk_drewN ?_ _ | refine blk_drew ?_ | refine blk_alloc ?_ _)); refine blk_far ?_ NB265_270.out _; (with_reducible repeat (first | refine blk_drewN ?_ _ | refine blk_drew ?_ | refine blk_alloc ?_ _)); refine blk_far ?_ NB265_270.out _; (with_reducible repeat (first | refine blk_drewN ?_ _ | refine blk_drew ?_ | refine blk_alloc ?_ _)); refine blk_far ?_ NB265_270.out _; (with_reducible repeat (first | refine blk_drewN ?_ _ | refine blk_drew ?_ | refine blk_alloc ?_ _)); refine blk_far ?_ NB265_270.out _; (with_reducible repeat (first | refine blk_drewN ?_ _ | refine blk_drew ?_ | refine blk_alloc ?_ _)); exact BK265.out))⟩; have n7_ : Aside0 (w15.heap[gb270]? = some (.cells #[.int .i64 ((rd_T25 l0_4 x11_1).f0), .int .i64 ((rd_T25 l0_4 x11_1).f1), .int .i64 ((rd_T25 l0_4 x11_1).f2), .slice A269_3 ((rd_T25 l0_4 x11_1).f3).length c269_3, .slice A269_4 ((rd_T25 l0_4 x11_1).f4).length c269_4] 25 (0, 0))) := ⟨(by rw [hw]; exact (by (with_reducible repeat (first | refine blk_drewN ?_ _ | refine blk_drew ?_ | refine blk_alloc ?_ _)); refine blk_put (cs := #[.int .i64 ((rd_T25 l0_4 x11_1).f0), .int .i64 ((rd_T25 l0_4 x11_1).f1), .int .i64 ((rd_T25 l0_4 x11_1).f2), .slice A269_3 ((rd_T25 l0_4 x11_1).f3).length c269_3, .slice none 0 0]) ?_ 4 _ rfl; (with_reducible repeat (first | refine blk_drewN ?_ _ | refine blk_drew ?_ | refine blk_alloc ?_ _)); refine blk_put (cs := #[.int .i64 ((rd_T25 l0_4 x11_1).f0), .int .i64 ((rd_T25 l0_4 x11_1).f1), .int .i64 ((rd_T25 l0_4 x11_1).f2), .slice none 0 0, .slice none 0 0]) ?_ 3 _ rfl; (with_reducible repeat (first | refine blk_drewN ?_ _ | refine blk_drew ?_ | refine blk_alloc ?_ _)); refine blk_put (cs := #[.int .i64 ((rd_T25 l0_4 x11_1).f0), .int .i64 ((rd_T25 l0_4 x11_1).f1), .int .i64 0, .slice none 0 0, .slice none 0 0]) ?_ 2 _ rfl; (with_reducible repeat (first | refine blk_drewN ?_ _ | refine blk_drew ?_ | refine blk_alloc ?_ _)); refine blk_put (cs := #[.int .i64 ((rd_T25 l0_4 x11_1).f0), .int .i64 0, .int .i64 0, .slice none 0 0, .slice none 0 0]) ?_ 1 _ rfl; (with_reducible repeat (first | refine blk_drewN ?_ _ | refine blk_drew ?_ | refine blk_alloc ?_ _)); refine blk_put (cs := #[.int .i64 0, .int .i64 0, .int .i64 0, .slice none 0 0, .slice none 0 0]) ?_ 0 _ rfl; (with_reducible repeat (first | refine blk_drewN ?_ _ | refine blk_drew ?_ | refine blk_alloc ?_ _)); exact BK270.out))⟩; have n8_ : Aside0 (Below w.heap.size w w15) := ⟨(by rw [hw]; exact (by repeat (first | (with_reducible first | exact HB.out | apply below_alloc | apply pw_below_drewN | apply below_drew1 | refine below_set ?_ GE265.out | refine below_set ?_ GE270.out) | exact HB.out)))⟩; clear hw; clear HO_3; clear HO_9; clear HO_266003; clear HO_266004; clear HL269_3; clear HL269_4; clear BK265; clear BK270; clear HB; have HO_3 := n0_; have HO_9 := n1_; have HO_266003 := n2_; have HO_266004 := n3_; have HL269_3 := n4_; have HL269_4 := n5_; have BK265 := n6_; have BK270 := n7_; have HB := n8_; clear n0_ n1_ n2_ n3_ n4_ n5_ n6_ n7_ n8_; have hcz16_0 : w15.cell? ⟨gb270, 0, none⟩ = some (.int .i64 ((rd_T25 l0_4 x11_1).f0)) := (blk_cell BK270.out 0).trans rfl; have hcz16_1 : w15.cell? ⟨gb270, 1, none⟩ = some (.int .i64 ((rd_T25 l0_4 x11_1).f1)) := (blk_cell BK270.out 1).trans rfl; have hcz16_2 : w15.cell? ⟨gb270, 2, none⟩ = some (.int .i64 ((rd_T25 l0_4 x11_1).f2)) := (blk_cell BK270.out 2).trans rfl; have hcz16_3 : w15.cell? ⟨gb270, 3, none⟩ = some (.slice A269_3 ((rd_T25 l0_4 x11_1).f3).length c269_3) := (blk_cell BK270.out 3).trans rfl; have hcz16_4 : w15.cell? ⟨gb270, 4, none⟩ = some (.slice A269_4 ((rd_T25 l0_4 x11_1).f4).length c269_4) := (blk_cell BK270.out 4).trans rfl; have hfz16_0 := blk_frozen BK270.out 0; have hfz16_1 := blk_frozen BK270.out 1; have hfz16_2 := blk_frozen BK270.out 2; have hfz16_3 := blk_frozen BK270.out 3; have hfz16_4 := blk_frozen BK270.out 4) | ((with_reducible refine gate_callee (f := 6) rfl ?_); refine goesL_ (some 17) rfl rfl Try.func6 (by kernel_rfl) rfl #[.agg #[.int .i64 ((rd_T25 l0_4 x11_1).f0), .int .i64 ((rd_T25 l0_4 x11_1).f1), .int .i64 ((rd_T25 l0_4 x11_1).f2), .slice A269_3 ((rd_T25 l0_4 x11_1).f3).length c269_3, .slice A269_4 ((rd_T25 l0_4 x11_1).f4).length c269_4]] rfl (by (try simp only [List.map_toArray, List.map_cons, List.map_nil]); first | done | rfl | (simp only [List.length_drop, List.length_take]; rfl)) ?_; (with_reducible refine (ih k1 (by have := HK1.out; omega) ((rd_T25 l0_4 x11_1).f0) ((rd_T25 l0_4 x11_1).f1) ((rd_T25 l0_4 x11_1).f2) (fun k_ => (((P0_3_ k_ ∨ P0_4_ k_) ∨ w.heap.size ≤ k_) ∧ (some k_ ≠ (u3 : Value).ownBlock ∧ (k_ ≠ gb265 ∧ k_ ≠ gb270)))) _ _ ((rd_T25 l0_4 x11_1).f3) (fun k_ => (((P0_3_ k_ ∨ P0_4_ k_) ∨ w.heap.size ≤ k_) ∧ (some k_ ≠ (u3 : Value).ownBlock ∧ (k_ ≠ gb265 ∧ k_ ≠ gb270)))) _ _ ((rd_T25 l0_4 x11_1).f4) t271 _ ?side1 ?side2 A10.out).mono ?_); (case side1 => exact HL269_3.out); (case side2 => exact HL269_4.out); rintro e w17 ⟨v272, rfl, ho0, hb⟩; refine ⟨_, rfl, ?_⟩; have n0_ := Aside0.mk (Kd.N_elder' (by (with_reducible repeat (first | apply Kd.N_alloc | apply Kd.N_drewN | apply Kd.N_drew)); exact HO_3.out) (Kd.N_base ho0) hb); have n1_ := Aside0.mk (Kd.V_elder' (by (with_reducible repeat (first | apply Kd.V_alloc | apply Kd.V_drewN | apply Kd.V_drew)); exact HO_9.out) (Kd.N_base ho0) hb); have n2_ := Aside0.mk (Kd.V_elder' (by (with_reducible repeat (first | apply Kd.V_alloc | apply Kd.V_drewN | apply Kd.V_drew)); exact HO_266003.out) (Kd.N_base ho0) hb); have n3_ := Aside0.mk (Kd.V_elder' (by (with_reducible repeat (first | apply Kd.V_alloc | apply Kd.V_drewN | apply Kd.V_drew)); exact HO_266004.out) (Kd.N_base ho0) hb); have n4_ := Aside0.mk (Kd.V_elder' (by (with_reducible repeat (first | apply Kd.V_alloc | apply Kd.V_drewN | apply Kd.V_drew)); exact HL269_3.out) (Kd.N_base ho0) hb); have n5_ := Aside0.mk (Kd.V_elder' (by (with_reducible repeat (first | apply Kd.V_alloc | apply Kd.V_drewN | apply Kd.V_drew)); exact HL269_4.out) (Kd.N_base ho0) hb); have n6_ := Aside0.mk (Kd.N_lower (Kd.N_mono (ok' := fun k_ => ((P0_3_ k_ ∨ P0_4_ k_) ∨ w.heap.size ≤ k_) ∧ some k_ ≠ (u3 : Value).ownBlock ∧ k_ ≠ gb265 ∧ k_ ≠ gb270) ho0 (fun k_ hk_ => ⟨Or.elim hk_ (fun hs_ => Or.elim hs_ (fun hs_ => hs_.1) (fun hs_ => hs_.1)) (fun hn_ => (.inr (Nat.le_trans (below_size (by repeat (first | (with_reducible first | exact HB.out | apply below_alloc | apply pw_below_drewN | apply below_drew1 | refine below_set ?_ GE265.out | refine below_set ?_ GE270.out) | exact HB.out))) hn_))), Or.elim hk_ (fun hs_ => Or.elim hs_ (fun hs_ => hs_.2.1) (fun hs_ => hs_.2.1)) (fun hn_ => (Kd.fresh' (Kd.N_lt (by (with_reducible repeat (first | apply Kd.N_alloc | apply Kd.N_drewN | apply Kd.N_drew)); exact HO_3.out)) k_ hn_)), Or.elim hk_ (fun hs_ => Or.elim hs_ (fun hs_ => hs_.2.2.1) (fun hs_ => hs_.2.2.1)) (fun hn_ => (Kd.freshB (g := gb265) (o := .cells #[.int .i64 a0_0, .int .i64 a0_1, .int .i64 a0_2, .slice A0_3 l0_3.length c0_3, .slice (some ad269) l0_4.length c0_4] 25 (0, 0)) (by (with_reducible repeat (first | refine blk_drewN ?_ _ | refine blk_drew ?_ | refine blk_alloc ?_ _)); exact BK265.out) k_ hn_)), Or.elim hk_ (fun hs_ => Or.elim hs_ (fun hs_ => hs_.2.2.2) (fun hs_ => hs_.2.2.2)) (fun hn_ => (Kd.freshB (g := gb270) (o := .cells #[.int .i64 ((rd_T25 l0_4 x11_1).f0), .int .i64 ((rd_T25 l0_4 x11_1).f1), .int .i64 ((rd_T25 l0_4 x11_1).f2), .slice A269_3 ((rd_T25 l0_4 x11_1).f3).length c269_3, .slice A269_4 ((rd_T25 l0_4 x11_1).f4).length c269_4] 25 (0, 0)) (by (with_reducible repeat (first | refine blk_drewN ?_ _ | refine blk_drew ?_ | refine blk_alloc ?_ _)); exact BK270.out) k_ hn_))⟩)) (below_size (by repeat (first | (with_reducible first | exact HB.out | apply below_alloc | apply pw_below_drewN | apply below_drew1 | refine below_set ?_ GE265.out | refine below_set ?_ GE270.out) | exact HB.out)))); have n7_ := Aside0.mk (blk_below (g := gb265) (o := .cells #[.int .i64 a0_0, .int .i64 a0_1, .int .i64 a0_2, .slice A0_3 l0_3.length c0_3, .slice (some ad269) l0_4.length c0_4] 25 (0, 0)) (by (with_reducible repeat (first | refine blk_drewN ?_ _ | refine blk_drew ?_ | refine blk_alloc ?_ _)); exact BK265.out) hb); have n10_ := Aside0.mk (blk_below (g := gb270) (o := .cells #[.int .i64 ((rd_T25 l0_4 x11_1).f0), .int .i64 ((rd_T25 l0_4 x11_1).f1), .int .i64 ((rd_T25 l0_4 x11_1).f2), .slice A269_3 ((rd_T25 l0_4 x11_1).f3).length c269_3, .slice A269_4 ((rd_T25 l0_4 x11_1).f4).length c269_4] 25 (0, 0)) (by (with_reducible repeat (first | refine blk_drewN ?_ _ | refine blk_drew ?_ | refine blk_alloc ?_ _)); exact BK270.out) hb); have n11_ := Aside0.mk (below_step (by repeat (first | (with_reducible first | exact HB.out | apply below_alloc | apply pw_below_drewN | apply below_drew1 | refine below_set ?_ GE265.out | refine below_set ?_ GE270.out) | exact HB.out)) hb); clear HO_3; clear HO_9; clear HO_266003; clear HO_266004; clear HL269_3; clear HL269_4; clear BK265; clear HR269_3; clear HR269_4; clear BK270; clear HB; have HO_3 := n0_; have HO_9 := n1_; have HO_266003 := n2_; have HO_266004 := n3_; have HL269_3 := n4_; have HL269_4 := n5_; have HO273 := n6_; have BK265 := n7_; have BK270 := n10_; have HB := n11_; clear n0_ n1_ n2_ n3_ n4_ n5_ n6_ n7_ n10_ n11_; (try clear hb); (try clear hb2); (try clear hk); (try clear hi); (try clear ho0); obtain ⟨Ao19, co19, eo19⟩ := Kd.N_slice HO273.out; subst eo19) | ((with_reducible refine gate_builtin (b := .append) (xs := #[.tmp 15, .tmp 17]) rfl ?_); at_builtin; refine Kd.N_append_rows k25 (w0 := w) w.heap.size rfl (.tmp 15) (.tmp 17) 23 25 (.agg #[(.int .i64 0), (.int .i64 0), (.int .i64 0), (.slice none 0 0), (.slice none 0 0)]) 72 rfl Try.underlying23 info25 rfl (by decide) (by omega) u3 x3_1 t271 _ _ _ (fun k_ => ((P0_3_ k_ ∨ P0_4_ k_) ∨ w.heap.size ≤ k_) ∧ k_ ≠ gb265 ∧ k_ ≠ gb270) (fun k_ => ((fun k_ => ((P0_3_ k_ ∨ P0_4_ k_) ∨ w.heap.size ≤ k_) ∧ k_ ≠ gb265 ∧ k_ ≠ gb270)) k_ ∧ some k_ ≠ (u3 : Value).ownBlock) rfl rfl ?aO ?aR (fun _ hk => hk) ?aF ?aB ?aS ?aL ?_; (case aR => exact (by skip; exact Kd.N_F (Kd.N_mono (ok' := (fun k_ => ((fun k_ => ((P0_3_ k_ ∨ P0_4_ k_) ∨ w.heap.size ≤ k_) ∧ k_ ≠ gb265 ∧ k_ ≠ gb270)) k_ ∧ some k_ ≠ (u3 : Value).ownBlock)) (HO273.out) (fun k_ hk => ⟨⟨hk.1, ⟨hk.2.2.1, hk.2.2.2⟩⟩, hk.2.1⟩)))); (case aB => exact (by repeat (first | (with_reducible first | exact HB.out | apply below_alloc | apply pw_below_drewN | apply below_drew1 | refine below_set ?_ GE265.out | refine below_set ?_ GE270.out) | exact HB.out))); (case aF => exact (fun k_ hk => ⟨(.inr (Nat.le_trans (below_size (by repeat (first | (with_reducible first | exact HB.out | apply below_alloc | apply pw_below_drewN | apply below_drew1 | refine below_set ?_ GE265.out | refine below_set ?_ GE270.out) | exact HB.out))) hk)), Kd.freshB (g := gb265) (o := .cells #[.int .i64 a0_0, .int .i64 a0_1, .int .i64 a0_2, .slice A0_3 l0_3.length c0_3, .slice (some ad269) l0_4.length c0_4] 25 (0, 0)) (by (with_reducible repeat (first | refine blk_drewN ?_ _ | refine blk_drew ?_ | refine blk_alloc ?_ _)); exact BK265.out) k_ hk, Kd.freshB (g := gb270) (o := .cells #[.int .i64 ((rd_T25 l0_4 x11_1).f0), .int .i64 ((rd_T25 l0_4 x11_1).f1), .int .i64 ((rd_T25 l0_4 x11_1).f2), .slice A269_3 ((rd_T25 l0_4 x11_1).f3).length c269_3, .slice A269_4 ((rd_T25 l0_4 x11_1).f4).length c269_4] 25 (0, 0)) (by (with_reducible repeat (first | refine blk_drewN ?_ _ | refine blk_drew ?_ | refine blk_alloc ?_ _)); exact BK270.out) k_ hk⟩)); (case aO => exact (by (with_reducible repeat (first | apply Kd.N_alloc | apply Kd.N_drewN | apply Kd.N_drew)); exact Kd.N_mono HO_3.out (fun _ hk => ⟨hk.1.1, ⟨hk.1.2.1, hk.1.2.2⟩⟩))); (case aS => exact (below_size (by repeat (first | (with_reducible first | exact HB.out | apply below_alloc | apply pw_below_drewN | apply below_drew1 | refine below_set ?_ GE265.out | refine below_set ?_ GE270.out) | exact HB.out)))); (case aL => have := LMc11.out; omega); intro v275 w18 ho hb hg hat; rw [← Ny274.out] at ho; have n0_ := Aside0.mk (Kd.V_afterv (ok := (fun k_ => ((P0_3_ k_ ∨ P0_4_ k_) ∨ w.heap.size ≤ k_) ∧ some k_ ≠ (.slice Ao19 t271.length co19 : Value).ownBlock ∧ k_ ≠ gb265 ∧ k_ ≠ gb270)) (by (with_reducible repeat (first | apply Kd.V_alloc | apply Kd.V_drewN | apply Kd.V_drew)); exact Kd.V_mono HO_9.out (fun _ hk => ⟨⟨hk.1.1, ⟨hk.2, ⟨hk.1.2.2.1, hk.1.2.2.2⟩⟩⟩, hk.1.2.1⟩)) hg hat); have n1_ := Aside0.mk (Kd.V_afterv (ok := (fun k_ => ((P0_3_ k_ ∨ P0_4_ k_) ∨ w.heap.size ≤ k_) ∧ some k_ ≠ (.slice Ao19 t271.length co19 : Value).ownBlock ∧ k_ ≠ gb265 ∧ k_ ≠ gb270)) (by (with_reducible repeat (first | apply Kd.V_alloc | apply Kd.V_drewN | apply Kd.V_drew)); exact Kd.V_mono HO_266003.out (fun _ hk => ⟨⟨hk.1.1, ⟨hk.2, ⟨hk.1.2.2.1, hk.1.2.2.2⟩⟩⟩, hk.1.2.1⟩)) hg hat); have n2_ := Aside0.mk (Kd.V_afterv (ok := (fun k_ => ((P0_3_ k_ ∨ P0_4_ k_) ∨ w.heap.size ≤ k_) ∧ some k_ ≠ (.slice Ao19 t271.length co19 : Value).ownBlock ∧ k_ ≠ gb265 ∧ k_ ≠ gb270)) (by (with_reducible repeat (first | apply Kd.V_alloc | apply Kd.V_drewN | apply Kd.V_drew)); exact Kd.V_mono HO_266004.out (fun _ hk => ⟨⟨hk.1.1, ⟨hk.2, ⟨hk.1.2.2.1, hk.1.2.2.2⟩⟩⟩, hk.1.2.1⟩)) hg hat); have n3_ := Aside0.mk (blk_grown (g := gb265) (o := .cells #[.int .i64 a0_0, .int .i64 a0_1, .int .i64 a0_2, .slice A0_3 l0_3.length c0_3, .slice (some ad269) l0_4.length c0_4] 25 (0, 0)) (by (with_reducible repeat (first | refine blk_drewN ?_ _ | refine blk_drew ?_ | refine blk_alloc ?_ _)); exact BK265.out) hg (Kd.N_away HO_3.out (fun _ hk => hk.1.2.1))); have n4_ := Aside0.mk (Kd.V_afterv (ok := (fun k_ => ((P0_3_ k_ ∨ P0_4_ k_) ∨ w.heap.size ≤ k_) ∧ some k_ ≠ (.slice Ao19 t271.length co19 : Value).ownBlock ∧ k_ ≠ gb265 ∧ k_ ≠ gb270)) (by (with_reducible repeat (first | apply Kd.V_alloc | apply Kd.V_drewN | apply Kd.V_drew)); exact Kd.V_mono HL269_3.out (fun _ hk => ⟨⟨hk.1.1, ⟨hk.2, ⟨hk.1.2.2.1, hk.1.2.2.2⟩⟩⟩, hk.1.2.1⟩)) hg hat); have n5_ := Aside0.mk (Kd.V_afterv (ok := (fun k_ => ((P0_3_ k_ ∨ P0_4_ k_) ∨ w.heap.size ≤ k_) ∧ some k_ ≠ (.slice Ao19 t271.length co19 : Value).ownBlock ∧ k_ ≠ gb265 ∧ k_ ≠ gb270)) (by (with_reducible repeat (first | apply Kd.V_alloc | apply Kd.V_drewN | apply Kd.V_drew)); exact Kd.V_mono HL269_4.out (fun _ hk => ⟨⟨hk.1.1, ⟨hk.2, ⟨hk.1.2.2.1, hk.1.2.2.2⟩⟩⟩, hk.1.2.1⟩)) hg hat); have n6_ := Aside0.mk (blk_grown (g := gb270) (o := .cells #[.int .i64 ((rd_T25 l0_4 x11_1).f0), .int .i64 ((rd_T25 l0_4 x11_1).f1), .int .i64 ((rd_T25 l0_4 x11_1).f2), .slice A269_3 ((rd_T25 l0_4 x11_1).f3).length c269_3, .slice A269_4 ((rd_T25 l0_4 x11_1).f4).length c269_4] 25 (0, 0)) (by (with_reducible repeat (first | refine blk_drewN ?_ _ | refine blk_drew ?_ | refine blk_alloc ?_ _)); exact BK270.out) hg (Kd.N_away HO_3.out (fun _ hk => hk.1.2.2))); have n7_ := Aside0.mk (Kd.N_afterv (ok := (fun k_ => ((P0_3_ k_ ∨ P0_4_ k_) ∨ w.heap.size ≤ k_) ∧ k_ ≠ gb265 ∧ k_ ≠ gb270)) (by (with_reducible repeat (first | apply Kd.N_alloc | apply Kd.N_drewN | apply Kd.N_drew)); exact Kd.N_mono HO273.out (fun _ hk => ⟨⟨hk.1, ⟨hk.2.2.1, hk.2.2.2⟩⟩, hk.2.1⟩)) hg hat); have n8_ := Aside0.mk (hb); have n9_ := Aside0.mk (ho); clear HO_9; clear HO_266003; clear HO_266004; clear BK265; clear HL269_3; clear HL269_4; clear BK270; clear HO273; clear HB; clear HO_3; have HO_9 := n0_; have HO_266003 := n1_; have HO_266004 := n2_; have BK265 := n3_; have HL269_3 := n4_; have HL269_4 := n5_; have BK270 := n6_; have HO273 := n7_; have HB := n8_; have HO276 := n9_; clear n0_ n1_ n2_ n3_ n4_ n5_ n6_ n7_ n8_ n9_; clear ho hb hg hat))
              go_roundg k1
              case measure => have := HK1.out; omega
              case rel => exact ⟨(y274), (wrap64 (x11_1 + 1)), (by first | rfl | (simp; done) | (simp [*]; done)), H', ⟨by have := HK1.out; omega⟩, ⟨by (with_reducible repeat (first | apply Kd.N_alloc | apply Kd.N_drewN | apply Kd.N_drew)); exact Kd.N_mono HO276.out (fun _ hk => ⟨hk.1, hk.2.1⟩)⟩, ⟨by (with_reducible repeat (first | apply Kd.V_alloc | apply Kd.V_drewN | apply Kd.V_drew)); exact Kd.V_mono HO_9.out (fun _ hk => ⟨hk.1.1, ⟨hk.2, hk.1.2.2.1⟩⟩)⟩, ⟨by (with_reducible repeat (first | apply Kd.V_alloc | apply Kd.V_drewN | apply Kd.V_drew)); exact Kd.V_mono HO_266003.out (fun _ hk => ⟨hk.1.1, ⟨hk.2, hk.1.2.2.1⟩⟩)⟩, ⟨by (with_reducible repeat (first | apply Kd.V_alloc | apply Kd.V_drewN | apply Kd.V_drew)); exact Kd.V_mono HO_266004.out (fun _ hk => ⟨hk.1.1, ⟨hk.2, hk.1.2.2.1⟩⟩)⟩, ⟨by (with_reducible repeat (first | refine blk_drewN ?_ _ | refine blk_drew ?_ | refine blk_alloc ?_ _)); exact BK265.out⟩, ⟨by repeat (first | (with_reducible first | exact HB.out | apply below_alloc | apply pw_below_drewN | apply below_drew1 | refine below_set ?_ GE265.out | refine below_set ?_ GE270.out) | exact HB.out)⟩⟩
            · rw [if_neg c11] at H
              exact absurd H (by simp)
          · rw [if_neg c9] at H
            exact absurd H (by simp)
        · rw [if_neg c8] at H
          exact absurd H (by simp)
      · rw [if_neg c7] at H
        have c7b0 : decide (x11_1 < (l0_4.length : Int)) = false := decide_eq_false c7
        clear c7
        obtain rfl := Option.some.inj H
        go_wp2
        go_ret
        exact ⟨_, by first | rfl | (simp [errW_none, errW_some] <;> rfl) | (simp [*, errW_none, errW_some] <;> rfl), by (with_reducible repeat (first | apply Kd.N_alloc | apply Kd.N_drewN | apply Kd.N_drew)); exact Kd.N_mono HO_3.out (fun _ hk => hk.1), by repeat (first | (with_reducible first | exact HB.out | apply below_alloc | apply pw_below_drewN | apply below_drew1 | refine below_set ?_ GE265.out) | exact HB.out)⟩

/-! sjson.DoorTail, walked by hand -/
/-- The quotation mark that opens the name that ends ahead of a place, sought from behind. -/
def backQ (L : List Int) (n : Nat) : Option Nat :=
  match n with
  | 0 => none
  | m + 1 => if L.getD m 0 = 34 then (if 0 < m ∧ L.getD (m - 1) 0 = 92 then backQ L (m - 2) else some m) else backQ L m
termination_by n
decreasing_by all_goals omega
theorem backQ_zero (L : List Int) : backQ L 0 = none := by rw [backQ]
theorem backQ_succ (L : List Int) (m : Nat) : backQ L (m + 1) = if L.getD m 0 = 34 then (if 0 < m ∧ L.getD (m - 1) 0 = 92 then backQ L (m - 2) else some m) else backQ L m := by rw [backQ]
/-- What is left of the text ahead of a value, and does the comma behind go. -/
def tailR (L : List Int) : Option (Nat × Bool) :=
  if 0 < L.length then
    (if L.getD (L.length - 1) 0 = 91 then some (L.length, true)
     else if L.getD (L.length - 1) 0 = 44 then some (L.length - 1, false)
     else if L.getD (L.length - 1) 0 = 58 ∧ 1 < L.length ∧ L.getD (L.length - 2) 0 = 34 then
       (backQ L (L.length - 2)).bind fun q => if 0 < q ∧ L.getD (q - 1) 0 = 123 then some (q, true) else if 0 < q ∧ L.getD (q - 1) 0 = 44 then some (q - 1, false) else none
     else none)
  else none
theorem backQ_lt (L : List Int) : ∀ (n q : Nat), backQ L n = some q → q < n := by
  intro n
  induction n using Nat.strongRecOn with
  | _ n ih =>
    intro q h
    cases n with
    | zero => rw [backQ_zero] at h; cases h
    | succ m =>
      rw [backQ_succ] at h
      split at h
      · split at h
        · have := ih (m - 2) (by omega) q h
          omega
        · injection h with h
          omega
      · have := ih m (by omega) q h
        omega
theorem tailR_le {L : List Int} {n : Nat} {b : Bool} (h : tailR L = some (n, b)) : n ≤ L.length := by
  unfold tailR at h
  split at h
  · split at h
    · simp only [Option.some.injEq, Prod.mk.injEq] at h
      omega
    · split at h
      · simp only [Option.some.injEq, Prod.mk.injEq] at h
        omega
      · split at h
        · obtain ⟨q, hq, h⟩ := Option.bind_eq_some_iff.mp h
          have := backQ_lt L _ _ hq
          split at h
          · simp only [Option.some.injEq, Prod.mk.injEq] at h
            omega
          · split at h
            · simp only [Option.some.injEq, Prod.mk.injEq] at h
              omega
            · cases h
        · cases h
  · cases h
set_option maxHeartbeats 4000000 in
set_option maxRecDepth 100000 in
theorem tail_walk (g c0 : Nat) (L : List Int) (n : Nat) (b : Bool) (w : World) (hc : ∀ j, j < L.length → w.cell? ⟨g, j, none⟩ = some (.int .u8 (L.getD j 0))) (hn : L.length ≤ 140737488351232) (hle : L.length ≤ c0) (h : tailR L = some (n, b)) :
    Calls Try.prog 19 #[.slice (some ⟨g, 0, none⟩) L.length c0] w fun e w' => e = .returned (.tuple #[.slice (some ⟨g, 0, none⟩) n c0, .bool b]) ∧ w' = w := by
  have HC := Lib.hid hc
  have H := Aside0.mk h
  clear hc h
  go_enter Try.func19, Try.ntmps19
  go_wp2
  go_step3
  go_wp2
  go_step3
  go_wp2
  have hpos : 0 < L.length := by
    have h := H.out
    unfold tailR at h
    split at h
    · assumption
    · cases h
  go_loop [4] (fun v => ∃ m : Nat, m + 1 = L.length ∧ v = .int .i64 m) (fun v => (intOf v).toNat)
  case atStart => exact ⟨L.length - 1, by omega, by go_num⟩
  case round =>
    obtain ⟨m, hm, rfl⟩ := hrel
    have hcell := HC.out m (by omega)
    have h := H.out
    unfold tailR at h
    rw [if_pos hpos, show L.length - 1 = m by omega] at h
    by_cases h1 : L.getD m 0 = 91
    · rw [if_pos h1] at h
      rw [h1] at hcell
      simp only [Option.some.injEq, Prod.mk.injEq] at h
      obtain ⟨rfl, rfl⟩ := h
      clear h1
      go_wp2
      go_ret2
      exact ⟨rfl, rfl⟩
    · rw [if_neg h1] at h
      by_cases h2 : L.getD m 0 = 44
      · rw [if_pos h2] at h
        rw [h2] at hcell
        simp only [Option.some.injEq, Prod.mk.injEq] at h
        obtain ⟨rfl, rfl⟩ := h
        clear h1 h2
        go_wp2
        go_ret2
        exact ⟨rfl, rfl⟩
      · rw [if_neg h2] at h
        split at h
        case isFalse => cases h
        case isTrue h3 =>
          obtain ⟨h3, h4, h5⟩ := h3
          rw [h3] at hcell
          obtain ⟨q, hq, h⟩ := Option.bind_eq_some_iff.mp h
          have hql := backQ_lt L _ _ hq
          have HQ := Aside0.mk hq
          have HR := Aside0.mk h
          have H5 := Aside0.mk h5
          clear h h1 h2 h3 h5 hq
          go_wp2
          go_loop [4] (fun v => ∃ m : Nat, m + 2 = L.length ∧ v = .int .i64 m) (fun v => (intOf v).toNat)
          case atStart => exact ⟨m - 1, by omega, by go_num⟩
          case round =>
            clear hcell
            obtain ⟨p, hp, rfl⟩ := hrel
            have hcell := HC.out p (by omega)
            have h5 := H5.out
            rw [show L.length - 2 = p by omega] at h5
            rw [h5] at hcell
            clear h5
            have hp1 : 1 ≤ p := by omega
            go_wp2
            go_loop [4] (fun v => ∃ m : Nat, m < p ∧ Aside0 (backQ L (m + 1) = some q) ∧ v = .int .i64 m) (fun v => (intOf v).toNat)
            case atStart =>
              have hq := HQ.out
              rw [show L.length - 2 = (p - 1) + 1 by omega] at hq
              exact ⟨p - 1, by omega, ⟨hq⟩, by go_num⟩
            case round =>
              clear hcell
              obtain ⟨s, hs, HB, rfl⟩ := hrel
              have hcell := HC.out s (by omega)
              have hB := HB.out
              rw [backQ_succ] at hB
              by_cases h6 : L.getD s 0 = 34
              · rw [if_pos h6] at hB
                rw [h6] at hcell
                by_cases h7 : 0 < s ∧ L.getD (s - 1) 0 = 92
                · rw [if_pos h7] at hB
                  obtain ⟨h7, h8⟩ := h7
                  obtain ⟨t, rfl⟩ : ∃ t, s = t + 1 := ⟨s - 1, by omega⟩
                  have hcell2 := HC.out t (by omega)
                  rw [Nat.add_sub_cancel] at h8
                  rw [h8] at hcell2
                  have ht : 2 ≤ t := by
                    rcases Nat.lt_or_ge t 2 with h | h
                    · rw [show t + 1 - 2 = 0 by omega, backQ_zero] at hB
                      cases hB
                    · exact h
                  have HB' := Aside0.mk hB
                  clear hB h8 h6
                  go_wp2
                  go_round
                  case rel =>
                    have hb := HB'.out
                    rw [show t + 1 - 2 = (t - 2) + 1 by omega] at hb
                    exact ⟨t - 2, by omega, ⟨hb⟩, by go_num⟩
                  case measure => simp [intOf]; omega
                · rw [if_neg h7] at hB
                  injection hB with hB
                  subst hB
                  have hr := HR.out
                  have hs0 : 0 < s := by
                    rcases Nat.eq_zero_or_pos s with h | h
                    · subst h
                      simp at hr
                    · exact h
                  obtain ⟨t, rfl⟩ : ∃ t, s = t + 1 := ⟨s - 1, by omega⟩
                  have hcell2 := HC.out t (by omega)
                  rw [Nat.add_sub_cancel] at h7 hr
                  have h9 : L.getD t 0 ≠ 92 := fun e => h7 ⟨by omega, e⟩
                  clear h7 h6
                  by_cases h10 : L.getD t 0 = 123
                  · rw [if_pos ⟨by omega, h10⟩] at hr
                    simp only [Option.some.injEq, Prod.mk.injEq] at hr
                    obtain ⟨rfl, rfl⟩ := hr
                    rw [h10] at hcell2
                    clear h9 h10
                    go_wp2
                    go_loop [4] (fun v => v = .int .i64 t) (fun v => (intOf v).toNat)
                    case atStart => go_num
                    case round =>
                      subst hrel
                      go_wp2
                      go_ret2
                      exact ⟨rfl, rfl⟩
                  · rw [if_neg (fun e => h10 e.2)] at hr
                    split at hr
                    case isFalse => cases hr
                    case isTrue h11 =>
                      simp only [Option.some.injEq, Prod.mk.injEq] at hr
                      obtain ⟨rfl, rfl⟩ := hr
                      rw [h11.2] at hcell2
                      clear h9 h10 h11
                      go_wp2
                      go_loop [4] (fun v => v = .int .i64 t) (fun v => (intOf v).toNat)
                      case atStart => go_num
                      case round =>
                        subst hrel
                        go_wp2
                        go_ret2
                        exact ⟨rfl, rfl⟩
              · rw [if_neg h6] at hB
                have hs0 : 0 < s := by
                  rcases Nat.eq_zero_or_pos s with h | h
                  · subst h
                    rw [backQ_zero] at hB
                    cases hB
                  · exact h
                have HB' := Aside0.mk hB
                have h6' : (L.getD s 0 == 34) = false := by simpa using h6
                generalize L.getD s 0 = x at hcell h6'
                clear hB h6
                go_wp2
                go_round
                case rel =>
                  have hb := HB'.out
                  rw [show s = (s - 1) + 1 by omega] at hb
                  exact ⟨s - 1, by omega, ⟨hb⟩, by go_num⟩
                case measure => simp [intOf]; omega

def sjson_DoorTail.f (a0 : ByteArray) : Option (ByteArray × Bool) := if a0.size ≤ 140737488351232 then (tailR (Kit.nums a0)).map fun r => (strOfNums ((Kit.nums a0).take r.1), r.2) else none
theorem sjson_DoorTail.calls (a0 : ByteArray) (r1 : ByteArray) (r2 : Bool) (w : World) (h : sjson_DoorTail.f a0 = some (r1, r2)) :
    Calls Try.prog 11 #[.string a0] w fun e w' => e = .returned (.tuple #[.string r1, .bool r2]) ∧ Below w.heap.size w w' := by
  unfold sjson_DoorTail.f at h
  split at h
  · rename_i hs
    obtain ⟨⟨n, b⟩, h0, hr⟩ := Option.map_eq_some_iff.mp h
    simp only [Prod.mk.injEq] at hr
    obtain ⟨rfl, rfl⟩ := hr
    have hnl := tailR_le h0
    have H := Aside0.mk h0
    clear h0 h
    have hcv := Lib.run_convert_string_bytes (P := Try.prog) w 9 38 5 a0 Try.underlying9 Try.underlying38 Try.underlying5
    have hB := Kit.BB.conv w 5 a0
    have hb := Kit.below_conv w 5 a0
    have hle := hB.le
    generalize hC : (Lib.bytesCells w 5 a0).size = cap at hB hle
    have hcap : grownCap w a0.size 0 5 = cap := by
      have hge := grownCap_ge w a0.size 0 5
      rw [← hC]
      simp only [Lib.bytesCells, Array.size_append, Array.size_map, Array.size_replicate]
      show _ = a0.size + _
      omega
    rw [hcap] at hcv
    generalize Lib.bytesWorld w 5 a0 = w1 at hcv hB hb
    have hlen := Kit.nums_len a0
    have hB' : Kit.BB w1 w.heap.size cap (Kit.nums a0) := hB
    have hst := (hB'.take n).str (P := Try.prog) (src := 38) (dst := 9) (c := cap) Try.underlying38 Try.underlying5 Try.underlying9 (by simp; omega)
    rw [List.length_take, Nat.min_eq_left hnl] at hst
    have HB := Aside0.mk hB'
    have HLE : (Kit.nums a0).length ≤ cap := hB'.le
    have HLE := Aside0.mk HLE
    have HD := Aside0.mk hb
    rw [← hlen] at hcv
    have HS := Aside0.mk hs
    have HN := Aside0.mk hlen
    clear hB hB' hb hC hcap hlen hle hs hnl
    go_enter Try.func11, Try.ntmps11
    go_wp2_with (go_at_call 19; refine (tail_walk _ _ (Kit.nums a0) n b _ (fun j hj => HB.out.cell j hj) (by have := HS.out; have := HN.out; omega) HLE.out H.out).mono ?_; rintro e w2 ⟨rfl, rfl⟩)
    go_ret2
    exact ⟨rfl, HD.out⟩
  · cases h

/-! ### impl_SjTail: function 7 -/
def impl_SjTail.f (a0 : ByteArray) : Option (ByteArray × Bool) := (sjson_DoorTail.f a0).bind fun bt277 => (some (bt277.1, bt277.2))
set_option maxHeartbeats 8000000 in
set_option maxRecDepth 100000 in
theorem impl_SjTail.calls (a0 : ByteArray) (r1 : ByteArray) (r2 : Bool) (w : World) (h : impl_SjTail.f a0 = some (r1, r2)) :
    Calls Try.prog 7 #[.string a0] w fun e w' => e = .returned (.tuple #[.string r1, .bool r2]) ∧ Below w.heap.size w w' := by
  have HB := Aside0.mk (Below.refl w.heap.size w)
  have H : ((sjson_DoorTail.f a0).bind fun bt277 => (some (bt277.1, bt277.2))) = some (r1, r2) := h
  clear h
  replace H := Option.bind_eq_some_iff.mp H
  obtain ⟨⟨t277, t278⟩, A20, H⟩ := H
  replace H : (some (t277, t278)) = some (r1, r2) := H
  have A2 := Aside0.mk A20
  clear A20
  simp only [Option.some.injEq, Prod.mk.injEq] at H
  obtain ⟨rfl, rfl⟩ := H
  go_enter Try.func7, Try.ntmps7
  go_wp2_with (first | ((with_reducible refine gate_callee (f := 11) rfl ?_); refine goesL_ (some 5) rfl rfl Try.func11 (by kernel_rfl) rfl #[.string a0] rfl (by (try simp only [List.map_toArray, List.map_cons, List.map_nil]); first | done | rfl | (simp only [List.length_drop, List.length_take]; rfl)) ?_; (with_reducible refine (sjson_DoorTail.calls a0 t277 t278 _ A2.out).mono ?_); rintro e w3 ⟨rfl, hb⟩; refine ⟨_, rfl, ?_⟩; have n0_ := Aside0.mk (below_step (by repeat (first | (with_reducible first | exact HB.out | apply below_alloc | apply pw_below_drewN | apply below_drew1) | exact HB.out)) hb); clear HB; have HB := n0_; clear n0_; (try clear hb); (try clear hb2); (try clear hk); (try clear hi)))
  go_ret2
  exact ⟨by first | rfl | (simp [errW_none, errW_some] <;> rfl) | (simp [*, errW_none, errW_some] <;> rfl), by repeat (first | (with_reducible first | exact HB.out | apply below_alloc | apply pw_below_drewN | apply below_drew1) | exact HB.out)⟩

end Go.Proofs.Ytbppoiedaojjmab.PFnSjTail
