/- spec.Named and spec.Step, walked by hand. -/
import Derived.Test.YtgbliniamkpocaaDoorJpPls
import Derived.Test.YtgbliniamkpocaaDoorJpUqb
import Derived.Test.YtgbliniamkpocaaDoorPureGu
namespace Go.Proofs.YtgbliniamkpocaaDoor.Jp
open Go.RowKit Go.Proofs.YtgbliniamkpocaaDoorW.PrintWords Go.Proofs.YtgbliniamkpocaaDoor.Kit Go.Proofs.YtgbliniamkpocaaDoor.Pure Go.Proofs.YtgbliniamkpocaaDoor.PPl

def isB (c : Int) : Prop := 0 ≤ c ∧ c ≤ 255
theorem enc_b (n : Int) : ∀ x ∈ Lib.encodeRuneZ n, isB x := by
  unfold isB Lib.encodeRuneZ
  intro x hx
  repeat' split at hx
  all_goals
    simp only [List.mem_cons, List.not_mem_nil, or_false] at hx
    omega
theorem gb_b (s : ByteArray) (i : Nat) : isB (gb (Kit.nums s) i) := by
  unfold isB
  by_cases h : i < s.size
  · rw [gb_at h]
    have := UInt8.toNat_lt s[i]
    omega
  · rw [gb_end (by omega)]
    omega
theorem un_b {L : List Int} (hL : ∀ i, isB (gb L i)) : ∀ (d i : Nat) (t : List Int), L.length - i ≤ d → un (L.drop i) = some t → ∀ x ∈ t, isB x := by
  intro d
  induction d with
  | zero =>
    intro i t hd h
    rw [List.drop_eq_nil_of_le (by omega), un_nil] at h
    injection h with h
    subst h
    intro x hx
    cases hx
  | succ d ih =>
    intro i t hd h
    by_cases hi : i < L.length
    · rcases un_at hi h with ⟨_, t', h1, rfl⟩ | ⟨h92, m, bs, t', hu, h1, rfl⟩
      · intro x hx
        rcases List.mem_cons.1 hx with rfl | hx
        · exact hL i
        · exact ih (i + 1) t' (by omega) h1 x hx
      · have hm := u1_le hu
        rw [List.length_drop] at hm
        intro x hx
        rcases List.mem_append.1 hx with hx | hx
        · rcases uq_step h92 hu with ⟨_, _, _, rfl⟩ | ⟨n, _, _, _, _, _, _, rfl⟩ | ⟨n, k, _, _, _, _, _, _, rfl⟩
          · have := hL (i + 1)
            simp only [List.mem_singleton] at hx
            subst hx
            unfold sh
            unfold isB at *
            repeat' split
            all_goals omega
          · exact enc_b _ x hx
          · exact enc_b _ x hx
        · exact ih (i + m) t' (by omega) h1 x hx
    · rw [List.drop_eq_nil_of_le (by omega), un_nil] at h
      injection h with h
      subst h
      intro x hx
      cases hx
theorem nums_str {r : List Int} (h : ∀ x ∈ r, isB x) : Kit.nums (strOfNums r) = r := by
  unfold Kit.nums
  rw [strOfNums_data, List.map_map]
  refine (List.map_congr_left (fun x hx => ?_)).trans (List.map_id r)
  have := h x hx
  unfold isB at this
  simp only [Function.comp, id_eq]
  rw [UInt8.toNat_ofNat']
  omega
/-- A name's span: two quotation marks, and what stands between has characters. -/
def NmG (L : List Int) (x : S72) : Prop := ∃ a c : Nat, x = ⟨(a : Int), (c : Int)⟩ ∧ a + 2 ≤ c ∧ c ≤ L.length ∧ un (cutI L (a + 1) (c - 1)) ≠ none
theorem Gd.nmg {L : List Int} {p : S35} (h : Gd L p) (h6 : p.f0 = 6) : ∀ x ∈ p.f3, NmG L x := by
  intro x hx
  obtain ⟨m, hm⟩ := List.mem_iff_getElem?.1 hx
  obtain ⟨n, i, e, hv, hi⟩ := h
  have he := (v_lt n).1 _ _ _ hi hv
  obtain ⟨a, c, h1, h2, h3, h4⟩ := obj_name hv hi h6 hm
  have := st_le _ _ _ _ (Nat.le_refl _) h3
  exact ⟨a, c, h1, by omega, by omega, un_ok _ _ _ (Nat.le_refl _) h3⟩
theorem cut_ext {s : ByteArray} {a c : Nat} (h : a + 2 ≤ c) (hc : c ≤ s.size) : Kit.nums ((s.extract a c).extract 1 ((s.extract a c).size - 1)) = cutI (Kit.nums s) (a + 1) (c - 1) := by
  have hs : (s.extract a c).size = c - a := by simp; omega
  rw [hs, nums_extract, nums_extract]
  unfold cutI
  rw [List.drop_take, List.drop_take, List.take_take, List.drop_drop]
  congr 1
  omega
theorem cutI_b {s : ByteArray} {a c : Nat} : ∀ i, isB (gb (cutI (Kit.nums s) a c) i) := by
  intro i
  by_cases h : a + i < c
  · rw [cutI_gb h]
    exact gb_b s _
  · have : gb (cutI (Kit.nums s) a c) i = 0 := gb_out (by unfold cutI; rw [List.length_drop, List.length_take]; omega)
    rw [this]
    unfold isB
    omega
/-- One name read and compared. -/
theorem nm_cmp {s key : ByteArray} {x : S72} (h : NmG (Kit.nums s) x) : ∃ (a c : Nat) (r : List Int), x = ⟨(a : Int), (c : Int)⟩ ∧ a ≤ c ∧ c ≤ s.size ∧ 2 ≤ (s.extract a c).size ∧ un (Kit.nums ((s.extract a c).extract 1 ((s.extract a c).size - 1))) = some r ∧
    ((strOfNums r).toList = key.toList ↔ un (nmI (Kit.nums s) x) = some (Kit.nums key)) := by
  obtain ⟨a, c, rfl, h1, h2, h3⟩ := h
  rw [nums_len] at h2
  obtain ⟨r, hr⟩ := Option.ne_none_iff_exists'.1 h3
  refine ⟨a, c, r, rfl, by omega, h2, by simp; omega, by rw [cut_ext h1 h2]; exact hr, ?_⟩
  have e : nmI (Kit.nums s) ⟨(a : Int), (c : Int)⟩ = cutI (Kit.nums s) (a + 1) (c - 1) := by unfold nmI; simp
  rw [e, hr, ← nums_list, nums_str (un_b (L := cutI (Kit.nums s) (a + 1) (c - 1)) cutI_b _ 0 r (Nat.le_refl _) (by rw [List.drop_zero]; exact hr))]
  exact ⟨fun h => by rw [h], fun h => by injection h⟩
def nmZ : Option Nat → Int | none => -1 | some k => (k : Int)
set_option maxHeartbeats 16000000 in
set_option maxRecDepth 100000 in
theorem named_c (s key : ByteArray) (w : World) (k0 b0 e0 : Int) (A3 A4 : Option Addr) (c3 c4 n4 : Nat) (ns : List S72) (hs : s.size ≤ 140737488355000) (hC : k72.C w A3 ns.length ns) (hN : ∀ x ∈ ns, NmG (Kit.nums s) x) :
    Calls Tryd.prog 19 #[.string s, .agg #[.int .i64 k0, .int .i64 b0, .int .i64 e0, .slice A3 ns.length c3, .slice A4 n4 c4], .string key] w fun e w' => e = .returned (.int .i64 (nmZ (nmd (Kit.nums s) (Kit.nums key) ns 0))) ∧ Below w.heap.size w w' := by
  obtain ⟨R, hR⟩ : ∃ R, nmd (Kit.nums s) (Kit.nums key) ns 0 = R := ⟨_, rfl⟩
  rw [hR]
  have HR := Lib.hid hR
  have HC := Lib.hid hC
  have HN := Lib.hid hN
  have hnl := hC.2.1
  have hu35 := Tryd.underlying35
  clear hR hC hN
  go_enter Tryd.func19, Tryd.ntmps19
  go_wp2_with fail
  obtain ⟨W, hW⟩ : ∃ W, W = w.alloc (.cells #[.int .i64 k0, .int .i64 b0, .int .i64 e0, .slice A3 ns.length c3, .slice A4 n4 c4] 35) := ⟨_, rfl⟩
  have HB : Hid (Below w.heap.size w W ∧ Bx W w.heap.size k0 b0 e0 (.slice A3 ns.length c3) (.slice A4 n4 c4)) := Lib.hid ⟨by rw [hW]; exact below_alloc (Below.refl _ _) _, by rw [hW]; exact blk_new w _⟩
  have hW0 : w.heap.size + 1 ≤ W.heap.size := by rw [hW, alloc_size]; exact Nat.le_refl _
  rw [← hW]
  clear hW
  go_loopw [7] (fun v wc => ∃ k : Nat, k ≤ ns.length ∧ v = .int .i64 k ∧ Hid (Below W.heap.size W wc ∧ nmd (Kit.nums s) (Kit.nums key) (ns.drop k) k = R)) (fun v _ => ns.length - (intOf v).toNat)
  case atStart => exact ⟨0, Nat.zero_le _, rfl, Lib.hid ⟨Below.refl _ _, HR.out⟩⟩
  case round =>
    clear HR
    obtain ⟨k, hk, rfl, HI⟩ := hrel
    have d3 := (Bx.c3 (blk_below HB.out.2 HI.out.1))
    by_cases hlt : k < ns.length
    · obtain ⟨ad, ea, x0, x1⟩ := at_T72 (Kd.C_below HC.out (below_then HB.out.1 HB.out.1.size HI.out.1)) (k : Int) (by omega) (by omega)
      have hx : rd_T72 ns (k : Int) = ns[k] := by simp [rd_T72, hlt]
      rw [hx, Int.toNat_natCast] at x0 x1
      obtain ⟨a, c, r, exx, hac, hcs, h2s, hun, hcmp⟩ := nm_cmp (key := key) (HN.out ns[k] (List.getElem_mem hlt))
      have HQ : Hid (∀ w1, Calls Tryd.prog 35 #[.string (s.extract a c)] w1 fun e w' => e = .returned (.string (strOfNums r)) ∧ Below w1.heap.size w1 w') := Lib.hid (fun w1 => uq_c _ r w1 h2s (by simp; omega) hun)
      rw [exx] at x0 x1
      subst ea
      have hdr : ns.drop k = ns[k] :: ns.drop (k + 1) := List.drop_eq_getElem_cons hlt
      have HS : Hid (nmd (Kit.nums s) (Kit.nums key) (ns.drop k) k = R) := Lib.hid HI.out.2
      have HBI : Hid (Below W.heap.size W wr) := Lib.hid HI.out.1
      have hka := eq_true (show (0 : Int) ≤ (k : Int) by omega)
      have hkb := eq_true (show (k : Int) < (ns.length : Int) by omega)
      have haa := eq_true (show (0 : Int) ≤ (a : Int) by omega)
      have hbb := eq_true (show (a : Int) ≤ (c : Int) by omega)
      have hcc := eq_true (show (c : Int) ≤ (s.size : Int) by omega)
      by_cases heq : un (nmI (Kit.nums s) ns[k]) = some (Kit.nums key)
      · have HE : Hid (R = some k) := Lib.hid (by rw [← HS.out, hdr]; unfold nmd; rw [if_pos heq])
        have a0 : ((strOfNums r).toList == key.toList) = true := beq_iff_eq.2 (hcmp.2 heq)
        clear hcmp heq hdr exx hun HS HI hx h2s
        go_upto_region 4 with (fail)
        have kp0 : Below wr.heap.size wr wr.drew := (Below.refl _ _).drew
        go_region_held3 (fun w' => w'.cell? ⟨w.heap.size, 3, none⟩ = some (.slice (some ad) ns.length c3) ∧ w'.cell? (ad.add (k * 2)) = some (.int .i64 a) ∧ w'.cell? ⟨(ad.add (k * 2)).block, (ad.add (k * 2)).off + 1, none⟩ = some (.int .i64 c) ∧ Below wr.heap.size wr w')
          (first | exact ⟨d3, x0, x1, kp0⟩ | exact ⟨y3, y0, y1, kp2⟩)
          (first | (go_at_call 35; (with_reducible refine (HQ.out _).mono ?_); rintro e2 w2 ⟨rfl, hb2⟩; have y3 := pw_cell_below (w := wr.drew) hb2 d3; have y0 := pw_cell_below (w := wr.drew) hb2 x0; have y1 := pw_cell_below (w := wr.drew) hb2 x1; have kp2 := below_step (w := wr) (W := wr.drew) kp0 hb2))
        go_wp2
        go_ret
        exact ⟨by rw [HE.out]; rfl, below_then HB.out.1 HB.out.1.size (below_step HBI.out kp2)⟩
      · have HE : Hid (nmd (Kit.nums s) (Kit.nums key) (ns.drop (k + 1)) (k + 1) = R) := Lib.hid (by rw [← HS.out, hdr, nmd, if_neg heq])
        have a0 : ((strOfNums r).toList == key.toList) = false := beq_eq_false_iff_ne.2 (fun h => heq (hcmp.1 h))
        clear hcmp heq hdr exx hun HS HI hx h2s
        go_upto_region 4 with (fail)
        have kp0 : Below wr.heap.size wr wr.drew := (Below.refl _ _).drew
        go_region_held3 (fun w' => w'.cell? ⟨w.heap.size, 3, none⟩ = some (.slice (some ad) ns.length c3) ∧ w'.cell? (ad.add (k * 2)) = some (.int .i64 a) ∧ w'.cell? ⟨(ad.add (k * 2)).block, (ad.add (k * 2)).off + 1, none⟩ = some (.int .i64 c) ∧ Below wr.heap.size wr w')
          (first | exact ⟨d3, x0, x1, kp0⟩ | exact ⟨y3, y0, y1, kp2⟩)
          (first | (go_at_call 35; (with_reducible refine (HQ.out _).mono ?_); rintro e2 w2 ⟨rfl, hb2⟩; have y3 := pw_cell_below (w := wr.drew) hb2 d3; have y0 := pw_cell_below (w := wr.drew) hb2 x0; have y1 := pw_cell_below (w := wr.drew) hb2 x1; have kp2 := below_step (w := wr) (W := wr.drew) kp0 hb2))
        go_wp2
        go_round
        case rel => exact ⟨k + 1, by omega, by go_num, Lib.hid ⟨below_step HBI.out kp2, HE.out⟩⟩
        case measure => simp [intOf]; omega
    · have HE : Hid (R = none) := Lib.hid (by rw [← HI.out.2, List.drop_eq_nil_of_le (by omega)]; rfl)
      have HBI : Hid (Below W.heap.size W wr) := Lib.hid HI.out.1
      clear HI
      go_wp2
      go_ret
      exact ⟨by rw [HE.out]; rfl, below_then HB.out.1 HB.out.1.size HBI.out⟩
end Go.Proofs.YtgbliniamkpocaaDoor.Jp
