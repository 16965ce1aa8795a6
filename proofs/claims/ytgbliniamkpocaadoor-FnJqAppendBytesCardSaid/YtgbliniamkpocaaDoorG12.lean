/- Texts of this claim, laid together. -/
import Derived.Test.YtgbliniamkpocaaDoorG11
import Derived.Test.YtgbliniamkpocaaDoorPureGu
/- spec.Named and spec.Step, walked by hand. -/
namespace Go.Proofs.YtgbliniamkpocaaDoor.Jp
open Go.RowKit Go.Proofs.YtgbliniamkpocaaDoorW.PrintWords Go.Proofs.YtgbliniamkpocaaDoor.Kit Go.Proofs.YtgbliniamkpocaaDoor.Pure Go.Proofs.YtgbliniamkpocaaDoor.PPl

def isB (c : Int) : Prop := 0 ≤ c ∧ c ≤ 255
theorem enc_b (n : Int) : ∀ x ∈ Lib.encodeRuneZ n, isB x := by
  unfold isB Lib.encodeRuneZ
  intro x hx
  repeat' split at hx
  all_goals
    simp only [List.mem_cons, List.not_mem_nil, or_false] at hx
    omega
theorem gb_b (s : ByteArray) (i : Nat) : isB (gb (Kit.nums s) i) := by
  unfold isB
  by_cases h : i < s.size
  · rw [gb_at h]
    have := UInt8.toNat_lt s[i]
    omega
  · rw [gb_end (by omega)]
    omega
theorem un_b {L : List Int} (hL : ∀ i, isB (gb L i)) : ∀ (d i : Nat) (t : List Int), L.length - i ≤ d → un (L.drop i) = some t → ∀ x ∈ t, isB x := by
  intro d
  induction d with
  | zero =>
    intro i t hd h
    rw [List.drop_eq_nil_of_le (by omega), un_nil] at h
    injection h with h
    subst h
    intro x hx
    cases hx
  | succ d ih =>
    intro i t hd h
    by_cases hi : i < L.length
    · rcases un_at hi h with ⟨_, t', h1, rfl⟩ | ⟨h92, m, bs, t', hu, h1, rfl⟩
      · intro x hx
        rcases List.mem_cons.1 hx with rfl | hx
        · exact hL i
        · exact ih (i + 1) t' (by omega) h1 x hx
      · have hm := u1_le hu
        rw [List.length_drop] at hm
        intro x hx
        rcases List.mem_append.1 hx with hx | hx
        · rcases uq_step h92 hu with ⟨_, _, _, rfl⟩ | ⟨n, _, _, _, _, _, _, rfl⟩ | ⟨n, k, _, _, _, _, _, _, rfl⟩
          · have := hL (i + 1)
            simp only [List.mem_singleton] at hx
            subst hx
            unfold sh
            unfold isB at *
            repeat' split
            all_goals omega
          · exact enc_b _ x hx
          · exact enc_b _ x hx
        · exact ih (i + m) t' (by omega) h1 x hx
    · rw [List.drop_eq_nil_of_le (by omega), un_nil] at h
      injection h with h
      subst h
      intro x hx
      cases hx
theorem nums_str {r : List Int} (h : ∀ x ∈ r, isB x) : Kit.nums (strOfNums r) = r := by
  unfold Kit.nums
  rw [strOfNums_data, List.map_map]
  refine (List.map_congr_left (fun x hx => ?_)).trans (List.map_id r)
  have := h x hx
  unfold isB at this
  simp only [Function.comp, id_eq]
  rw [UInt8.toNat_ofNat']
  omega
/-- A name's span: two quotation marks, and what stands between has characters. -/
def NmG (L : List Int) (x : S72) : Prop := ∃ a c : Nat, x = ⟨(a : Int), (c : Int)⟩ ∧ a + 2 ≤ c ∧ c ≤ L.length ∧ un (cutI L (a + 1) (c - 1)) ≠ none
theorem Gd.nmg {L : List Int} {p : S35} (h : Gd L p) (h6 : p.f0 = 6) : ∀ x ∈ p.f3, NmG L x := by
  intro x hx
  obtain ⟨m, hm⟩ := List.mem_iff_getElem?.1 hx
  obtain ⟨n, i, e, hv, hi⟩ := h
  have he := (v_lt n).1 _ _ _ hi hv
  obtain ⟨a, c, h1, h2, h3, h4⟩ := obj_name hv hi h6 hm
  have := st_le _ _ _ _ (Nat.le_refl _) h3
  exact ⟨a, c, h1, by omega, by omega, un_ok _ _ _ (Nat.le_refl _) h3⟩
theorem cut_ext {s : ByteArray} {a c : Nat} (h : a + 2 ≤ c) (hc : c ≤ s.size) : Kit.nums ((s.extract a c).extract 1 ((s.extract a c).size - 1)) = cutI (Kit.nums s) (a + 1) (c - 1) := by
  have hs : (s.extract a c).size = c - a := by simp; omega
  rw [hs, nums_extract, nums_extract]
  unfold cutI
  rw [List.drop_take, List.drop_take, List.take_take, List.drop_drop]
  congr 1
  omega
theorem cutI_b {s : ByteArray} {a c : Nat} : ∀ i, isB (gb (cutI (Kit.nums s) a c) i) := by
  intro i
  by_cases h : a + i < c
  · rw [cutI_gb h]
    exact gb_b s _
  · have : gb (cutI (Kit.nums s) a c) i = 0 := gb_out (by unfold cutI; rw [List.length_drop, List.length_take]; omega)
    rw [this]
    unfold isB
    omega
/-- One name read and compared. -/
theorem nm_cmp {s key : ByteArray} {x : S72} (h : NmG (Kit.nums s) x) : ∃ (a c : Nat) (r : List Int), x = ⟨(a : Int), (c : Int)⟩ ∧ a ≤ c ∧ c ≤ s.size ∧ 2 ≤ (s.extract a c).size ∧ un (Kit.nums ((s.extract a c).extract 1 ((s.extract a c).size - 1))) = some r ∧
    ((strOfNums r).toList = key.toList ↔ un (nmI (Kit.nums s) x) = some (Kit.nums key)) := by
  obtain ⟨a, c, rfl, h1, h2, h3⟩ := h
  rw [nums_len] at h2
  obtain ⟨r, hr⟩ := Option.ne_none_iff_exists'.1 h3
  refine ⟨a, c, r, rfl, by omega, h2, by simp; omega, by rw [cut_ext h1 h2]; exact hr, ?_⟩
  have e : nmI (Kit.nums s) ⟨(a : Int), (c : Int)⟩ = cutI (Kit.nums s) (a + 1) (c - 1) := by unfold nmI; simp
  rw [e, hr, ← nums_list, nums_str (un_b (L := cutI (Kit.nums s) (a + 1) (c - 1)) cutI_b _ 0 r (Nat.le_refl _) (by rw [List.drop_zero]; exact hr))]
  exact ⟨fun h => by rw [h], fun h => by injection h⟩
def nmZ : Option Nat → Int | none => -1 | some k => (k : Int)
set_option maxHeartbeats 16000000 in
set_option maxRecDepth 100000 in
theorem named_c (s key : ByteArray) (w : World) (k0 b0 e0 : Int) (A3 A4 : Option Addr) (c3 c4 n4 : Nat) (ns : List S72) (hs : s.size ≤ 140737488355000) (hC : k72.C w A3 ns.length ns) (hN : ∀ x ∈ ns, NmG (Kit.nums s) x) :
    Calls Tryd.prog 19 #[.string s, .agg #[.int .i64 k0, .int .i64 b0, .int .i64 e0, .slice A3 ns.length c3, .slice A4 n4 c4], .string key] w fun e w' => e = .returned (.int .i64 (nmZ (nmd (Kit.nums s) (Kit.nums key) ns 0))) ∧ Below w.heap.size w w' := by
  obtain ⟨R, hR⟩ : ∃ R, nmd (Kit.nums s) (Kit.nums key) ns 0 = R := ⟨_, rfl⟩
  rw [hR]
  have HR := Lib.hid hR
  have HC := Lib.hid hC
  have HN := Lib.hid hN
  have hnl := hC.2.1
  have hu35 := Tryd.underlying35
  clear hR hC hN
  go_enter Tryd.func19, Tryd.ntmps19
  go_wp2_with fail
  obtain ⟨W, hW⟩ : ∃ W, W = w.alloc (.cells #[.int .i64 k0, .int .i64 b0, .int .i64 e0, .slice A3 ns.length c3, .slice A4 n4 c4] 35) := ⟨_, rfl⟩
  have HB : Hid (Below w.heap.size w W ∧ Bx W w.heap.size k0 b0 e0 (.slice A3 ns.length c3) (.slice A4 n4 c4)) := Lib.hid ⟨by rw [hW]; exact below_alloc (Below.refl _ _) _, by rw [hW]; exact blk_new w _⟩
  have hW0 : w.heap.size + 1 ≤ W.heap.size := by rw [hW, alloc_size]; exact Nat.le_refl _
  rw [← hW]
  clear hW
  go_loopw [7] (fun v wc => ∃ k : Nat, k ≤ ns.length ∧ v = .int .i64 k ∧ Hid (Below W.heap.size W wc ∧ nmd (Kit.nums s) (Kit.nums key) (ns.drop k) k = R)) (fun v _ => ns.length - (intOf v).toNat)
  case atStart => exact ⟨0, Nat.zero_le _, rfl, Lib.hid ⟨Below.refl _ _, HR.out⟩⟩
  case round =>
    clear HR
    obtain ⟨k, hk, rfl, HI⟩ := hrel
    have d3 := (Bx.c3 (blk_below HB.out.2 HI.out.1))
    by_cases hlt : k < ns.length
    · obtain ⟨ad, ea, x0, x1⟩ := at_T72 (Kd.C_below HC.out (below_then HB.out.1 HB.out.1.size HI.out.1)) (k : Int) (by omega) (by omega)
      have hx : rd_T72 ns (k : Int) = ns[k] := by simp [rd_T72, hlt]
      rw [hx, Int.toNat_natCast] at x0 x1
      obtain ⟨a, c, r, exx, hac, hcs, h2s, hun, hcmp⟩ := nm_cmp (key := key) (HN.out ns[k] (List.getElem_mem hlt))
      have HQ : Hid (∀ w1, Calls Tryd.prog 35 #[.string (s.extract a c)] w1 fun e w' => e = .returned (.string (strOfNums r)) ∧ Below w1.heap.size w1 w') := Lib.hid (fun w1 => uq_c _ r w1 h2s (by simp; omega) hun)
      rw [exx] at x0 x1
      subst ea
      have hdr : ns.drop k = ns[k] :: ns.drop (k + 1) := List.drop_eq_getElem_cons hlt
      have HS : Hid (nmd (Kit.nums s) (Kit.nums key) (ns.drop k) k = R) := Lib.hid HI.out.2
      have HBI : Hid (Below W.heap.size W wr) := Lib.hid HI.out.1
      have hka := eq_true (show (0 : Int) ≤ (k : Int) by omega)
      have hkb := eq_true (show (k : Int) < (ns.length : Int) by omega)
      have haa := eq_true (show (0 : Int) ≤ (a : Int) by omega)
      have hbb := eq_true (show (a : Int) ≤ (c : Int) by omega)
      have hcc := eq_true (show (c : Int) ≤ (s.size : Int) by omega)
      by_cases heq : un (nmI (Kit.nums s) ns[k]) = some (Kit.nums key)
      · have HE : Hid (R = some k) := Lib.hid (by rw [← HS.out, hdr]; unfold nmd; rw [if_pos heq])
        have a0 : ((strOfNums r).toList == key.toList) = true := beq_iff_eq.2 (hcmp.2 heq)
        clear hcmp heq hdr exx hun HS HI hx h2s
        go_upto_region 4 with (fail)
        have kp0 : Below wr.heap.size wr wr.drew := (Below.refl _ _).drew
        go_region_held3 (fun w' => w'.cell? ⟨w.heap.size, 3, none⟩ = some (.slice (some ad) ns.length c3) ∧ w'.cell? (ad.add (k * 2)) = some (.int .i64 a) ∧ w'.cell? ⟨(ad.add (k * 2)).block, (ad.add (k * 2)).off + 1, none⟩ = some (.int .i64 c) ∧ Below wr.heap.size wr w')
          (first | exact ⟨d3, x0, x1, kp0⟩ | exact ⟨y3, y0, y1, kp2⟩)
          (first | (go_at_call 35; (with_reducible refine (HQ.out _).mono ?_); rintro e2 w2 ⟨rfl, hb2⟩; have y3 := pw_cell_below (w := wr.drew) hb2 d3; have y0 := pw_cell_below (w := wr.drew) hb2 x0; have y1 := pw_cell_below (w := wr.drew) hb2 x1; have kp2 := below_step (w := wr) (W := wr.drew) kp0 hb2))
        go_wp2
        go_ret
        exact ⟨by rw [HE.out]; rfl, below_then HB.out.1 HB.out.1.size (below_step HBI.out kp2)⟩
      · have HE : Hid (nmd (Kit.nums s) (Kit.nums key) (ns.drop (k + 1)) (k + 1) = R) := Lib.hid (by rw [← HS.out, hdr, nmd, if_neg heq])
        have a0 : ((strOfNums r).toList == key.toList) = false := beq_eq_false_iff_ne.2 (fun h => heq (hcmp.1 h))
        clear hcmp heq hdr exx hun HS HI hx h2s
        go_upto_region 4 with (fail)
        have kp0 : Below wr.heap.size wr wr.drew := (Below.refl _ _).drew
        go_region_held3 (fun w' => w'.cell? ⟨w.heap.size, 3, none⟩ = some (.slice (some ad) ns.length c3) ∧ w'.cell? (ad.add (k * 2)) = some (.int .i64 a) ∧ w'.cell? ⟨(ad.add (k * 2)).block, (ad.add (k * 2)).off + 1, none⟩ = some (.int .i64 c) ∧ Below wr.heap.size wr w')
          (first | exact ⟨d3, x0, x1, kp0⟩ | exact ⟨y3, y0, y1, kp2⟩)
          (first | (go_at_call 35; (with_reducible refine (HQ.out _).mono ?_); rintro e2 w2 ⟨rfl, hb2⟩; have y3 := pw_cell_below (w := wr.drew) hb2 d3; have y0 := pw_cell_below (w := wr.drew) hb2 x0; have y1 := pw_cell_below (w := wr.drew) hb2 x1; have kp2 := below_step (w := wr) (W := wr.drew) kp0 hb2))
        go_wp2
        go_round
        case rel => exact ⟨k + 1, by omega, by go_num, Lib.hid ⟨below_step HBI.out kp2, HE.out⟩⟩
        case measure => simp [intOf]; omega
    · have HE : Hid (R = none) := Lib.hid (by rw [← HI.out.2, List.drop_eq_nil_of_le (by omega)]; rfl)
      have HBI : Hid (Below W.heap.size W wr) := Lib.hid HI.out.1
      clear HI
      go_wp2
      go_ret
      exact ⟨by rw [HE.out]; rfl, below_then HB.out.1 HB.out.1.size HBI.out⟩
end Go.Proofs.YtgbliniamkpocaaDoor.Jp
/- spec.Step, walked by hand. -/
namespace Go.Proofs.YtgbliniamkpocaaDoor.Jp
open Go.RowKit Go.Proofs.YtgbliniamkpocaaDoorW.PrintWords Go.Proofs.YtgbliniamkpocaaDoor.Kit Go.Proofs.YtgbliniamkpocaaDoor.Pure Go.Proofs.YtgbliniamkpocaaDoor.PPl

/-- What is to be read in a world is to be read in another one too. -/
def Sub (w w1 : World) : Prop := ∀ a v, w.cell? a = some v → w1.cell? a = some v
theorem Sub.of_below {w w1 : World} (h : Below w.heap.size w w1) : Sub w w1 := fun _ _ hc => pw_cell_below h hc
theorem Sub.trans {w w1 w2 : World} (h : Sub w w1) (k : Sub w1 w2) : Sub w w2 := fun a v hc => k a v (h a v hc)
theorem Sub.step {w w1 w2 : World} (h : Sub w w1) (k : Below w1.heap.size w1 w2) : Sub w w2 := h.trans (.of_below k)
theorem row_sub {α : Type} {R R' : α → List Value → Prop} {size : Nat} {w w1 : World} {A : Option Addr} {n : Nat} {ps : List α} (h : ReadsRow R size w A n ps) (hs : Sub w w1) (hR : ∀ p c, R p c → R' p c) : ReadsRow R' size w1 A n ps := by
  refine ⟨h.1, h.2.1, fun hn => ?_⟩
  obtain ⟨ad, e, hc⟩ := h.2.2 hn
  refine ⟨ad, e, fun j p hj => ?_⟩
  obtain ⟨c, h1, h2, h3⟩ := hc j p hj
  exact ⟨c, h1, hR _ _ h2, fun i u hu => hs _ _ (h3 i u hu)⟩
theorem k72_sub {w w1 : World} {A : Option Addr} {n : Nat} {xs : List S72} (h : k72.C w A n xs) (hs : Sub w w1) : k72.C w1 A n xs := row_sub h hs (fun _ _ hp => hp)
theorem up_sub {w w1 : World} (hs : Sub w w1) : ∀ (n : Nat) (x : S35) (cs : List Value), (Kd.upto F35 5 [35, 72] n).K w x cs → (Kd.upto F35 5 [35, 72] n).K w1 x cs := by
  intro n
  induction n with
  | zero => exact fun _ _ h => h.elim
  | succ n ih =>
    intro x cs h
    obtain ⟨_, _, rfl, rfl, ⟨_, _, rfl, rfl, ⟨_, _, rfl, rfl, ⟨_, _, rfl, ⟨A3, c3, rfl, l3, g3⟩, ⟨A4, c4, rfl, l4, g4⟩⟩⟩⟩⟩ := h
    exact ⟨_, _, rfl, rfl, ⟨_, _, rfl, rfl, ⟨_, _, rfl, rfl, ⟨_, _, rfl, ⟨A3, c3, rfl, l3, k72_sub g3 hs⟩, ⟨A4, c4, rfl, l4, row_sub g4 hs (fun p c hp => ih p c hp)⟩⟩⟩⟩⟩
theorem k35_sub {w w1 : World} {A : Option Addr} {n : Nat} {xs : List S35} (h : k35.C w A n xs) (hs : Sub w w1) : k35.C w1 A n xs := row_sub h hs (fun p c hp => by
  obtain ⟨m, hm⟩ := hp
  exact ⟨m, up_sub hs m p c hm⟩)
/-- A place's names and kids are to be read. -/
structure PlC (w : World) (p : S35) (A3 A4 : Option Addr) : Prop where
  ns : k72.C w A3 p.f3.length p.f3
  ks : k35.C w A4 p.f4.length p.f4
theorem PlC.sub {w w1 : World} {p : S35} {A3 A4 : Option Addr} (h : PlC w p A3 A4) (hb : Sub w w1) : PlC w1 p A3 A4 := ⟨k72_sub h.1 hb, k35_sub h.2 hb⟩
theorem PlC.below {w w1 : World} {p : S35} {A3 A4 : Option Addr} (h : PlC w p A3 A4) (hb : Below w.heap.size w w1) : PlC w1 p A3 A4 := ⟨Kd.C_below h.1 hb, Kd.C_below h.2 hb⟩
/-- What Step, jpFound come to: a place, or none. -/
def PlP (w0 w : World) (P : Option S35) (e : Ending) (w' : World) : Prop :=
  (∃ (q : S35) (A3 A4 : Option Addr) (c3 c4 : Nat), P = some q ∧ e = .returned (.tuple #[.agg #[.int .i64 q.f0, .int .i64 q.f1, .int .i64 q.f2, .slice A3 q.f3.length c3, .slice A4 q.f4.length c4], .bool true]) ∧ PlC w0 q A3 A4 ∧ Below w.heap.size w w') ∨
  (P = none ∧ e = .returned (.tuple #[.agg #[.int .i64 0, .int .i64 0, .int .i64 0, .slice none 0 0, .slice none 0 0], .bool false]) ∧ Below w.heap.size w w')
theorem ixF_nn : ∀ (l : List Int) (n m : Int), 0 ≤ n → ixF l n = some m → 0 ≤ m := by
  intro l
  induction l with
  | nil =>
    intro n m hn h
    unfold ixF at h
    injection h with h
    omega
  | cons c r ih =>
    intro n m hn h
    unfold ixF at h
    split at h
    · cases h
    · exact ih _ m (by split <;> omega) h
theorem brk_nn {key : ByteArray} {m : Int} (h : brkR key = some m) : 0 ≤ m := by
  unfold brkR at h
  split at h
  · unfold ixR at h
    split at h
    · cases h
    · exact ixF_nn _ 0 m (by omega) h
  · cases h
theorem stp_arr {L key : List Int} {p : S35} (h6 : ¬ p.f0 = 6) (h5 : p.f0 = 5) : stp L p key = (brkL key).bind fun k => if k < (p.f4.length : Int) then p.f4[k.toNat]? else none := by
  unfold stp
  rw [if_neg h6, if_pos h5]
  cases brkL key with
  | none => rfl
  | some k => rfl
set_option maxHeartbeats 16000000 in
set_option maxRecDepth 100000 in
theorem stp_c (s key : ByteArray) (w0 w : World) (h0 : Sub w0 w) (p : S35) (A3 A4 : Option Addr) (c3 c4 : Nat) (hs : s.size ≤ 140737488355000) (hks : key.size ≤ 9223372036854775807) (hC : PlC w0 p A3 A4) (hG : Gd (Kit.nums s) p) :
    Calls Tryd.prog 34 #[.string s, .agg #[.int .i64 p.f0, .int .i64 p.f1, .int .i64 p.f2, .slice A3 p.f3.length c3, .slice A4 p.f4.length c4], .string key] w (PlP w0 w (stp (Kit.nums s) p (Kit.nums key))) := by
  obtain ⟨R, hR⟩ : ∃ R, stp (Kit.nums s) p (Kit.nums key) = R := ⟨_, rfl⟩
  rw [hR]
  have HR := Lib.hid hR
  have HC := Lib.hid hC
  have H0 := Lib.hid h0
  have HG := Lib.hid hG
  have hnl := hC.2.2.1
  have hu35 := Tryd.underlying35
  clear hR hC hG h0
  obtain ⟨W, hW⟩ : ∃ W, W = (w.alloc (.cells #[.int .i64 p.f0, .int .i64 p.f1, .int .i64 p.f2, .slice A3 p.f3.length c3, .slice A4 p.f4.length c4] 35)).alloc (.cells #[.int .i64 0, .int .i64 0, .int .i64 0, .slice none 0 0, .slice none 0 0] 35) := ⟨_, rfl⟩
  have HB : Hid (Below w.heap.size w W) := Lib.hid (by rw [hW]; exact below_alloc (below_alloc (Below.refl _ _) _) _)
  have HP : Hid (Bx W w.heap.size p.f0 p.f1 p.f2 (.slice A3 p.f3.length c3) (.slice A4 p.f4.length c4)) := Lib.hid (by rw [hW]; exact bx_new _ _ _ _ _ _ _)
  have HQ : Hid (Bx W (w.heap.size + 1) 0 0 0 (.slice none 0 0) (.slice none 0 0)) := Lib.hid (by
    rw [hW]
    have := blk_new (w.alloc (.cells #[.int .i64 p.f0, .int .i64 p.f1, .int .i64 p.f2, .slice A3 p.f3.length c3, .slice A4 p.f4.length c4] 35)) (.cells #[.int .i64 0, .int .i64 0, .int .i64 0, .slice none 0 0, .slice none 0 0] 35)
    rw [alloc_size] at this
    exact this)
  have hne : w.heap.size ≠ w.heap.size + 1 := by omega
  have hne' : w.heap.size + 1 ≠ w.heap.size := by omega
  have d0 : (w.alloc (.cells #[.int .i64 p.f0, .int .i64 p.f1, .int .i64 p.f2, .slice A3 p.f3.length c3, .slice A4 p.f4.length c4] 35)).cell? ⟨w.heap.size, 0, none⟩ = some (.int .i64 p.f0) := (blk_cell (blk_new _ _) 0).trans rfl
  by_cases h6 : p.f0 = 6
  · have HNm : Hid (∀ w1, k72.C w1 A3 p.f3.length p.f3 → Calls Tryd.prog 19 #[.string s, .agg #[.int .i64 p.f0, .int .i64 p.f1, .int .i64 p.f2, .slice A3 p.f3.length c3, .slice A4 p.f4.length c4], .string key] w1 fun e w' => e = .returned (.int .i64 (nmZ (nmd (Kit.nums s) (Kit.nums key) p.f3 0))) ∧ Below w1.heap.size w1 w') := Lib.hid (fun w1 h => named_c s key w1 _ _ _ A3 A4 c3 c4 _ _ hs h (Gd.nmg HG.out h6))
    have HLen : Hid (p.f3.length = p.f4.length) := Lib.hid (Gd.names HG.out h6)
    have a6 : (p.f0 == 6) = true := by simpa using h6
    cases hn : nmd (Kit.nums s) (Kit.nums key) p.f3 0 with
    | none =>
      have HE : Hid (R = none) := Lib.hid (by rw [← HR.out]; unfold stp; rw [if_pos h6, hn])
      rw [hn] at HNm
      unfold nmZ at HNm
      clear hn h6 HR
      go_enter Tryd.func34, Tryd.ntmps34
      go_wp2_with fail
      rw [← hW]
      clear hW
      refine (HNm.out _ (k72_sub HC.out.ns (H0.out.step HB.out))).mono ?_
      rintro e2 w2 ⟨rfl, hb2⟩
      have HP2 : Hid (Bx w2 w.heap.size p.f0 p.f1 p.f2 (.slice A3 p.f3.length c3) (.slice A4 p.f4.length c4)) := Lib.hid (blk_below HP.out hb2)
      have HQ2 : Hid (Bx w2 (w.heap.size + 1) 0 0 0 (.slice none 0 0) (.slice none 0 0)) := Lib.hid (blk_below HQ.out hb2)
      have HB2 : Hid (Below w.heap.size w w2) := Lib.hid (below_step HB.out hb2)
      clear hb2 HNm d0 HP HQ
      have s0 := HQ2.out.c0
      have s1 := HQ2.out.c1
      have s2 := HQ2.out.c2
      have s3 := HQ2.out.c3
      have s4 := HQ2.out.c4
      have t0 := HQ2.out.fr 0
      have t1 := HQ2.out.fr 1
      have t2 := HQ2.out.fr 2
      have t3 := HQ2.out.fr 3
      have t4 := HQ2.out.fr 4
      go_wp2
      exact bodyPost_ret (results_ct rfl _ _ (w.heap.size + 1) 35 #[.int .i64 0, .int .i64 0, .int .i64 0, .slice none 0 0, .slice none 0 0] (0, 0) _ rfl (HQ2.out.five _ _ _ _ _) Tryd.underlying35 rfl rfl) rfl (.inr ⟨HE.out, rfl, five_below HB2.out (by omega) _ _ _ _ _⟩)
    | some k =>
      have hkl : k < p.f4.length := by
        obtain ⟨_, ⟨x, hx, _⟩, _⟩ := nmd_some _ _ _ hn
        have := (List.getElem?_eq_some_iff.1 hx).1
        have := HLen.out
        omega
      obtain ⟨q, hq⟩ : ∃ q, p.f4[k]? = some q := ⟨_, List.getElem?_eq_getElem hkl⟩
      have HE : Hid (R = some q) := Lib.hid (by rw [← HR.out]; unfold stp; rw [if_pos h6, hn]; exact hq)
      have HQk : Hid (rd_T35 p.f4 (k : Int) = q) := Lib.hid (by unfold rd_T35; rw [Int.toNat_natCast, List.getD_eq_getElem?_getD, hq]; rfl)
      rw [hn] at HNm
      unfold nmZ at HNm
      clear hn h6 HR hq
      go_enter Tryd.func34, Tryd.ntmps34
      go_wp2_with fail
      rw [← hW]
      clear hW
      refine (HNm.out _ (k72_sub HC.out.ns (H0.out.step HB.out))).mono ?_
      rintro e2 w2 ⟨rfl, hb2⟩
      have HP2 : Hid (Bx w2 w.heap.size p.f0 p.f1 p.f2 (.slice A3 p.f3.length c3) (.slice A4 p.f4.length c4)) := Lib.hid (blk_below HP.out hb2)
      have HQ2 : Hid (Bx w2 (w.heap.size + 1) 0 0 0 (.slice none 0 0) (.slice none 0 0)) := Lib.hid (blk_below HQ.out hb2)
      have HB2 : Hid (Below w.heap.size w w2) := Lib.hid (below_step HB.out hb2)
      clear hb2 HNm d0 HP HQ
      obtain ⟨ad, B3, b3, B4, b4, ea, x0, x1, x2, x3, x4, l3, g3, l4, g4⟩ := at_T35 HC.out.ks ((k : Nat) : Int) (by omega) (by omega)
      have hx : rd_T35 p.f4 ((k : Nat) : Int) = q := HQk.out
      rw [hx, Int.toNat_natCast] at x0 x1 x2 x3 x4
      rw [hx] at l3 g3 l4 g4
      subst ea
      replace x0 := (H0.out.step HB2.out) _ _ x0
      replace x1 := (H0.out.step HB2.out) _ _ x1
      replace x2 := (H0.out.step HB2.out) _ _ x2
      replace x3 := (H0.out.step HB2.out) _ _ x3
      replace x4 := (H0.out.step HB2.out) _ _ x4
      have e4 := HP2.out.c4
      have HG3 : Hid (PlC w0 q B3 B4) := Lib.hid ⟨g3, g4⟩
      clear g3 g4 hx
      have s0 := HQ2.out.c0
      have s1 := HQ2.out.c1
      have s2 := HQ2.out.c2
      have s3 := HQ2.out.c3
      have s4 := HQ2.out.c4
      have t0 := HQ2.out.fr 0
      have t1 := HQ2.out.fr 1
      have t2 := HQ2.out.fr 2
      have t3 := HQ2.out.fr 3
      have t4 := HQ2.out.fr 4
      have hka := eq_true (show (0 : Int) ≤ ((k : Nat) : Int) by omega)
      go_wp2
      refine bodyPost_ret (results_ct rfl _ _ (w.heap.size + 1) 35 #[.int .i64 q.f0, .int .i64 q.f1, .int .i64 q.f2, .slice B3 q.f3.length b3, .slice B4 q.f4.length b4] (0, 0) _ rfl (HQ2.out.five _ _ _ _ _) Tryd.underlying35 rfl rfl) rfl (.inl ⟨q, B3, B4, b3, b4, HE.out, rfl, HG3.out, ?_⟩)
      exact five_below HB2.out (by omega) _ _ _ _ _
  have a6 : (p.f0 == 6) = false := by simpa using h6
  by_cases h5 : p.f0 = 5
  · have a5 : (p.f0 == 5) = true := by simpa using h5
    have HBk := Lib.hid (fun w1 => brk_c key w1 hks)
    have HR5 : Hid (R = (brkL (Kit.nums key)).bind fun k => if k < (p.f4.length : Int) then p.f4[k.toNat]? else none) := Lib.hid (by rw [← HR.out]; exact stp_arr h6 h5)
    cases hb : brkR key with
    | none =>
      have HE : Hid (R = none) := Lib.hid (by rw [HR5.out, ← brk_L, hb, Option.bind_none])
      have HBz : Hid (∀ w1, Calls Tryd.prog 30 #[.string key] w1 fun e w' => e = .returned (.tuple #[.int .i64 0, .bool false]) ∧ w' = w1) := Lib.hid (fun w1 => by have := HBk.out w1; rw [hb] at this; exact this)
      clear hb h6 h5 HR HR5 HBk
      go_enter Tryd.func34, Tryd.ntmps34
      go_wp2_with fail
      rw [← hW]
      clear hW
      refine (HBz.out _).mono ?_
      rintro e2 w2 ⟨rfl, rfl⟩
      have s0 := HQ.out.c0
      have s1 := HQ.out.c1
      have s2 := HQ.out.c2
      have s3 := HQ.out.c3
      have s4 := HQ.out.c4
      have t0 := HQ.out.fr 0
      have t1 := HQ.out.fr 1
      have t2 := HQ.out.fr 2
      have t3 := HQ.out.fr 3
      have t4 := HQ.out.fr 4
      go_wp2
      exact bodyPost_ret (results_ct rfl _ _ (w.heap.size + 1) 35 #[.int .i64 0, .int .i64 0, .int .i64 0, .slice none 0 0, .slice none 0 0] (0, 0) _ rfl (HQ.out.five _ _ _ _ _) Tryd.underlying35 rfl rfl) rfl (.inr ⟨HE.out, rfl, five_below HB.out (by omega) _ _ _ _ _⟩)
    | some m =>
      have hm0 := brk_nn hb
      obtain ⟨k, rfl⟩ : ∃ k : Nat, m = (k : Int) := ⟨m.toNat, by omega⟩
      have HBz : Hid (∀ w1, Calls Tryd.prog 30 #[.string key] w1 fun e w' => e = .returned (.tuple #[.int .i64 (k : Int), .bool true]) ∧ w' = w1) := Lib.hid (fun w1 => by have := HBk.out w1; rw [hb] at this; exact this)
      by_cases hkl : k < p.f4.length
      · obtain ⟨q, hq⟩ : ∃ q, p.f4[k]? = some q := ⟨_, List.getElem?_eq_getElem hkl⟩
        have HE : Hid (R = some q) := Lib.hid (by rw [HR5.out, ← brk_L, hb, Option.bind_some, if_pos (by omega), Int.toNat_natCast]; exact hq)
        have HQk : Hid (rd_T35 p.f4 (k : Int) = q) := Lib.hid (by unfold rd_T35; rw [Int.toNat_natCast, List.getD_eq_getElem?_getD, hq]; rfl)
        have hkd := eq_true (show (k : Int) < (p.f4.length : Int) by omega)
        clear hb h6 h5 HR HR5 HBk hq
        go_enter Tryd.func34, Tryd.ntmps34
        go_wp2_with fail
        rw [← hW]
        clear hW
        refine (HBz.out _).mono ?_
        rintro e2 w2 ⟨rfl, rfl⟩
        obtain ⟨ad, B3, b3, B4, b4, ea, x0, x1, x2, x3, x4, l3, g3, l4, g4⟩ := at_T35 HC.out.ks ((k : Nat) : Int) (by omega) (by omega)
        have hx : rd_T35 p.f4 ((k : Nat) : Int) = q := HQk.out
        rw [hx, Int.toNat_natCast] at x0 x1 x2 x3 x4
        rw [hx] at l3 g3 l4 g4
        subst ea
        replace x0 := (H0.out.step HB.out) _ _ x0
        replace x1 := (H0.out.step HB.out) _ _ x1
        replace x2 := (H0.out.step HB.out) _ _ x2
        replace x3 := (H0.out.step HB.out) _ _ x3
        replace x4 := (H0.out.step HB.out) _ _ x4
        have e4 := HP.out.c4
        have HG3 : Hid (PlC w0 q B3 B4) := Lib.hid ⟨g3, g4⟩
        clear g3 g4 hx
        have s0 := HQ.out.c0
        have s1 := HQ.out.c1
        have s2 := HQ.out.c2
        have s3 := HQ.out.c3
        have s4 := HQ.out.c4
        have t0 := HQ.out.fr 0
        have t1 := HQ.out.fr 1
        have t2 := HQ.out.fr 2
        have t3 := HQ.out.fr 3
        have t4 := HQ.out.fr 4
        have hka := eq_true (show (0 : Int) ≤ ((k : Nat) : Int) by omega)
        go_wp2
        refine bodyPost_ret (results_ct rfl _ _ (w.heap.size + 1) 35 #[.int .i64 q.f0, .int .i64 q.f1, .int .i64 q.f2, .slice B3 q.f3.length b3, .slice B4 q.f4.length b4] (0, 0) _ rfl (HQ.out.five _ _ _ _ _) Tryd.underlying35 rfl rfl) rfl (.inl ⟨q, B3, B4, b3, b4, HE.out, rfl, HG3.out, ?_⟩)
        exact five_below HB.out (by omega) _ _ _ _ _
      · have HE : Hid (R = none) := Lib.hid (by rw [HR5.out, ← brk_L, hb, Option.bind_some, if_neg (by omega)])
        have hkd : decide ((k : Int) < (p.f4.length : Int)) = false := decide_eq_false (by omega)
        clear hb h6 h5 HR HR5 HBk
        have e4 := HP.out.c4
        go_enter Tryd.func34, Tryd.ntmps34
        go_wp2_with fail
        rw [← hW]
        clear hW
        refine (HBz.out _).mono ?_
        rintro e2 w2 ⟨rfl, rfl⟩
        have s0 := HQ.out.c0
        have s1 := HQ.out.c1
        have s2 := HQ.out.c2
        have s3 := HQ.out.c3
        have s4 := HQ.out.c4
        have t0 := HQ.out.fr 0
        have t1 := HQ.out.fr 1
        have t2 := HQ.out.fr 2
        have t3 := HQ.out.fr 3
        have t4 := HQ.out.fr 4
        go_wp2
        exact bodyPost_ret (results_ct rfl _ _ (w.heap.size + 1) 35 #[.int .i64 0, .int .i64 0, .int .i64 0, .slice none 0 0, .slice none 0 0] (0, 0) _ rfl (HQ.out.five _ _ _ _ _) Tryd.underlying35 rfl rfl) rfl (.inr ⟨HE.out, rfl, five_below HB.out (by omega) _ _ _ _ _⟩)
  · have a5 : (p.f0 == 5) = false := by simpa using h5
    have HE : Hid (R = none) := Lib.hid (by rw [← HR.out]; unfold stp; rw [if_neg h6, if_neg h5])
    clear h6 h5 HR
    go_enter Tryd.func34, Tryd.ntmps34
    go_upto_region 9 with (fail)
    rw [← hW]
    clear hW
    have s0 := HQ.out.c0
    have s1 := HQ.out.c1
    have s2 := HQ.out.c2
    have s3 := HQ.out.c3
    have s4 := HQ.out.c4
    have t0 := HQ.out.fr 0
    have t1 := HQ.out.fr 1
    have t2 := HQ.out.fr 2
    have t3 := HQ.out.fr 3
    have t4 := HQ.out.fr 4
    go_wp2
    exact bodyPost_ret (results_ct rfl _ _ (w.heap.size + 1) 35 #[.int .i64 0, .int .i64 0, .int .i64 0, .slice none 0 0, .slice none 0 0] (0, 0) _ rfl (HQ.out.five _ _ _ _ _) Tryd.underlying35 rfl rfl) rfl (.inr ⟨HE.out, rfl, five_below HB.out (by omega) _ _ _ _ _⟩)
end Go.Proofs.YtgbliniamkpocaaDoor.Jp
