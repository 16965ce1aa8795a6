/- Texts of this claim, laid together. -/
import Derived.Test.YtgbliniamkpocaaDoorJpGn
import Derived.Test.YtgbliniamkpocaaDoorG0
import Derived.Lib.LazyBuf
import Derived.StillTailTactics
/- Pieces of a text, and a buffer into which they are copied. -/
namespace Go.Proofs.YtgbliniamkpocaaDoor.Jp
open Go.RowKit Go.Proofs.YtgbliniamkpocaaDoorW.PrintWords Go.Proofs.YtgbliniamkpocaaDoor.Kit Go.Proofs.YtgbliniamkpocaaDoor.Pure Go.Proofs.YtgbliniamkpocaaDoor.PPl

set_option maxRecDepth 100000 in
theorem inf5 : ∃ i, Tryd.prog.info? 5 = some i ∧ i.zero = some (.int .u8 0) ∧ i.size = 1 ∧ i.bytes = 1 := ⟨_, rfl, rfl, rfl, rfl⟩
set_option maxRecDepth 100000 in
/-- data[:b]. -/
theorem pre_cut (A : Option Addr) (n c b : Nat) (hb : b ≤ n) (hc : n ≤ c) : ∃ A', (∀ W : World, (Instr.slice 57 (.slice A n c) none (some (.int .i64 (b : Int))) none).run Tryd.prog W = .ok (.slice A' b c) W) ∧
    ∀ (W : World) (xs : List Int), ReadsInt W .u8 A n xs → ReadsInt W .u8 A' b (xs.take b) := by
  obtain ⟨i5, hi5, hz5, hsz5, hby5⟩ := inf5
  have hel : Tryd.prog.elem 57 = 5 := by simp [Program.elem, Tryd.underlying57]
  have hu : Tryd.prog.underlying 57 = some (.slice (Tryd.prog.elem 57)) := by rw [hel]; exact Tryd.underlying57
  refine ⟨if c = 0 then A else A.map (·.add 0), fun W => ?_, fun W xs h => ?_⟩
  · rw [run_slice_h W 57 A n c hu .i64 (b : Int) (by omega) (by omega), hel]
    simp [sizeOf, typeInfo, hi5, hsz5, sliced, Result.andThen]
  · have := (h.drop_ 0 (by omega) hc).take_ b (by omega)
    rw [List.drop_zero] at this
    exact this
set_option maxRecDepth 100000 in
/-- data[e:]. -/
theorem suf_cut (A : Option Addr) (n c e : Nat) (he : e ≤ n) (hc : n ≤ c) : ∃ A', (∀ W : World, (Instr.slice 57 (.slice A n c) (some (.int .i64 (e : Int))) none none).run Tryd.prog W = .ok (.slice A' (n - e) (c - e)) W) ∧
    ∀ (W : World) (xs : List Int), ReadsInt W .u8 A n xs → ReadsInt W .u8 A' (n - e) (xs.drop e) := by
  obtain ⟨i5, hi5, hz5, hsz5, hby5⟩ := inf5
  have hel : Tryd.prog.elem 57 = 5 := by simp [Program.elem, Tryd.underlying57]
  have hu : Tryd.prog.underlying 57 = some (.slice (Tryd.prog.elem 57)) := by rw [hel]; exact Tryd.underlying57
  refine ⟨if c = e then A else A.map (·.add e), fun W => ?_, fun W xs h => h.drop_ e he hc⟩
  rw [run_slice_l W 57 A n c hu .i64 (e : Int) (by omega) (by omega), hel]
  simp [sizeOf, typeInfo, hi5, hsz5, sliced, Result.andThen]
set_option maxRecDepth 100000 in
/-- A piece of a buffer. -/
theorem buf_lh (g n lo hi : Nat) (h1 : lo ≤ hi) (h2 : hi ≤ n) : ∃ D, (∀ W : World, (Instr.slice 57 (.slice (some ⟨g, 0, none⟩) n n) (some (.int .i64 (lo : Int))) (some (.int .i64 (hi : Int))) none).run Tryd.prog W = .ok (.slice D (hi - lo) (n - lo)) W) ∧ (lo < n → D = some ⟨g, lo, none⟩) := by
  obtain ⟨i5, hi5, hz5, hsz5, hby5⟩ := inf5
  have hel : Tryd.prog.elem 57 = 5 := by simp [Program.elem, Tryd.underlying57]
  have hu : Tryd.prog.underlying 57 = some (.slice (Tryd.prog.elem 57)) := by rw [hel]; exact Tryd.underlying57
  refine ⟨if n = lo then some ⟨g, 0, none⟩ else some ⟨g, lo, none⟩, fun W => ?_, fun h => if_neg (by omega)⟩
  rw [run_slice_lh W 57 _ n n hu .i64 .i64 (lo : Int) (hi : Int) (by omega) (by omega) (by omega), hel]
  by_cases e : n = lo
  · simp [e, sizeOf, typeInfo, hi5, hsz5, sliced, Result.andThen, Addr.add]
  · simp [e, sizeOf, typeInfo, hi5, hsz5, sliced, Result.andThen, Addr.add]
    intro h
    exact h.symm
set_option maxRecDepth 100000 in
theorem buf_l (g n lo : Nat) (h1 : lo ≤ n) : ∃ D, (∀ W : World, (Instr.slice 57 (.slice (some ⟨g, 0, none⟩) n n) (some (.int .i64 (lo : Int))) none none).run Tryd.prog W = .ok (.slice D (n - lo) (n - lo)) W) ∧ (lo < n → D = some ⟨g, lo, none⟩) := by
  obtain ⟨i5, hi5, hz5, hsz5, hby5⟩ := inf5
  have hel : Tryd.prog.elem 57 = 5 := by simp [Program.elem, Tryd.underlying57]
  have hu : Tryd.prog.underlying 57 = some (.slice (Tryd.prog.elem 57)) := by rw [hel]; exact Tryd.underlying57
  refine ⟨if n = lo then some ⟨g, 0, none⟩ else some ⟨g, lo, none⟩, fun W => ?_, fun h => if_neg (by omega)⟩
  rw [run_slice_l W 57 _ n n hu .i64 (lo : Int) (by omega) (by omega), hel]
  by_cases e : n = lo
  · simp [e, sizeOf, typeInfo, hi5, hsz5, sliced, Result.andThen, Addr.add]
  · simp [e, sizeOf, typeInfo, hi5, hsz5, sliced, Result.andThen, Addr.add]
    intro h
    exact h.symm
theorem bo_reads {w : World} {g n : Nat} {l : List Int} (h : BO w g n l) (hl : l.length = n) (hm : n ≤ 9223372036854775807) : ReadsInt w .u8 (some ⟨g, 0, none⟩) n l := by
  obtain ⟨cur, t, h1, h2, h3, h4⟩ := h
  refine ⟨hl, hm, fun _ => ⟨_, rfl, fun j hj => ?_⟩⟩
  have e : (⟨g, 0, none⟩ : Addr).add j = ⟨g, j, none⟩ := by
    simp only [Addr.add]
    split <;> simp_all
  rw [e]
  exact (blk_cell h1 j).trans (h4 j (by omega))
theorem reads_blk {w : World} {A : Option Addr} {n : Nat} {xs : List Int} (h : ReadsInt w .u8 A n xs) (a : Addr) (e : A = some a) (hn : 0 < n) : a.block < w.heap.size := by
  obtain ⟨ad, e2, hc⟩ := h.2.2 hn
  rw [e] at e2
  injection e2 with e2
  subst e2
  have hb : (a.add 0).block = a.block := by unfold Addr.add; split <;> rfl
  have := World.block_lt_of_cell? w _ (hc 0 hn)
  rwa [hb] at this
/-- Bytes that stood in w2 are read behind a buffer's making and filling. -/
theorem reads_on {w2 w3 w4 : World} {A : Option Addr} {n : Nat} {xs : List Int} (h : ReadsInt w2 .u8 A n xs) (hb : Below w2.heap.size w2 w3) (hg : Gr w2.heap.size w3 w4) : ReadsInt w4 .u8 A n xs :=
  reads_gr (h.below hb) hg (fun a e hn => by have := reads_blk h a e hn; omega)
/-- What Set hands back. -/
def SetV (w : World) (R : List Int) (e' : Ending) (w' : World) : Prop :=
  Below w.heap.size w w' ∧ ∃ A' c', e' = .returned (.tuple #[.slice A' R.length c', .nilIface]) ∧ ReadsInt w' .u8 A' R.length R ∧ R.length ≤ c'
end Go.Proofs.YtgbliniamkpocaaDoor.Jp
/- A text with other bytes in the place of some. -/
namespace Go.Proofs.YtgbliniamkpocaaDoor.Pure
open Go.RowKit Go.Proofs.YtgbliniamkpocaaDoor.Jp

/-- The text with other bytes from b to e. -/
def rep (L : List Int) (b e : Nat) (F : List Int) : List Int := L.take b ++ F ++ L.drop e
theorem rep_len {L F : List Int} {b e : Nat} (hb : b ≤ e) (he : e ≤ L.length) : (rep L b e F).length = b + F.length + (L.length - e) := by
  unfold rep
  simp only [List.length_append, List.length_take, List.length_drop]
  omega
end Go.Proofs.YtgbliniamkpocaaDoor.Pure
/- jsonparser.Append at keys that lead to an array. -/
namespace Go.Proofs.YtgbliniamkpocaaDoor.Jp
open Go.RowKit Go.Proofs.YtgbliniamkpocaaDoorW.PrintWords Go.Proofs.YtgbliniamkpocaaDoor.Kit Go.Proofs.YtgbliniamkpocaaDoor.Pure Go.Proofs.YtgbliniamkpocaaDoor.PPl

set_option maxHeartbeats 4000000 in
set_option maxRecDepth 100000 in
theorem ntk_c (A : Option Addr) (c : Nat) (l : List Int) (w : World) (hr : ReadsInt w .u8 A l.length l) (hc : l.length ≤ c) (hl : l.length ≤ 1000000000000) (hV : Cfg0 w) :
    Calls Tryd.prog 57 #[.slice A l.length c] w fun e w' => e = .returned (.int .i64 (nt l)) ∧ Below w.heap.size w w' := by
  have HF := Lib.hid (nt_c A c l w hr hc (by omega))
  obtain ⟨c0, c1, c2⟩ := hV
  unfold cfg at HF
  obtain ⟨t, ht⟩ : ∃ t, nt l = t := ⟨_, rfl⟩
  rw [ht] at HF ⊢
  clear hr ht
  go_enter Tryd.func57, Tryd.ntmps57
  go_wp2_with (go_at_call 70; (with_reducible refine HF.out.mono ?_); rintro e w3 ⟨rfl, hb3⟩)
  go_ret
  exact ⟨rfl, hb3⟩
set_option maxHeartbeats 4000000 in
set_option maxRecDepth 100000 in
theorem wtb_c (g n c N : Nat) (l : List Int) (w : World) (hB : BO w g N l) (hl : l.length < N) (hn : 1 ≤ n) :
    Calls Tryd.prog 56 #[.slice (some ⟨g, l.length, none⟩) n c, .string ⟨#[44]⟩] w fun e w' => e = .returned (.int .i64 1) ∧ BO w' g N (l ++ [44]) ∧ Gr g w w' := by
  obtain ⟨i5, hi5, hz5, hsz5, hby5⟩ := inf5
  have hB0 := hB
  obtain ⟨cur, t, h1, h2, h3, h4⟩ := hB0
  have hrun := run_copy_string (P := Tryd.prog) w 57 9 3 5 g l.length n c ⟨#[44]⟩ Tryd.underlying57 (fun W => by simp [sizeOf, typeInfo, hi5, hsz5]) hn
    (fun j hj => by
      have hj0 : j = 0 := by
        have : (ByteArray.mk #[44]).size = 1 := rfl
        omega
      subst hj0
      rw [blk_cell h1, Nat.add_zero, Array.getElem?_eq_getElem (by omega)]
      rfl)
    (fun j _ => blk_frozen h1 _)
  have hW : w.setCells g l.length ((ByteArray.mk #[44]).data.toList.map fun x => Value.int .u8 (x.toNat : Int)) = w.setCell ⟨g, l.length, none⟩ (.int .u8 44) := rfl
  rw [hW] at hrun
  have hP := Lib.hid (hB.push hl 44)
  obtain ⟨W, hWW⟩ : ∃ W, w.setCell ⟨g, l.length, none⟩ (.int .u8 44) = W := ⟨_, rfl⟩
  have HG : Hid (Gr g w W) := Lib.hid (by rw [← hWW]; exact Gr.setCell g _ _ w)
  rw [hWW] at hrun hP
  obtain ⟨d, hd⟩ : ∃ d : Option Addr, (some ⟨g, l.length, none⟩ : Option Addr) = d := ⟨_, rfl⟩
  rw [hd] at hrun ⊢
  clear hB h1 h2 h3 h4 hW hWW hd
  go_enter Tryd.func56, Tryd.ntmps56
  go_wp2
  go_ret
  exact ⟨rfl, hP.out, HG.out⟩
set_option maxHeartbeats 16000000 in
set_option maxRecDepth 100000 in
theorem app_c {L V : List Int} {b m : Nat} (hbm : b < m) (hml : m < L.length) (h93 : gb L m = 93) (kids : Bool) (hk : kids = (nt (cutI L (b + 1) m) != -1)) (A B K : Option Addr) (c cB nk ck : Nat) (w : World) (hr : ReadsInt w .u8 A L.length L) (hlc : L.length ≤ c) (hlm : L.length ≤ 1000000000000)
    (hV : ReadsInt w .u8 B V.length V) (hVm : V.length ≤ 1000000000000) (hC : Cfg0 w) (hG : Calls Tryd.prog 49 #[.slice A L.length c, .slice K nk ck] w (IgV w L 4 b (m + 1))) :
    Calls Tryd.prog 43 #[.slice A L.length c, .slice B V.length cB, .slice K nk ck] w (SetV w (rep L m m ((if kids then [44] else []) ++ V))) := by
  obtain ⟨i5, hi5, hz5, hsz5, hby5⟩ := inf5
  obtain ⟨ad, rfl, hcell⟩ := hr.2.2 (by omega)
  have hc93 := hcell m hml
  have hg : L.getD m 0 = 93 := h93
  rw [hg] at hc93
  obtain ⟨S1, hs1, hr1⟩ := pre_cut (some ad) L.length c m (by omega) hlc
  obtain ⟨S2, hs2, hr2⟩ := suf_cut (some ad) L.length c m (by omega) hlc
  obtain ⟨S3, hs3, hr3⟩ := mid_cut (some ad) L.length c (b + 1) m (by omega) (by omega) hlc
  have hcl := cutI_len (L := L) (a := b + 1) (b := m) (by omega)
  have hs3' : ∀ W : World, (Instr.slice 57 (.slice (some ad) L.length c) (some (.int .i64 ((b : Int) + 1))) (some (.int .i64 (m : Int))) none).run Tryd.prog W = .ok (.slice S3 (cutI L (b + 1) m).length (c - (b + 1))) W := by
    intro W
    rw [hcl]
    exact hs3 W
  have HN : Hid (∀ W, Below w.heap.size w W → Calls Tryd.prog 57 #[.slice S3 (cutI L (b + 1) m).length (c - (b + 1))] W fun e w' => e = .returned (.int .i64 (nt (cutI L (b + 1) m))) ∧ Below W.heap.size W w') := Lib.hid (fun W h => ntk_c S3 _ _ W (by rw [hcl]; exact hr3 W L (hr.below h)) (by rw [hcl]; omega) (by rw [hcl]; omega) (hC.below h))
  obtain ⟨t, ht⟩ : ∃ t, nt (cutI L (b + 1) m) = t := ⟨_, rfl⟩
  obtain ⟨q, hq⟩ : ∃ q, (cutI L (b + 1) m).length = q := ⟨_, rfl⟩
  rw [ht] at hk HN
  rw [hq] at hs3' HN
  have HKd := Lib.hid hk
  obtain ⟨R, hR⟩ : ∃ R, rep L m m ((if kids then [44] else []) ++ V) = R := ⟨_, rfl⟩
  rw [hR]
  have HRr := Lib.hid hR
  have HR := Lib.hid (And.intro hr hV)
  have HRS := Lib.hid (And.intro hr1 hr2)
  have HP := Lib.hid (And.intro hbm (And.intro hml (And.intro hlm hVm)))
  have HG := Lib.hid hG
  have HC93 := Lib.hid hc93
  have z1 : ¬ (m : Int) ≤ (b : Int) := by omega
  have z2 : ¬ (L.length : Int) ≤ (m : Int) := by omega
  have l1 : (L.length : Int) ≤ 1000000000000 := by omega
  have l2 : (V.length : Int) ≤ 1000000000000 := by omega
  clear hG hr hV hr1 hr2 hr3 hs3 hcell hc93 hg h93 hC hcl ht hq hk hR
  go_enter Tryd.func43, Tryd.ntmps43
  go_wp2_with fail
  refine HG.out.mono ?_
  rintro e2 w2 ⟨hb2, A3, n3, c3, rfl, hr3⟩
  clear hr3 HG
  have HB2 := Lib.hid hb2
  have hx := pw_cell_below hb2 HC93.out
  clear hb2 HC93
  have hmm : ((m + 1 : Nat) : Int) - 1 = (m : Int) := by omega
  go_upto_region 15 with (fail)
  go_wp2_with fail
  refine (HN.out _ HB2.out).mono ?_
  rintro e3 w3 ⟨rfl, hb3⟩
  have HB3 : Hid (Below w.heap.size w w3) := Lib.hid (below_step HB2.out hb3)
  have HR3 : Hid (ReadsInt w3 .u8 S1 m (L.take m) ∧ ReadsInt w3 .u8 B V.length V ∧ ReadsInt w3 .u8 S2 (L.length - m) (L.drop m)) := Lib.hid ⟨HRS.out.1 _ _ (HR.out.1.below HB3.out), HR.out.2.below HB3.out, HRS.out.2 _ _ (HR.out.1.below HB3.out)⟩
  clear hb3 HB2 HN hx HR HRS
  cases kids with
  | false =>
    have ht : (t != -1) = false := HKd.out.symm
    obtain ⟨n, hn⟩ : ∃ n, n = L.length + V.length + 0 := ⟨_, rfl⟩
    have HNn := Lib.hid hn
    have n1 : (L.length : Int) + (V.length : Int) ≤ 4000000000000 := by omega
    have n2 : (V.length : Int) + 1 ≤ 4000000000000 := by omega
    have n3 : (L.length : Int) + ((V.length : Int) + 1) ≤ 4000000000000 := by omega
    have n4 : (m : Int) + (V.length : Int) ≤ 4000000000000 := by omega
    have n5 : (m : Int) + 1 + (V.length : Int) ≤ 4000000000000 := by omega
    have n6 : (m : Int) + 1 ≤ 4000000000000 := by omega
    obtain ⟨D2, hd2, hD2⟩ := buf_l w3.heap.size n m (by omega)
    obtain ⟨D3, hd3, hD3⟩ := buf_l w3.heap.size n (m + V.length) (by omega)
    rw [show n - (m + V.length) = L.length - m by omega] at hd3
    rw [Int.natCast_add] at hd3
    have hfl : ([] ++ L.take m).length = m := by simp; omega
    have hgl : (([] ++ L.take m) ++ V).length = m + V.length := by rw [List.length_append, hfl]
    have HFL := Lib.hid (And.intro hfl hgl)
    have HD := Lib.hid (And.intro hD2 hD3)
    clear hfl hgl hD2 hD3 hn HKd
    go_upto_region 24 with (first | (with_reducible refine wpList_make_full _ rfl _ _ 57 rfl 0 5 i5 (.int .u8 0) 1 Tryd.underlying57 hi5 hz5 hsz5 .i64 .i64 _ _ n rfl rfl ?hL ?hC ?hb2 ?hb3 (Nat.zero_le _) ?_; (case hL => have := HNn.out; omega); (case hC => have := HNn.out; omega); (case hb2 => rw [hby5]; have := HNn.out; have := HP.out; omega); (case hb3 => unfold maxLen; have := HNn.out; have := HP.out; omega); intro w4 hown hgrow; have HB4 := Lib.hid ((Below.refl _ _).grown hgrow (Nat.le_refl _) (fun _ h => by cases h)); have HO4 := Lib.hid (bo_of_own hown); clear hown hgrow) | ((with_reducible refine gate_builtin (b := .copy) (xs := #[.tmp 102, .tmp 105]) rfl ?_); refine wpList_copy_bo rfl (.tmp 102) (.tmp 105) 57 57 rfl 5 Tryd.underlying57 (by kernel_rfl) _ _ _ _ _ _ rfl rfl (by have := HNn.out; have := HP.out; omega) w3.heap.size n [] (L.take m) HO4.out ?hr1 ?hp1 ?hf1 ?_; (case hr1 => exact HR3.out.1.below HB4.out); (case hp1 => intro _; rfl); (case hf1 => have := HNn.out; have := HP.out; simp only [List.length_nil]; omega); intro w5 hb5 hg5; have HO5 := Lib.hid hb5; have HG5 := Lib.hid hg5; clear hb5 hg5) | ((with_reducible refine gate_builtin (b := .copy) (xs := #[.tmp 117, .tmp 118]) rfl ?_); refine wpList_copy_bo rfl (.tmp 117) (.tmp 118) 57 57 rfl 5 Tryd.underlying57 (by kernel_rfl) _ _ _ _ _ _ rfl rfl (by have := HNn.out; have := HP.out; omega) w3.heap.size n ([] ++ L.take m) V HO5.out ?hr2 ?hp2 ?hf2 ?_; (case hr2 => exact reads_on HR3.out.2.1 HB4.out HG5.out); (case hp2 => intro h; rw [HFL.out.1]; exact HD.out.1 (by have := HNn.out; have := HP.out; omega)); (case hf2 => have := HNn.out; have := HP.out; rw [HFL.out.1]; omega); intro w7 hb7 hg7; have HO7 := Lib.hid hb7; have HG7 := Lib.hid (HG5.out.trans hg7); clear hb7 hg7))
    go_still_tail 6, (by kernel_rfl)
    change wpList _ _ _ _ _ w7.drew
    go_wp2_with (first | ((with_reducible refine gate_builtin (b := .copy) (xs := #[.tmp 123, .tmp 126]) rfl ?_); refine wpList_copy_bo rfl (.tmp 123) (.tmp 126) 57 57 rfl 5 Tryd.underlying57 (by kernel_rfl) _ _ _ _ _ _ rfl rfl (Nat.le_refl _) w3.heap.size n (([] ++ L.take m) ++ V) (L.drop m) (HO7.out.block (w1 := w7.drew) rfl) ?hr3 ?hp3 ?hf3 ?_; (case hr3 => exact reads_on HR3.out.2.2 HB4.out (HG7.out.trans (Gr.drew _ _))); (case hp3 => intro h; rw [HFL.out.2]; exact HD.out.2 (by have := HNn.out; have := HP.out; omega)); (case hf3 => have := HNn.out; have := HP.out; rw [HFL.out.2]; omega); intro w8 hb8 hg8; have HO8 := Lib.hid hb8; have HG8 := Lib.hid ((HG7.out.trans (Gr.drew _ _)).trans hg8); clear hb8 hg8))
    go_ret2
    have hO : BO w8 w3.heap.size n R := by
      have h := HO8.out
      have e : R = ([] ++ L.take m) ++ V ++ L.drop m := by
        rw [← HRr.out]
        unfold rep
        simp
      rw [e]
      exact h
    have hRn : R.length = n := by
      rw [← HRr.out, rep_len (Nat.le_refl _) (by have := HP.out; omega), HNn.out]
      simp
      have := HP.out
      omega
    refine ⟨?_, some ⟨w3.heap.size, 0, none⟩, n, (by rw [hRn]; rfl), by rw [hRn]; exact bo_reads hO hRn (by have := HNn.out; have := HP.out; omega), by omega⟩
    have h23 : Below w.heap.size w w4 := HB3.out.trans (HB4.out.mono HB3.out.size)
    exact h23.trans (HG8.out.below h23.size HB3.out.size)
  | true =>
    have ht : (t != -1) = true := HKd.out.symm
    obtain ⟨n, hn⟩ : ∃ n, n = L.length + V.length + 1 := ⟨_, rfl⟩
    have HNn := Lib.hid hn
    have n1 : (L.length : Int) + (V.length : Int) ≤ 4000000000000 := by omega
    have n2 : (V.length : Int) + 1 ≤ 4000000000000 := by omega
    have n3 : (L.length : Int) + ((V.length : Int) + 1) ≤ 4000000000000 := by omega
    have n4 : (m : Int) + (V.length : Int) ≤ 4000000000000 := by omega
    have n5 : (m : Int) + 1 + (V.length : Int) ≤ 4000000000000 := by omega
    have n6 : (m : Int) + 1 ≤ 4000000000000 := by omega
    obtain ⟨D2, hd2, hD2⟩ := buf_l w3.heap.size n (m + 1) (by omega)
    obtain ⟨D3, hd3, hD3⟩ := buf_l w3.heap.size n ((m + 1) + V.length) (by omega)
    rw [show n - ((m + 1) + V.length) = L.length - m by omega] at hd3
    have hd2' : ∀ W : World, (Instr.slice 57 (.slice (some ⟨w3.heap.size, 0, none⟩) n n) (some (.int .i64 ((m : Int) + 1))) none none).run Tryd.prog W = .ok (.slice D2 (n - (m + 1)) (n - (m + 1))) W := hd2
    have hd3' : ∀ W : World, (Instr.slice 57 (.slice (some ⟨w3.heap.size, 0, none⟩) n n) (some (.int .i64 ((m : Int) + 1 + (V.length : Int)))) none none).run Tryd.prog W = .ok (.slice D3 (L.length - m) (L.length - m)) W := hd3
    clear hd2 hd3
    obtain ⟨D1, hd1, hD1⟩ := buf_l w3.heap.size n m (by omega)
    obtain rfl := hD1 (by omega)
    have HW : Hid (∀ W, BO W w3.heap.size n ([] ++ L.take m) → Calls Tryd.prog 56 #[.slice (some ⟨w3.heap.size, m, none⟩) (n - m) (n - m), .string ⟨#[44]⟩] W fun e w' => e = .returned (.int .i64 1) ∧ BO w' w3.heap.size n ([] ++ L.take m ++ [44]) ∧ Gr w3.heap.size W w') := Lib.hid (fun W h => by
      have hl : ([] ++ L.take m).length = m := by rw [List.nil_append, List.length_take]; omega
      have := wtb_c w3.heap.size (n - m) (n - m) n ([] ++ L.take m) W h (by omega) (by omega)
      rw [hl] at this
      exact this)
    have hfl : ([] ++ L.take m ++ [44]).length = (m + 1) := by simp; omega
    have hgl : (([] ++ L.take m ++ [44]) ++ V).length = (m + 1) + V.length := by rw [List.length_append, hfl]
    have HFL := Lib.hid (And.intro hfl hgl)
    have HD := Lib.hid (And.intro hD2 hD3)
    clear hfl hgl hD2 hD3 hn HKd
    go_upto_region 24 with (first | (with_reducible refine wpList_make_full _ rfl _ _ 57 rfl 0 5 i5 (.int .u8 0) 1 Tryd.underlying57 hi5 hz5 hsz5 .i64 .i64 _ _ n rfl rfl ?hL ?hC ?hb2 ?hb3 (Nat.zero_le _) ?_; (case hL => have := HNn.out; omega); (case hC => have := HNn.out; omega); (case hb2 => rw [hby5]; have := HNn.out; have := HP.out; omega); (case hb3 => unfold maxLen; have := HNn.out; have := HP.out; omega); intro w4 hown hgrow; have HB4 := Lib.hid ((Below.refl _ _).grown hgrow (Nat.le_refl _) (fun _ h => by cases h)); have HO4 := Lib.hid (bo_of_own hown); clear hown hgrow) | ((with_reducible refine gate_builtin (b := .copy) (xs := #[.tmp 102, .tmp 105]) rfl ?_); refine wpList_copy_bo rfl (.tmp 102) (.tmp 105) 57 57 rfl 5 Tryd.underlying57 (by kernel_rfl) _ _ _ _ _ _ rfl rfl (by have := HNn.out; have := HP.out; omega) w3.heap.size n [] (L.take m) HO4.out ?hr1 ?hp1 ?hf1 ?_; (case hr1 => exact HR3.out.1.below HB4.out); (case hp1 => intro _; rfl); (case hf1 => have := HNn.out; have := HP.out; simp only [List.length_nil]; omega); intro w5 hb5 hg5; have HO5 := Lib.hid hb5; have HG5 := Lib.hid hg5; clear hb5 hg5) | (go_at_call 56; (with_reducible refine (HW.out _ HO5.out).mono ?_); rintro e6 w6 ⟨rfl, hb6, hg6⟩; have HO6 := Lib.hid hb6; have HG6 := Lib.hid (HG5.out.trans hg6); clear hb6 hg6) | ((with_reducible refine gate_builtin (b := .copy) (xs := #[.tmp 117, .tmp 118]) rfl ?_); refine wpList_copy_bo rfl (.tmp 117) (.tmp 118) 57 57 rfl 5 Tryd.underlying57 (by kernel_rfl) _ _ _ _ _ _ rfl rfl (by have := HNn.out; have := HP.out; omega) w3.heap.size n ([] ++ L.take m ++ [44]) V HO6.out ?hr2 ?hp2 ?hf2 ?_; (case hr2 => exact reads_on HR3.out.2.1 HB4.out HG6.out); (case hp2 => intro h; rw [HFL.out.1]; exact HD.out.1 (by have := HNn.out; have := HP.out; omega)); (case hf2 => have := HNn.out; have := HP.out; rw [HFL.out.1]; omega); intro w7 hb7 hg7; have HO7 := Lib.hid hb7; have HG7 := Lib.hid (HG6.out.trans hg7); clear hb7 hg7))
    go_still_tail 6, (by kernel_rfl)
    change wpList _ _ _ _ _ w7.drew
    go_wp2_with (first | ((with_reducible refine gate_builtin (b := .copy) (xs := #[.tmp 123, .tmp 126]) rfl ?_); refine wpList_copy_bo rfl (.tmp 123) (.tmp 126) 57 57 rfl 5 Tryd.underlying57 (by kernel_rfl) _ _ _ _ _ _ rfl rfl (Nat.le_refl _) w3.heap.size n (([] ++ L.take m ++ [44]) ++ V) (L.drop m) (HO7.out.block (w1 := w7.drew) rfl) ?hr3 ?hp3 ?hf3 ?_; (case hr3 => exact reads_on HR3.out.2.2 HB4.out (HG7.out.trans (Gr.drew _ _))); (case hp3 => intro h; rw [HFL.out.2]; exact HD.out.2 (by have := HNn.out; have := HP.out; omega)); (case hf3 => have := HNn.out; have := HP.out; rw [HFL.out.2]; omega); intro w8 hb8 hg8; have HO8 := Lib.hid hb8; have HG8 := Lib.hid ((HG7.out.trans (Gr.drew _ _)).trans hg8); clear hb8 hg8))
    go_ret2
    have hO : BO w8 w3.heap.size n R := by
      have h := HO8.out
      have e : R = ([] ++ L.take m ++ [44]) ++ V ++ L.drop m := by
        rw [← HRr.out]
        unfold rep
        simp
      rw [e]
      exact h
    have hRn : R.length = n := by
      rw [← HRr.out, rep_len (Nat.le_refl _) (by have := HP.out; omega), HNn.out]
      simp
      have := HP.out
      omega
    refine ⟨?_, some ⟨w3.heap.size, 0, none⟩, n, (by rw [hRn]; rfl), by rw [hRn]; exact bo_reads hO hRn (by have := HNn.out; have := HP.out; omega), by omega⟩
    have h23 : Below w.heap.size w w4 := HB3.out.trans (HB4.out.mono HB3.out.size)
    exact h23.trans (HG8.out.below h23.size HB3.out.size)
end Go.Proofs.YtgbliniamkpocaaDoor.Jp
