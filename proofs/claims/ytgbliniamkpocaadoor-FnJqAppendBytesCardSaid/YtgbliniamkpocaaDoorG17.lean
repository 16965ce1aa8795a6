/- Texts of this claim, laid together. -/
import Derived.Test.YtgbliniamkpocaaDoorG6
import Derived.Test.YtgbliniamkpocaaDoorG16
import Derived.Lib.ConvBytes
import Derived.Test.YtgbliniamkpocaaDoorG14
import Derived.Test.YtgbliniamkpocaaDoorG15
/- impl.JpGet without keys; the law FnJpCutWhole. -/
namespace Go.Proofs.YtgbliniamkpocaaDoor.Jp
open Go.RowKit Go.Proofs.YtgbliniamkpocaaDoorW.PrintWords Go.Proofs.YtgbliniamkpocaaDoorW.PrintMore Go.Proofs.YtgbliniamkpocaaDoor.Kit

theorem nums_by (s : ByteArray) : ∀ x ∈ Kit.nums s, 0 ≤ x ∧ x ≤ 255 := by
  intro x hx
  simp only [Kit.nums, List.mem_map] at hx
  obtain ⟨c, _, rfl⟩ := hx
  have := c.toNat_lt
  omega
/-- What stands first and whether it ends. -/
def GF (l : List Int) (ok : Bool) : Prop :=
  (ok = false ∧ l.length ≤ bl l 0) ∨ ∃ b r, bl l 0 = b ∧ b < l.length ∧ ok = Option.isSome r ∧ ((gb l b = 34 ∧ r = qe l (b + 1) false) ∨ (gb l b = 91 ∧ r = be l 91 93 b 0) ∨ (gb l b = 123 ∧ r = be l 123 125 b 0))
theorem get_all (A : Option Addr) (c : Nat) (l : List Int) (w : World) (hr : ReadsInt w .u8 A l.length l) (hlc : l.length ≤ c) (hb : ∀ x ∈ l, 0 ≤ x ∧ x ≤ 255) (hlm : l.length ≤ 140737488355328) (hV : Cfg0 w) (hE : Errs w) (ok : Bool) (hF : GF l ok) :
    Calls Tryd.prog 33 #[.slice A l.length c, .slice none 0 0] w fun e w' => GePost w ok e w' := by
  refine get_c A l.length c w ok (iget_c A l.length c w ok hV ?_)
  rcases hF with ⟨rfl, hn⟩ | ⟨b, r, hbl, hlt, rfl, h⟩
  · exact ig_blank A c l w hr hlc hlm hE hn
  · rcases h with ⟨hx, rfl⟩ | ⟨hx, rfl⟩ | ⟨hx, rfl⟩
    · refine ig_at A c l w hr hlc hlm hE b hbl hlt 1 _ (.inl ⟨rfl, fun j hj => ?_⟩) (fun j hj => ?_) (fun W hW hEW => gt_str A c l b W hW hlc hb hlm hlt hx hEW.2.2.2)
      · have := qe_le l _ _ _ _ (Nat.le_refl _) hj
        omega
      · have := qe_le l _ _ _ _ (Nat.le_refl _) hj
        omega
    · refine ig_at A c l w hr hlc hlm hE b hbl hlt 4 _ (.inr (.inr rfl)) (fun j hj => ?_) (fun W hW hEW => gt_arr A c l b W hW hlc hb hlm hlt hx hEW.1)
      exact be_le l _ _ _ _ _ _ (Nat.le_refl _) hj
    · refine ig_at A c l w hr hlc hlm hE b hbl hlt 3 _ (.inr (.inl rfl)) (fun j hj => ?_) (fun W hW hEW => gt_obj A c l b W hW hlc hb hlm hlt hx hEW.2.2.1)
      exact be_le l _ _ _ _ _ _ (Nat.le_refl _) hj
theorem conv_pack (W : World) (s : ByteArray) : ∃ cap w1, (convert 9 57 (.string s)).run Tryd.prog W = Result.ok (.slice (some ⟨W.heap.size, 0, none⟩) s.size cap) w1 ∧
    (s.size ≤ 9223372036854775807 → ReadsInt w1 .u8 (some ⟨W.heap.size, 0, none⟩) s.size (Kit.nums s)) ∧ s.size ≤ cap ∧ Below W.heap.size W w1 := by
  have hcv := Lib.run_convert_string_bytes (P := Tryd.prog) W 9 57 5 s Tryd.underlying9 Tryd.underlying57 Tryd.underlying5
  have hB := Kit.BB.conv W 5 s
  have hb := Kit.below_conv W 5 s
  have hle := hB.le
  have hlen := Kit.nums_len s
  have hcap : grownCap W s.size 0 5 = (Lib.bytesCells W 5 s).size := by
    have hge := grownCap_ge W s.size 0 5
    simp only [Lib.bytesCells, Array.size_append, Array.size_map, Array.size_replicate]
    show _ = s.size + _
    omega
  rw [hcap] at hcv
  generalize (Lib.bytesCells W 5 s).size = cap at hcv hB hle
  generalize Lib.bytesWorld W 5 s = w1 at hcv hB hb
  change Kit.BB w1 W.heap.size cap (Kit.nums s) at hB
  refine ⟨cap, w1, hcv, fun hm => ⟨hlen, hm, fun _ => ⟨_, rfl, fun j hj => ?_⟩⟩, ?_, hb⟩
  · have e : (⟨W.heap.size, 0, none⟩ : Addr).add j = ⟨W.heap.size, j, none⟩ := by
      simp only [Addr.add]
      split <;> simp_all
    rw [e]
    exact hB.cell j (by rw [hlen]; omega)
  · have : (Kit.nums s).length ≤ cap := hle
    omega
theorem four_set {w : World} {g : Nat} {t : TypeId} {a0 a1 a2 a3 : Value} (h : w.heap[g]? = some (.cells #[a0, a1, a2, a3] t (0, 0))) (b0 b1 b2 b3 : Value) :
    ((((w.setCell ⟨g, 0, none⟩ b0).setCell ⟨g, 1, none⟩ b1).setCell ⟨g, 2, none⟩ b2).setCell ⟨g, 3, none⟩ b3).heap[g]? = some (.cells #[b0, b1, b2, b3] t (0, 0)) := by
  simp [World.setCell, Array.getElem?_modify, h]
theorem four_below {w0 w : World} {g : Nat} (hb : Below w0.heap.size w0 w) (h : w0.heap.size ≤ g) (b0 b1 b2 b3 : Value) :
    Below w0.heap.size w0 ((((w.setCell ⟨g, 0, none⟩ b0).setCell ⟨g, 1, none⟩ b1).setCell ⟨g, 2, none⟩ b2).setCell ⟨g, 3, none⟩ b3) := (((hb.setCell h _).setCell h _).setCell h _).setCell h _
theorem four_cells {w : World} {g : Nat} {t : TypeId} {a0 a1 a2 a3 : Value} (h : w.heap[g]? = some (.cells #[a0, a1, a2, a3] t (0, 0))) :
    (w.cell? ⟨g, 0, none⟩ = some a0 ∧ w.cell? ⟨g, 1, none⟩ = some a1 ∧ w.cell? ⟨g, 2, none⟩ = some a2 ∧ w.cell? ⟨g, 3, none⟩ = some a3) ∧ w.frozen? ⟨g, 0, none⟩ = false ∧ w.frozen? ⟨g, 1, none⟩ = false ∧ w.frozen? ⟨g, 2, none⟩ = false ∧ w.frozen? ⟨g, 3, none⟩ = false :=
  ⟨⟨(blk_cell h 0).trans rfl, (blk_cell h 1).trans rfl, (blk_cell h 2).trans rfl, (blk_cell h 3).trans rfl⟩, blk_frozen h 0, blk_frozen h 1, blk_frozen h 2, blk_frozen h 3⟩
/-- What impl.JpGet hands back. -/
def JgPost (w : World) (ok : Bool) (e : Ending) (w' : World) : Prop := ∃ t k o, e = .returned (.tuple #[.agg #[.string ⟨#[]⟩, .string t, .int .i64 k, .int .i64 o], .bool ok]) ∧ Below w.heap.size w w'
set_option pp.maxSteps 3000
set_option maxHeartbeats 8000000 in
set_option maxRecDepth 100000 in
theorem jpget_c (s : ByteArray) (hs : s.size ≤ 65536) (w : World) (hV : Cfg0 w) (hE : Errs w) (ok : Bool) (hF : GF (Kit.nums s) ok) :
    Calls Tryd.prog 16 #[.string s, .slice none 0 0] w fun e w' => JgPost w ok e w' := by
  have hb0 : Below w.heap.size w (w.alloc (.cells #[.string ⟨#[]⟩, .string ⟨#[]⟩, .int .i64 0, .int .i64 0] 39)) := (Below.refl _ _).alloc (Nat.le_refl _) _
  have hz : (w.alloc (.cells #[.string ⟨#[]⟩, .string ⟨#[]⟩, .int .i64 0, .int .i64 0] 39)).heap[w.heap.size]? = some (.cells #[.string ⟨#[]⟩, .string ⟨#[]⟩, .int .i64 0, .int .i64 0] 39 (0, 0)) := heap_alloc_new w _
  have hsz : (w.alloc (.cells #[.string ⟨#[]⟩, .string ⟨#[]⟩, .int .i64 0, .int .i64 0] 39)).heap.size = w.heap.size + 1 := by simp
  obtain ⟨cap, w1, hcv, hR', hcap, hb1⟩ := conv_pack (w.alloc (.cells #[.string ⟨#[]⟩, .string ⟨#[]⟩, .int .i64 0, .int .i64 0] 39)) s
  have hR := hR' (by omega)
  have hlen := Kit.nums_len s
  have hbw : Below w.heap.size w w1 := hb0.trans (hb1.mono (by omega))
  have hz1 : w1.heap[w.heap.size]? = some (.cells #[.string ⟨#[]⟩, .string ⟨#[]⟩, .int .i64 0, .int .i64 0] 39 (0, 0)) := (hb1.block _ (by omega)).trans hz
  have hG := get_all (some ⟨(w.alloc (.cells #[.string ⟨#[]⟩, .string ⟨#[]⟩, .int .i64 0, .int .i64 0] 39)).heap.size, 0, none⟩) cap (Kit.nums s) w1 (by rw [hlen]; exact hR) (by omega) (nums_by s) (by omega) (hV.below hbw) (hE.below hbw) ok hF
  rw [hlen, hsz] at hG
  rw [hsz] at hcv
  have HG := Lib.hid hG
  have HB := Lib.hid hbw
  have HZ := Lib.hid hz1
  clear hG hbw hz1 hR hR' hcap hb1 hlen hsz hz hb0 hF hV hE
  go_enter Tryd.func16, Tryd.ntmps16
  cases ok with
  | true =>
    go_wp2_with (go_at_call 33; (with_reducible refine HG.out.mono ?_); rintro e w3 ⟨hb3, A3, n3, c3, r3, z1, z2, rfl, hr3⟩; have HZ3 := Lib.hid ((hb3.block _ (blk_lt HZ.out)).trans HZ.out); obtain ⟨⟨e0, e1, e2, e3⟩, f0, f1, f2, f3⟩ := four_cells HZ3.out; have hst := string_of_reads (P := Tryd.prog) (src := 57) (dst := 9) (e := 5) (c := c3) Tryd.underlying57 Tryd.underlying5 Tryd.underlying9 hr3)
    exact bodyPost_ret (results_ct rfl _ _ w.heap.size 39 #[.string ⟨#[]⟩, .string (strOfNums r3), .int .i64 z1, .int .i64 z2] (0, 0) _ rfl (four_set HZ3.out _ _ _ _) Tryd.underlying39 rfl rfl) rfl
      ⟨_, _, _, rfl, four_below (HB.out.trans (hb3.mono HB.out.size)) (Nat.le_refl _) _ _ _ _⟩
  | false =>
    go_wp2_with (go_at_call 33; (with_reducible refine HG.out.mono ?_); rintro e w3 ⟨hb3, z1, z2, tp, p, rfl⟩; have HZ3 := Lib.hid ((hb3.block _ (blk_lt HZ.out)).trans HZ.out); obtain ⟨⟨e0, e1, e2, e3⟩, f0, f1, f2, f3⟩ := four_cells HZ3.out)
    exact bodyPost_ret (results_ct rfl _ _ w.heap.size 39 #[.string ⟨#[]⟩, .string ⟨#[]⟩, .int .i64 0, .int .i64 0] (0, 0) _ rfl (four_set HZ3.out _ _ _ _) Tryd.underlying39 rfl rfl) rfl
      ⟨_, _, _, rfl, four_below (HB.out.trans (hb3.mono HB.out.size)) (Nat.le_refl _) _ _ _ _⟩
end Go.Proofs.YtgbliniamkpocaaDoor.Jp
/- impl.JpSearch and the law FnJpSearchMisses, walked by hand. -/
namespace Go.Proofs.YtgbliniamkpocaaDoor.Jp
open Go.RowKit Go.Proofs.YtgbliniamkpocaaDoorW.PrintWords Go.Proofs.YtgbliniamkpocaaDoor.Kit Go.Proofs.YtgbliniamkpocaaDoor.Pure Go.Proofs.YtgbliniamkpocaaDoor.PPl

theorem byte_rng (s : ByteArray) : ∀ x ∈ Kit.nums s, 0 ≤ x ∧ x ≤ 255 := by
  intro x hx
  unfold Kit.nums at hx
  obtain ⟨c, _, rfl⟩ := List.mem_map.1 hx
  have := UInt8.toNat_lt c
  omega
theorem errs_all {w : World} {l : List (String × DataW Unit)} (hp : (l.all fun x => x.2.handleName?.isNone) = true)
    (h2 : ("pub-tetrapla/pub/jsonparser.MalformedArrayError", Rows.laid_pub_tetrapla_pub_jsonparser_MalformedArrayError) ∈ l) (h5 : ("pub-tetrapla/pub/jsonparser.MalformedJsonError", Rows.laid_pub_tetrapla_pub_jsonparser_MalformedJsonError) ∈ l)
    (h8 : ("pub-tetrapla/pub/jsonparser.MalformedObjectError", Rows.laid_pub_tetrapla_pub_jsonparser_MalformedObjectError) ∈ l) (h9 : ("pub-tetrapla/pub/jsonparser.MalformedStringError", Rows.laid_pub_tetrapla_pub_jsonparser_MalformedStringError) ∈ l)
    (hL : laidMetH Tryd.prog l w) : Errs w := by
  rw [MakeChecks.laidMetH_plain _ _ _ hp] at hL
  exact ⟨iface_cell hL h2 (by kernel_rfl) (by kernel_rfl) Tryd.underlying59, iface_cell hL h5 (by kernel_rfl) (by kernel_rfl) Tryd.underlying59, iface_cell hL h8 (by kernel_rfl) (by kernel_rfl) Tryd.underlying59, iface_cell hL h9 (by kernel_rfl) (by kernel_rfl) Tryd.underlying59⟩
set_option maxHeartbeats 4000000 in
set_option maxRecDepth 100000 in
theorem skeys_c (ks : List ByteArray) (M : List Int) (z : Int) (hF : F60 ks M z) (A K : Option Addr) (c ck : Nat) (w : World) (hr : ReadsInt w .u8 A M.length M) (hc : M.length ≤ c) (hb : ∀ x ∈ M, 0 ≤ x ∧ x ≤ 255) (hl : M.length ≤ 140737488351232) (hK : KeysR w K ks) (hck : ks.length ≤ ck) (hE : Errs w) (hV : Vars w) :
    Calls Tryd.prog 46 #[.slice A M.length c, .slice K ks.length ck] w fun e w' => e = .returned (.int .i64 z) ∧ Below w.heap.size w w' := by
  have HF := Lib.hid (hF A K c ck w hr hc hb hl hK hck hE hV)
  obtain ⟨c0, c1, c2⟩ := hV.1
  unfold cfg at HF
  clear hF hr hb hK hE hV
  go_enter Tryd.func46, Tryd.ntmps46
  go_wp2_with (go_at_call 60; (with_reducible refine HF.out.mono ?_); rintro e w3 ⟨rfl, hb3⟩)
  go_ret
  exact ⟨rfl, hb3⟩
set_option maxHeartbeats 4000000 in
set_option maxRecDepth 100000 in
theorem search_c (s : ByteArray) (ks : List ByteArray) (z : Int) (hF : F60 ks (Kit.nums s) z) (K : Option Addr) (ck : Nat) (w : World) (hs : s.size ≤ 65536) (hK : KeysR w K ks) (hck : ks.length ≤ ck) (hE : Errs w) (hV : Vars w) :
    Calls Tryd.prog 14 #[.string s, .slice K ks.length ck] w fun e w' => e = .returned (.int .i64 z) ∧ Below w.heap.size w w' := by
  have H31 : Hid (Calls Tryd.prog 31 #[.string s, .slice K ks.length ck] w fun e w' => e = .returned (.int .i64 z) ∧ Below w.heap.size w w') := Lib.hid (by
    obtain ⟨cap, w1, hcv, hR', hcap, hb1⟩ := conv_pack w s
    have hR := hR' (by omega)
    have hl := Kit.nums_len s
    have HS := Lib.hid (skeys_c ks (Kit.nums s) z hF (some ⟨w.heap.size, 0, none⟩) K cap ck w1 (by rw [hl]; exact hR) (by rw [hl]; exact hcap) (byte_rng s) (by rw [hl]; omega) (hK.below hb1) hck (hE.below hb1) (hV.below hb1))
    rw [hl] at HS
    have HB := Lib.hid hb1
    clear hF hK hE hV hR' hR hcap hl hb1
    go_enter Tryd.func31, Tryd.ntmps31
    go_wp2_with (go_at_call 46; (with_reducible refine HS.out.mono ?_); rintro e w3 ⟨rfl, hb3⟩)
    go_ret
    exact ⟨rfl, below_step HB.out hb3⟩)
  clear hF hK hE hV
  go_enter Tryd.func14, Tryd.ntmps14
  go_wp2_with (go_at_call 31; (with_reducible refine H31.out.mono ?_); rintro e w3 ⟨rfl, hb3⟩)
  go_ret
  exact ⟨rfl, hb3⟩
theorem zf_all {ks : List ByteArray} (h : zf ks = true) : ∀ k ∈ ks, k.size ≤ 2147483647 := by
  unfold zf at h
  rw [Bool.and_eq_true] at h
  intro k hk
  have := List.all_eq_true.1 h.2 k hk
  simpa using this
set_option maxHeartbeats 8000000 in
set_option maxRecDepth 100000 in
theorem sm_main (s : ByteArray) (K : Option Addr) (ck : Nat) (ks : List ByteArray) (w : World) (hK : KeysR w K ks) (hck : ks.length ≤ ck) (hE : Errs w) (hV : Vars w) :
    Calls Tryd.prog 4 #[.string s, .slice K ks.length ck] w fun e w' => e = .returned (.bool true) ∧ Below w.heap.size w w' := by
  have HK := Lib.hid hK
  have HE := Lib.hid hE
  have HV := Lib.hid hV
  have HZ := Lib.hid (fun w1 (h : KeysR w1 K ks) => zf_c K ck ks w1 h)
  clear hK hE hV
  by_cases hs : (2147483647 : Int) < s.size
  · have d0 : decide ((2147483647 : Int) < s.size) = true := decide_eq_true hs
    clear hs
    go_enter Tryd.func4, Tryd.ntmps4
    go_wp2
    go_ret
    exact ⟨rfl, Below.refl _ _⟩
  have d0 : decide ((2147483647 : Int) < s.size) = false := decide_eq_false hs
  clear hs
  cases hz : zf ks with
  | false =>
    have HZ2 : Hid (∀ w1, KeysR w1 K ks → Calls Tryd.prog 12 #[.slice K ks.length ck] w1 fun e w' => e = .returned (.bool false) ∧ w' = w1) := Lib.hid (fun w1 h => by have := HZ.out w1 h; rw [hz] at this; exact this)
    clear HZ hz
    go_enter Tryd.func4, Tryd.ntmps4
    go_wp2_with (go_at_call 12; (with_reducible refine (HZ2.out _ HK.out).mono ?_); rintro e w3 ⟨rfl, rfl⟩)
    go_ret
    exact ⟨rfl, Below.refl _ _⟩
  | true =>
    have HZ2 : Hid (∀ w1, KeysR w1 K ks → Calls Tryd.prog 12 #[.slice K ks.length ck] w1 fun e w' => e = .returned (.bool true) ∧ w' = w1) := Lib.hid (fun w1 h => by have := HZ.out w1 h; rw [hz] at this; exact this)
    have HM := Lib.hid (misses_c s w K ck ks HK.out (zf_all hz) hck)
    clear HZ hz
    go_enter Tryd.func4, Tryd.ntmps4
    go_upto_region 3 with (go_at_call 12; (with_reducible refine (HZ2.out _ HK.out).mono ?_); rintro e w3 ⟨rfl, rfl⟩)
    go_wp2_with fail
    refine HM.out.mono ?_
    rintro e4 w4 (⟨n, rfl, ⟨p, hd, hs65, hms⟩, hb4⟩ | ⟨n, rfl, hb4⟩)
    · have HS := Lib.hid (search_c s ks (-1) (f60_c _ ks _ _ (Nat.le_refl _) (fnd_miss hd hms)) K ck w4 hs65 (HK.out.below hb4) hck (HE.out.below hb4) (HV.out.below hb4))
      have HB := Lib.hid hb4
      clear hd hms hb4 HM
      go_wp2_with (go_at_call 14; (with_reducible refine HS.out.mono ?_); rintro e w5 ⟨rfl, hb5⟩)
      go_ret
      exact ⟨rfl, below_step HB.out hb5⟩
    · have HB := Lib.hid hb4
      clear hb4 HM
      go_wp2
      go_ret
      exact ⟨rfl, HB.out⟩
theorem sm_walk (s : ByteArray) (K : Option Addr) (ck : Nat) (ks : List ByteArray) (w : World) (_hs : s.size ≤ 140737488351232) (hK : KeysR w K ks) (hck : ks.length ≤ ck) (hL : laidMetH Tryd.prog Rows.fnJpSearchMissesRow.laid w) :
    Calls Tryd.prog 4 #[.string s, .slice K ks.length ck] w fun e w' => e = .returned (.bool true) ∧ Below w.heap.size w w' :=
  sm_main s K ck ks w hK hck
    (errs_all (l := Rows.fnJpSearchMissesRow.laid) (by kernel_rfl) (by simp [Rows.fnJpSearchMissesRow]) (by simp [Rows.fnJpSearchMissesRow]) (by simp [Rows.fnJpSearchMissesRow]) (by simp [Rows.fnJpSearchMissesRow]) hL)
    (vars_of (l := Rows.fnJpSearchMissesRow.laid) (by kernel_rfl) (by simp [Rows.fnJpSearchMissesRow]) (by simp [Rows.fnJpSearchMissesRow]) (by simp [Rows.fnJpSearchMissesRow]) hL)
end Go.Proofs.YtgbliniamkpocaaDoor.Jp
/- jsonparser.Get with keys, over the search for them. -/
namespace Go.Proofs.YtgbliniamkpocaaDoor.Jp
open Go.RowKit Go.Proofs.YtgbliniamkpocaaDoorW.PrintWords Go.Proofs.YtgbliniamkpocaaDoor.Kit Go.Proofs.YtgbliniamkpocaaDoor.Pure Go.Proofs.YtgbliniamkpocaaDoor.PPl

set_option maxHeartbeats 8000000 in
set_option maxRecDepth 100000 in
theorem ig_k0 (A K : Option Addr) (c ck : Nat) (l : List Int) (w : World) (hr : ReadsInt w .u8 A l.length l) (hlc : l.length ≤ c) (hlm : l.length ≤ 140737488355328) (hE : Errs w) (q e : Nat) (k : Int)
    (hbl : bl l 0 = q) (hb : q < l.length) (hk : (k = 1 ∧ q + 2 ≤ e) ∨ (k ≠ 1 ∧ q < e)) (hel : e ≤ l.length)
    (hG : ∀ W : World, ReadsInt W .u8 A l.length l → Errs W → Calls Tryd.prog 85 #[cfg, .slice A l.length c, .int .i64 (q : Int)] W fun e' w' => GtPost W c l q k (some e) e' w') :
    Calls Tryd.prog 68 #[cfg, .slice A l.length c, .slice K 0 ck] w fun e' w' => IgV w l k q e e' w' := by
  have hll : l.length ≤ 9223372036854775807 := hr.2.1
  have hlb : (l.length : Int) ≤ 140737488355328 := by omega
  have hba : Below w.heap.size w (w.alloc (.cells #[.bool false, .bool false, .int .i64 0] 80)) := (Below.refl _ _).alloc (Nat.le_refl _) _
  have hcf := CfgAt.box w
  obtain ⟨c0, c1, c2⟩ := hcf
  have hNT : Hid (∀ W : World, ReadsInt W .u8 A l.length l → Calls Tryd.prog 70 #[cfg, .slice A l.length c] W fun e w' => e = .returned (.int .i64 (q : Int)) ∧ Below W.heap.size W w') :=
    Lib.hid (fun W hW => (nt_c A c l W hW (by omega) (by omega)).mono (fun e w' h => ⟨h.1.trans (by rw [nt, if_pos (by omega), show bl l 0 = q by omega]), h.2⟩))
  have HG := Lib.hid hG
  have HE := Lib.hid (And.intro (hr.below hba) (And.intro hba (hE.below hba)))
  have heq : ((q : Int) == -1) = false := by simp
  unfold cfg at hNT HG ⊢
  clear hE hr hba hG hbl
  go_enter Tryd.func68, Tryd.ntmps68
  go_upto_region 5 with (fail)
  obtain ⟨w1, hw1⟩ : ∃ w1, w1 = w.alloc (.cells #[.bool false, .bool false, .int .i64 0] 80) := ⟨_, rfl⟩
  rw [← hw1] at HE c0 c1 c2 ⊢
  clear hw1
  have hb1 : Below w1.heap.size w1 w1 := Below.refl _ _
  obtain ⟨b0, b1, b2⟩ : CfgAt w.heap.size w1 := ⟨c0, c1, c2⟩
  have kpd : KpI A l w w1.drew := ⟨HE.out.1.below hb1.drew, HE.out.2.1.trans (hb1.drew.mono HE.out.2.1.size), HE.out.2.2.below hb1.drew⟩
  have hrd : ReadsInt w1.drew .u8 A l.length l := HE.out.1.below hb1.drew
  clear c0 c1 c2 hb1
  go_region_held3 (fun w' => w'.cell? ⟨w.heap.size, 0, none⟩ = some (.bool false) ∧ w'.cell? ⟨w.heap.size, 1, none⟩ = some (.bool false) ∧ w'.cell? ⟨w.heap.size, 2, none⟩ = some (.int .i64 0) ∧ KpI A l w w')
    (first | exact ⟨b0, b1, b2, kpd⟩ | exact ⟨d0, d1, d2, kp2⟩)
    (first | (go_at_call 70; (with_reducible refine (hNT.out _ hrd).mono ?_); rintro e2 w2 ⟨rfl, hb2⟩; obtain ⟨d0, d1, d2, kp2⟩ := ig_step (w := w) (w1 := w1.drew) ⟨b0, b1, b2⟩ kpd hb2))
  have HK := Lib.hid kp2
  clear b0 b1 b2 kp2 kpd hrd hNT hb2
  have HG2 := Lib.hid (HG.out w2 HK.out.1 HK.out.2.2)
  clear HG
  rcases hk with ⟨rfl, hk1⟩ | ⟨hk1, hk2⟩
  · go_wp2_with (go_at_call 85; (with_reducible refine HG2.out.mono ?_); rintro e3 w3 ⟨hb3, A3, rfl, hr3⟩; have HR3 := Lib.hid hr3; clear hr3)
    all_goals (
      ((try simp only [Exit.inBlock, Exit.then]); refine bodyPost_ret (res5 rfl _ _ _) rfl ?_)
      refine ⟨HK.out.2.1.trans (hb3.mono HK.out.2.1.size), ?_⟩
      rw [if_pos rfl]
      have hr1 := HR3.out.drop_ (c := e - q + 1) 1 (by omega) (by omega)
      rw [if_neg (show ¬ e - q + 1 = 1 by omega)] at hr1
      have hr2 := hr1.take_ (e - q - 1 - 1) (by omega))
    · have h0 : e - q - 1 - 1 = 0 := by omega
      rw [h0]
      exact ⟨_, 0, 0, by push_cast; rfl, ⟨rfl, by simp, fun h => by omega⟩⟩
    · exact ⟨_, _, _, by push_cast; rfl, hr2⟩
  · have ek : (k == 1) = false := by simpa using hk1
    go_wp2_with (go_at_call 85; (with_reducible refine HG2.out.mono ?_); rintro e3 w3 ⟨hb3, A3, rfl, hr3⟩; have HR3 := Lib.hid hr3; clear hr3)
    all_goals (
      ((try simp only [Exit.inBlock, Exit.then]); refine bodyPost_ret (res5 rfl _ _ _) rfl ?_)
      refine ⟨HK.out.2.1.trans (hb3.mono HK.out.2.1.size), ?_⟩
      rw [if_neg hk1]
      exact ⟨_, _, _, by push_cast; rfl, HR3.out⟩)
/-- The text of the value of kind k from b to e. -/
def rawL (l : List Int) (k : Int) (b e : Nat) : List Int := if k = 1 then (((l.take e).drop b).drop 1).take (e - b - 1 - 1) else (l.take e).drop b
/-- The value to which keys lead, from place b to e, found from place z on. -/
structure At (l : List Int) (ks : List ByteArray) (z b e : Nat) (q : S35) : Prop where
  zl : z ≤ l.length
  bl : bl l z = b
  v : ∃ n, val l n b = some (q, e)
  ed : e = l.length ∨ isDl (gb l e)
  nil : ks = [] → z = 0
  F : F60 ks l z
set_option maxHeartbeats 4000000 in
theorem igk_c {l : List Int} {ks : List ByteArray} {z b e : Nat} {q : S35} (h : At l ks z b e q) (A K : Option Addr) (c ck : Nat) (w : World) (hr : ReadsInt w .u8 A l.length l) (hlc : l.length ≤ c) (hb : ∀ x ∈ l, 0 ≤ x ∧ x ≤ 255) (hlm : l.length ≤ 140737488351232) (hK : KeysR w K ks) (hck : ks.length ≤ ck) (hE : Errs w) (hV : Vars w) :
    Calls Tryd.prog 68 #[cfg, .slice A l.length c, .slice K ks.length ck] w (IgV w l (jk q.f0) b e) := by
  obtain ⟨n, hv⟩ := h.v
  have hzb := bl_le l z h.zl
  rw [h.bl] at hzb
  obtain ⟨hg, _, _, hbe, hel⟩ := val_gtv hv hzb.2 h.ed
  have hkk : (jk q.f0 = 1 ∧ b + 2 ≤ e) ∨ (jk q.f0 ≠ 1 ∧ b < e) := by
    by_cases h1 : jk q.f0 = 1
    · exact .inl ⟨h1, val_str hv h1⟩
    · exact .inr ⟨h1, hbe⟩
  have hG : ∀ W : World, ReadsInt W .u8 A l.length l → Errs W → Calls Tryd.prog 85 #[cfg, .slice A l.length c, .int .i64 (b : Int)] W fun e' w' => GtPost W c l b (jk q.f0) (some e) e' w' := fun W hW hEW => gt_all A c l b W hW hlc hb (by omega) (by omega) hEW (jk q.f0) e hg
  have hba : Below w.heap.size w (w.alloc (.cells #[.bool false, .bool false, .int .i64 0] 80)) := (Below.refl _ _).alloc (Nat.le_refl _) _
  by_cases h0 : ks.length = 0
  · have hk0 : ks = [] := List.eq_nil_of_length_eq_zero h0
    have hz0 := h.nil hk0
    rw [h0]
    exact ig_k0 A K c ck l w hr hlc (by omega) hE b e (jk q.f0) (by rw [← h.bl, hz0]) (by omega) hkk hel hG
  · obtain ⟨d, hd⟩ : ∃ d, b = z + d := ⟨b - z, by omega⟩
    subst hd
    exact ig_kat A K c ks.length ck l w (by omega) hr hlc (by omega) hE z d e (jk q.f0) h.zl h.bl (by omega) hkk hel
      (h.F A K c ck _ (hr.below hba) hlc hb hlm (hK.below hba) hck (hE.below hba) (hV.below hba)) (fun W hW hEW => hG W hW hEW)
set_option maxHeartbeats 8000000 in
set_option maxRecDepth 100000 in
theorem igetk_c (A K : Option Addr) (n c nk ck : Nat) (w : World) (l : List Int) (k : Int) (b e0 : Nat) (hV : Cfg0 w) (hG : Calls Tryd.prog 68 #[cfg, .slice A n c, .slice K nk ck] w (IgV w l k b e0)) :
    Calls Tryd.prog 49 #[.slice A n c, .slice K nk ck] w (IgV w l k b e0) := by
  obtain ⟨c0, c1, c2⟩ := hV
  unfold cfg at hG
  have HG := Lib.hid hG
  clear hG
  go_enter Tryd.func49, Tryd.ntmps49
  go_wp2_with (go_at_call 68; (with_reducible refine HG.out.mono ?_); rintro e w3 ⟨hb3, A3, n3, c3, rfl, hr3⟩; have HR3 := Lib.hid hr3; clear hr3)
  ((try simp only [Exit.inBlock, Exit.then]); refine bodyPost_ret (res5 rfl _ _ _) rfl ?_)
  exact ⟨hb3, A3, n3, c3, rfl, HR3.out⟩
/-- What Get hands back. -/
def GeV (w : World) (l : List Int) (k : Int) (b e : Nat) (e' : Ending) (w' : World) : Prop :=
  Below w.heap.size w w' ∧ ∃ A' n c', e' = .returned (.tuple #[.slice A' n c', .int .i64 k, .int .i64 e, .nilIface]) ∧ ReadsInt w' .u8 A' n (rawL l k b e)
set_option maxHeartbeats 8000000 in
set_option maxRecDepth 100000 in
theorem getk_c (A K : Option Addr) (n c nk ck : Nat) (w : World) (l : List Int) (k : Int) (b e0 : Nat) (hG : Calls Tryd.prog 49 #[.slice A n c, .slice K nk ck] w (IgV w l k b e0)) :
    Calls Tryd.prog 33 #[.slice A n c, .slice K nk ck] w (GeV w l k b e0) := by
  have HG := Lib.hid hG
  clear hG
  go_enter Tryd.func33, Tryd.ntmps33
  go_wp2_with (go_at_call 49; (with_reducible refine HG.out.mono ?_); rintro e w3 ⟨hb3, A3, n3, c3, rfl, hr3⟩; have HR3 := Lib.hid hr3; clear hr3)
  ((try simp only [Exit.inBlock, Exit.then]); refine bodyPost_ret (res4 rfl _ _ _) rfl ?_)
  exact ⟨hb3, A3, n3, c3, rfl, HR3.out⟩
/-- What impl.JpGet hands back of a value. -/
def JgV (s : ByteArray) (w : World) (k : Int) (b e : Nat) (e' : Ending) (w' : World) : Prop :=
  e' = .returned (.tuple #[.agg #[.string ⟨#[]⟩, .string (strOfNums (rawL (Kit.nums s) k b e)), .int .i64 k, .int .i64 e], .bool true]) ∧ Below w.heap.size w w'
set_option maxHeartbeats 8000000 in
set_option maxRecDepth 100000 in
theorem jpgetk_c {s : ByteArray} {ks : List ByteArray} {z b ee : Nat} {q : S35} (h : At (Kit.nums s) ks z b ee q) (hs : s.size ≤ 65536) (K : Option Addr) (ck : Nat) (w : World) (hK : KeysR w K ks) (hck : ks.length ≤ ck) (hE : Errs w) (hV : Vars w) :
    Calls Tryd.prog 16 #[.string s, .slice K ks.length ck] w (JgV s w (jk q.f0) b ee) := by
  have hb0 : Below w.heap.size w (w.alloc (.cells #[.string ⟨#[]⟩, .string ⟨#[]⟩, .int .i64 0, .int .i64 0] 39)) := (Below.refl _ _).alloc (Nat.le_refl _) _
  have hz : (w.alloc (.cells #[.string ⟨#[]⟩, .string ⟨#[]⟩, .int .i64 0, .int .i64 0] 39)).heap[w.heap.size]? = some (.cells #[.string ⟨#[]⟩, .string ⟨#[]⟩, .int .i64 0, .int .i64 0] 39 (0, 0)) := heap_alloc_new w _
  have hsz : (w.alloc (.cells #[.string ⟨#[]⟩, .string ⟨#[]⟩, .int .i64 0, .int .i64 0] 39)).heap.size = w.heap.size + 1 := by simp
  obtain ⟨cap, w1, hcv, hR', hcap, hb1⟩ := conv_pack (w.alloc (.cells #[.string ⟨#[]⟩, .string ⟨#[]⟩, .int .i64 0, .int .i64 0] 39)) s
  have hR := hR' (by omega)
  have hlen := Kit.nums_len s
  have hbw : Below w.heap.size w w1 := hb0.trans (hb1.mono (by omega))
  have hz1 : w1.heap[w.heap.size]? = some (.cells #[.string ⟨#[]⟩, .string ⟨#[]⟩, .int .i64 0, .int .i64 0] 39 (0, 0)) := (hb1.block _ (by omega)).trans hz
  have hG := getk_c _ K _ cap _ ck w1 _ _ _ _ (igetk_c _ K _ cap _ ck w1 _ _ _ _ (hV.below hbw).1 (igk_c h (some ⟨(w.alloc (.cells #[.string ⟨#[]⟩, .string ⟨#[]⟩, .int .i64 0, .int .i64 0] 39)).heap.size, 0, none⟩) K cap ck w1 (by rw [hlen]; exact hR) (by omega) (byte_rng s) (by omega) (hK.below hbw) hck (hE.below hbw) (hV.below hbw)))
  rw [hlen, hsz] at hG
  rw [hsz] at hcv
  obtain ⟨k, hk⟩ : ∃ k, jk q.f0 = k := ⟨_, rfl⟩
  rw [hk] at hG ⊢
  obtain ⟨r, hr⟩ : ∃ r, rawL (Kit.nums s) k b ee = r := ⟨_, rfl⟩
  unfold GeV at hG
  unfold JgV
  rw [hr] at hG ⊢
  have HG := Lib.hid hG
  have HB := Lib.hid hbw
  have HZ := Lib.hid hz1
  clear hG hbw hz1 hR hR' hcap hb1 hlen hsz hz hb0 hV hE hK h hk hr
  go_enter Tryd.func16, Tryd.ntmps16
  go_wp2_with (go_at_call 33; (with_reducible refine HG.out.mono ?_); rintro e w3 ⟨hb3, A3, n3, c3, rfl, r3⟩; have HZ3 := Lib.hid ((hb3.block _ (blk_lt HZ.out)).trans HZ.out); obtain ⟨⟨e0, e1, e2, e3⟩, f0, f1, f2, f3⟩ := four_cells HZ3.out; have hst := string_of_reads (P := Tryd.prog) (src := 57) (dst := 9) (e := 5) (c := c3) Tryd.underlying57 Tryd.underlying5 Tryd.underlying9 r3; clear r3)
  exact bodyPost_ret (results_ct rfl _ _ w.heap.size 39 #[.string ⟨#[]⟩, .string (strOfNums r), .int .i64 k, .int .i64 ee] (0, 0) _ rfl (four_set HZ3.out _ _ _ _) Tryd.underlying39 rfl rfl) rfl
    ⟨rfl, four_below (HB.out.trans (hb3.mono HB.out.size)) (Nat.le_refl _) _ _ _ _⟩
end Go.Proofs.YtgbliniamkpocaaDoor.Jp
