/- Texts of this claim, laid together. -/
import Derived.Test.YtgbliniamkpocaaDoorG19
import Derived.Test.YtgbliniamkpocaaDoorG20
import Derived.SizedLaws
import Derived.ChangeSlices
/- impl.JpSet and the law FnJpSetCommute, walked by hand. -/
namespace Go.Proofs.YtgbliniamkpocaaDoor.Jp
open Go.RowKit Go.Proofs.YtgbliniamkpocaaDoorW.PrintWords Go.Proofs.YtgbliniamkpocaaDoor.Kit Go.Proofs.YtgbliniamkpocaaDoor.Pure Go.Proofs.YtgbliniamkpocaaDoor.PPl

set_option maxHeartbeats 8000000 in
set_option maxRecDepth 100000 in
theorem setg_c (A B K : Option Addr) (n c m cB nk ck : Nat) (w : World) (R : List Int) (hV : Cfg0 w) (hG : Calls Tryd.prog 55 #[cfg, .slice A n c, .slice B m cB, .slice K nk ck] w (SetV w R)) :
    Calls Tryd.prog 38 #[.slice A n c, .slice B m cB, .slice K nk ck] w (SetV w R) := by
  obtain ⟨c0, c1, c2⟩ := hV
  unfold cfg at hG
  have HG := Lib.hid hG
  clear hG
  go_enter Tryd.func38, Tryd.ntmps38
  go_wp2_with (go_at_call 55; (with_reducible refine HG.out.mono ?_); rintro e w3 ⟨hb3, A3, c3, rfl, hr3, hc3⟩; have HR3 := Lib.hid hr3; clear hr3)
  go_ret2
  exact ⟨hb3, A3, c3, rfl, HR3.out, hc3⟩
theorem At.ends {L : List Int} {ks : List ByteArray} {z b e : Nat} {q : S35} (h : At L ks z b e q) : b < e ∧ e ≤ L.length := by
  obtain ⟨n, hv⟩ := h.v
  have hzb := bl_le L z h.zl
  rw [h.bl] at hzb
  exact (v_lt n).1 _ _ _ hzb.2 hv
set_option maxHeartbeats 8000000 in
set_option maxRecDepth 100000 in
theorem jpset_c {s v : ByteArray} {ks : List ByteArray} {z b e : Nat} {q : S35} (h : At (Kit.nums s) ks z b e q) (hne : 0 < ks.length) (hs : s.size ≤ 1000000) (hv : v.size ≤ 1000000) (K : Option Addr) (ck : Nat) (w : World) (hK : KeysR w K ks) (hck : ks.length ≤ ck) (hE : Errs w) (hV : Vars w) :
    Calls Tryd.prog 23 #[.string s, .string v, .slice K ks.length ck] w fun e' w' => e' = .returned (.tuple #[.string (strOfNums (rep (Kit.nums s) b e (Kit.nums v))), .bool true]) ∧ Below w.heap.size w w' := by
  obtain ⟨cap, w1, hcv, hR', hcap, hb1⟩ := conv_pack w s
  obtain ⟨cap2, w2, hcv2, hR2', hcap2, hb2⟩ := conv_pack w1 v
  have hR := (hR' (by omega)).below hb2
  have hR2 := hR2' (by omega)
  have hlen := Kit.nums_len s
  have hlen2 := Kit.nums_len v
  have hbw : Below w.heap.size w w2 := hb1.trans (hb2.mono hb1.size)
  have hba : Below w2.heap.size w2 (w2.alloc (.cells #[.bool false, .bool false, .int .i64 0] 80)) := (Below.refl _ _).alloc (Nat.le_refl _) _
  have hbx : Below w.heap.size w (w2.alloc (.cells #[.bool false, .bool false, .int .i64 0] 80)) := hbw.trans (hba.mono hbw.size)
  have hbe := h.ends
  have hG := setg_c _ _ K _ cap _ cap2 ks.length ck w2 _ (hV.below hbw).1 (setc_c (L := Kit.nums s) (F := Kit.nums v) (k := jk q.f0) (by omega) hbe.2 (some ⟨w.heap.size, 0, none⟩) (some ⟨w1.heap.size, 0, none⟩) K cap cap2 ks.length ck w2 hne hK.2.1 (by rw [hlen]; exact hR) (by omega) (by omega) (by rw [hlen2]; exact hR2) (by omega) (by omega)
    (igk_c h (some ⟨w.heap.size, 0, none⟩) K cap ck _ (by rw [hlen]; exact hR.below hba) (by omega) (byte_rng s) (by omega) (hK.below hbx) hck (hE.below hbx) (hV.below hbx)))
  rw [hlen, hlen2] at hG
  obtain ⟨R, hRR⟩ : ∃ R, rep (Kit.nums s) b e (Kit.nums v) = R := ⟨_, rfl⟩
  rw [hRR] at hG ⊢
  unfold SetV at hG
  have HG := Lib.hid hG
  have HB := Lib.hid hbw
  clear hG hbw hR hR2 hR' hR2' hcap hcap2 hb1 hb2 hlen hlen2 hV hE hK h hRR hba hbx hbe
  go_enter Tryd.func23, Tryd.ntmps23
  go_wp2_with (go_at_call 38; (with_reducible refine HG.out.mono ?_); rintro e w3 ⟨hb3, A3, c3, rfl, r3, hc3⟩; have HB3 := Lib.hid hb3; have hst := string_of_reads (P := Tryd.prog) (src := 57) (dst := 9) (e := 5) (c := c3) Tryd.underlying57 Tryd.underlying5 Tryd.underlying9 r3; clear r3 hb3)
  go_ret2
  exact ⟨rfl, HB.out.trans (HB3.out.mono HB.out.size)⟩
/-- What jpFound tells, whichever way. -/
def Fo2 (s : ByteArray) (ks : List ByteArray) (w : World) (e : Ending) (w' : World) : Prop :=
  ∃ (a b c : Int) (A3 A4 : Option Addr) (n3 c3 n4 c4 : Nat) (ok : Bool), e = .returned (.tuple #[.agg #[.int .i64 a, .int .i64 b, .int .i64 c, .slice A3 n3 c3, .slice A4 n4 c4], .bool ok]) ∧ Below w.heap.size w w' ∧
    (ok = true → ∃ p q, Doc (Kit.nums s) p ∧ s.size ≤ 65536 ∧ Wy (Kit.nums s) p (ks.map Kit.nums) q)
theorem fo2 {s : ByteArray} {ks : List ByteArray} {w : World} {e : Ending} {w' : World} (h : FoP s ks w e w') : Fo2 s ks w e w' := by
  rcases h with ⟨p, q, A3, A4, c3, c4, rfl, ⟨hd, hs65, ⟨_, hW⟩, _⟩, _, hb⟩ | ⟨rfl, hb⟩
  · exact ⟨_, _, _, _, _, _, _, _, _, _, rfl, hb, fun _ => ⟨p, q, hd, hs65, hW⟩⟩
  · exact ⟨_, _, _, _, _, _, _, _, _, _, rfl, hb, fun h => by cases h⟩
/-- What jpPlaces tells, whichever way. -/
def Pl2 (s : ByteArray) (w : World) (e : Ending) (w' : World) : Prop :=
  ∃ (a b c : Int) (A3 A4 : Option Addr) (n3 c3 n4 c4 : Nat) (ok : Bool), e = .returned (.tuple #[.agg #[.int .i64 a, .int .i64 b, .int .i64 c, .slice A3 n3 c3, .slice A4 n4 c4], .bool ok]) ∧ Below w.heap.size w w' ∧ (ok = true → ∃ p, Doc (Kit.nums s) p ∧ s.size ≤ 65536)
theorem pl2 {s : ByteArray} {w : World} {e : Ending} {w' : World} (h : JplP s w e w') : Pl2 s w e w' := by
  rcases h with ⟨p, A3, A4, c3, c4, rfl, hd, hs65, _, hb⟩ | ⟨rfl, hb⟩
  · exact ⟨_, _, _, _, _, _, _, _, _, _, rfl, hb, fun _ => ⟨p, hd, hs65⟩⟩
  · exact ⟨_, _, _, _, _, _, _, _, _, _, rfl, hb, fun h => by cases h⟩
/-! ### The plain law -/
theorem doc_uniq {L : List Int} {p p2 : S35} (h : Doc L p) (h2 : Doc L p2) : p = p2 := by
  obtain ⟨n, e, hv, _⟩ := h
  obtain ⟨n2, e2, hv2, _⟩ := h2
  have a := val_up hv (Nat.le_max_left n n2)
  have b := val_up hv2 (Nat.le_max_right n n2)
  rw [a] at b
  injection b with b
  exact congrArg Prod.fst b
theorem doc_gd {L : List Int} {p : S35} (h : Doc L p) : Gd L p := by
  obtain ⟨n, e, h, _⟩ := h
  exact ⟨n, _, e, h, (bl_le _ 0 (Nat.zero_le _)).2⟩
theorem comm_eq {L F S : List Int} {b1 e1 b2 e2 b1' e1' b2' e2' : Nat} {q q2 q1' q2' : S35} (h1 : b1 < e1) (h2 : b2 < e2) (l1 : e1 ≤ L.length) (l2 : e2 ≤ L.length)
    (ps2 : Ps b1 e1 (b1 + F.length) q2 q2') (ps1 : Ps b2 e2 (b2 + S.length) q q1') (k1 : q.f1 = (b1 : Int)) (k2 : q.f2 = (e1 : Int)) (k3 : q2.f1 = (b2 : Int)) (k4 : q2.f2 = (e2 : Int))
    (m1 : q1'.f1 = (b1' : Int)) (m2 : q1'.f2 = (e1' : Int)) (m3 : q2'.f1 = (b2' : Int)) (m4 : q2'.f2 = (e2' : Int)) : rep (rep L b1 e1 F) b2' e2' S = rep (rep L b2 e2 S) b1' e1' F := by
  rcases ps2.2 with ⟨x1, x2, x3⟩ | ⟨x1, x2, x3⟩
  · rcases ps1.2 with ⟨y1, y2, y3⟩ | ⟨y1, y2, y3⟩
    · omega
    · obtain rfl : b2' = b2 := by omega
      obtain rfl : e2' = e2 := by omega
      obtain rfl : b1' = b1 - e2' + (b2' + S.length) := by omega
      obtain rfl : e1' = e1 - e2' + (b2' + S.length) := by omega
      exact (rep_two (by omega) (by omega) (by omega) l1).symm
  · rcases ps1.2 with ⟨y1, y2, y3⟩ | ⟨y1, y2, y3⟩
    · obtain rfl : b1' = b1 := by omega
      obtain rfl : e1' = e1 := by omega
      obtain rfl : b2' = b2 - e1' + (b1' + F.length) := by omega
      obtain rfl : e2' = e2 - e1' + (b1' + F.length) := by omega
      exact rep_two (by omega) (by omega) (by omega) l2
    · omega
theorem rep_rng {s v : ByteArray} {b e : Nat} : ∀ x ∈ rep (Kit.nums s) b e (Kit.nums v), 0 ≤ x ∧ x ≤ 255 := by
  intro x hx
  unfold rep at hx
  rw [List.mem_append, List.mem_append] at hx
  rcases hx with (hx | hx) | hx
  · exact byte_rng s x (List.mem_of_mem_take hx)
  · exact byte_rng v x hx
  · exact byte_rng s x (List.mem_of_mem_drop hx)
theorem rep_nums {s v : ByteArray} {b e : Nat} : Kit.nums (strOfNums (rep (Kit.nums s) b e (Kit.nums v))) = rep (Kit.nums s) b e (Kit.nums v) := nums_str rep_rng
/-- The four calls of Set. -/
theorem four_sets {s f g : ByteArray} {ks other : List ByteArray} {p q p2 q2 pf pg : S35} (hd : Doc (Kit.nums s) p) (hW : Wy (Kit.nums s) p (ks.map Kit.nums) q) (hd2 : Doc (Kit.nums s) p2) (hW2 : Wy (Kit.nums s) p2 (other.map Kit.nums) q2) (hs : s.size ≤ 65536)
    (hf : Doc (Kit.nums f) pf) (hg : Doc (Kit.nums g) pg) (hfs : f.size ≤ 65536) (hgs : g.size ≤ 65536) (hp : prt (ks.map Kit.nums) (other.map Kit.nums) = true) :
    ∃ x y r : ByteArray,
      (∀ (K : Option Addr) (ck : Nat) (w : World), KeysR w K ks → ks.length ≤ ck → Errs w → Vars w → Calls Tryd.prog 23 #[.string s, .string f, .slice K ks.length ck] w fun e' w' => e' = .returned (.tuple #[.string x, .bool true]) ∧ Below w.heap.size w w') ∧
      (∀ (K : Option Addr) (ck : Nat) (w : World), KeysR w K other → other.length ≤ ck → Errs w → Vars w → Calls Tryd.prog 23 #[.string x, .string g, .slice K other.length ck] w fun e' w' => e' = .returned (.tuple #[.string r, .bool true]) ∧ Below w.heap.size w w') ∧
      (∀ (K : Option Addr) (ck : Nat) (w : World), KeysR w K other → other.length ≤ ck → Errs w → Vars w → Calls Tryd.prog 23 #[.string s, .string g, .slice K other.length ck] w fun e' w' => e' = .returned (.tuple #[.string y, .bool true]) ∧ Below w.heap.size w w') ∧
      (∀ (K : Option Addr) (ck : Nat) (w : World), KeysR w K ks → ks.length ≤ ck → Errs w → Vars w → Calls Tryd.prog 23 #[.string y, .string f, .slice K ks.length ck] w fun e' w' => e' = .returned (.tuple #[.string r, .bool true]) ∧ Below w.heap.size w w') := by
  obtain rfl := doc_uniq hd hd2
  have hl : (Kit.nums s).length < 288230376151711744 := by rw [nums_len]; omega
  have hgd := doc_gd hd
  have hne : 0 < ks.length := by
    have := prt_ne hp
    cases ks with
    | nil => exact absurd rfl this
    | cons => simp
  have hne2 : 0 < other.length := by
    have := prt_ne ((prt_sym _ _).trans hp)
    cases other with
    | nil => exact absurd rfl this
    | cons => simp
  have hP := pt_of hl _ _ p q q2 hgd hW hW2 hp
  have hP2 := pt_of hl _ _ p q2 q hgd hW2 hW ((prt_sym _ _).trans hp)
  obtain ⟨z1, b1, e1, A1, k1, k2⟩ := at_of hd (Wy.ld hl _ _ _ hgd hW)
  obtain ⟨z2, b2, e2, A2, k3, k4⟩ := at_of hd (Wy.ld hl _ _ _ hgd hW2)
  obtain ⟨p3, q3, hd3, hL3, ps3⟩ := doc_edit hd hP k1 k2 hf
  obtain ⟨p4, q4, hd4, hL4, ps4⟩ := doc_edit hd hP2 k3 k4 hg
  obtain ⟨z3, b3, e3, A3, k5, k6⟩ := at_of hd3 hL3
  obtain ⟨z4, b4, e4, A4, k7, k8⟩ := at_of hd4 hL4
  have hE := comm_eq A1.ends.1 A2.ends.1 A1.ends.2 A2.ends.2 ps3 ps4 k1 k2 k3 k4 k7 k8 k5 k6
  have hsz1 : (strOfNums (rep (Kit.nums s) b1 e1 (Kit.nums f))).size ≤ 1000000 := by
    have := A1.ends
    have hn := nums_len s
    rw [← nums_len (strOfNums _), rep_nums, rep_len (by omega) this.2, nums_len, nums_len]
    omega
  have hsz2 : (strOfNums (rep (Kit.nums s) b2 e2 (Kit.nums g))).size ≤ 1000000 := by
    have := A2.ends
    have hn := nums_len s
    rw [← nums_len (strOfNums _), rep_nums, rep_len (by omega) this.2, nums_len, nums_len]
    omega
  refine ⟨strOfNums (rep (Kit.nums s) b1 e1 (Kit.nums f)), strOfNums (rep (Kit.nums s) b2 e2 (Kit.nums g)), strOfNums (rep (rep (Kit.nums s) b1 e1 (Kit.nums f)) b3 e3 (Kit.nums g)), fun K ck w hK hck hE hV => ?_, fun K ck w hK hck hE hV => ?_, fun K ck w hK hck hE hV => ?_, fun K ck w hK hck hE2 hV => ?_⟩
  · exact jpset_c A1 hne (by omega) (by omega) K ck w hK hck hE hV
  · have := jpset_c (s := strOfNums (rep (Kit.nums s) b1 e1 (Kit.nums f))) (v := g) (ks := other) (by rw [rep_nums]; exact A3) hne2 hsz1 (by omega) K ck w hK hck hE hV
    rw [rep_nums] at this
    exact this
  · exact jpset_c A2 hne2 (by omega) (by omega) K ck w hK hck hE hV
  · have := jpset_c (s := strOfNums (rep (Kit.nums s) b2 e2 (Kit.nums g))) (v := f) (ks := ks) (by rw [rep_nums]; exact A4) hne hsz2 (by omega) K ck w hK hck hE2 hV
    rw [rep_nums, ← hE] at this
    exact this
end Go.Proofs.YtgbliniamkpocaaDoor.Jp
/- The law FnJpSetCommute's walk. -/
namespace Go.Proofs.YtgbliniamkpocaaDoor.Jp
open Go.RowKit Go.Proofs.YtgbliniamkpocaaDoorW.PrintWords Go.Proofs.YtgbliniamkpocaaDoor.Kit Go.Proofs.YtgbliniamkpocaaDoor.Pure Go.Proofs.YtgbliniamkpocaaDoor.PPl

set_option maxHeartbeats 16000000 in
set_option maxRecDepth 100000 in
theorem sc_main (s f g : ByteArray) (K K2 : Option Addr) (ck ck2 : Nat) (ks other : List ByteArray) (w : World) (hK : KeysR w K ks) (hck : ks.length ≤ ck) (hK2 : KeysR w K2 other) (hck2 : other.length ≤ ck2) (hE : Errs w) (hV : Vars w) :
    Calls Tryd.prog 8 #[.string s, .string f, .string g, .slice K ks.length ck, .slice K2 other.length ck2] w fun e w' => e = .returned (.bool true) ∧ Below w.heap.size w w' := by
  have HK := Lib.hid hK
  have HK2 := Lib.hid hK2
  have HE := Lib.hid hE
  have HV := Lib.hid hV
  have HCk := Lib.hid hck
  have HCk2 := Lib.hid hck2
  have HZ := Lib.hid (fun w1 (h : KeysR w1 K ks) => zf_c K ck ks w1 h)
  have HZ2 := Lib.hid (fun w1 (h : KeysR w1 K2 other) => zf_c K2 ck2 other w1 h)
  clear hK hK2 hE hV hck hck2
  by_cases hs : (2147483647 : Int) < s.size
  · have d0 : decide ((2147483647 : Int) < s.size) = true := decide_eq_true hs
    clear hs
    go_enter Tryd.func8, Tryd.ntmps8
    go_wp2
    go_ret
    exact ⟨rfl, Below.refl _ _⟩
  have d0 : decide ((2147483647 : Int) < s.size) = false := decide_eq_false hs
  clear hs
  by_cases hf : (2147483647 : Int) < f.size
  · have d1 : decide ((2147483647 : Int) < f.size) = true := decide_eq_true hf
    clear hf
    go_enter Tryd.func8, Tryd.ntmps8
    go_wp2
    go_ret
    exact ⟨rfl, Below.refl _ _⟩
  have d1 : decide ((2147483647 : Int) < f.size) = false := decide_eq_false hf
  clear hf
  by_cases hg : (2147483647 : Int) < g.size
  · have d2 : decide ((2147483647 : Int) < g.size) = true := decide_eq_true hg
    clear hg
    go_enter Tryd.func8, Tryd.ntmps8
    go_wp2
    go_ret
    exact ⟨rfl, Below.refl _ _⟩
  have d2 : decide ((2147483647 : Int) < g.size) = false := decide_eq_false hg
  clear hg
  cases hz : zf ks with
  | false =>
    have HZa : Hid (∀ w1, KeysR w1 K ks → Calls Tryd.prog 12 #[.slice K ks.length ck] w1 fun e w' => e = .returned (.bool false) ∧ w' = w1) := Lib.hid (fun w1 h => by have := HZ.out w1 h; rw [hz] at this; exact this)
    clear HZ HZ2 hz
    go_enter Tryd.func8, Tryd.ntmps8
    go_wp2_with (go_at_call 12; (with_reducible refine (HZa.out _ HK.out).mono ?_); rintro e w3 ⟨rfl, rfl⟩)
    go_ret
    exact ⟨rfl, Below.refl _ _⟩
  | true =>
  have HZa : Hid (∀ w1, KeysR w1 K ks → Calls Tryd.prog 12 #[.slice K ks.length ck] w1 fun e w' => e = .returned (.bool true) ∧ w' = w1) := Lib.hid (fun w1 h => by have := HZ.out w1 h; rw [hz] at this; exact this)
  cases hz2 : zf other with
  | false =>
    have HZb : Hid (∀ w1, KeysR w1 K2 other → Calls Tryd.prog 12 #[.slice K2 other.length ck2] w1 fun e w' => e = .returned (.bool false) ∧ w' = w1) := Lib.hid (fun w1 h => by have := HZ2.out w1 h; rw [hz2] at this; exact this)
    clear HZ HZ2 hz hz2
    go_enter Tryd.func8, Tryd.ntmps8
    go_wp2_with (first | (go_at_call 12; (with_reducible refine (HZa.out _ HK.out).mono ?_); rintro e w3 ⟨rfl, hw3⟩; rw [hw3]; clear hw3 w3) | (go_at_call 12; (with_reducible refine (HZb.out _ HK2.out).mono ?_); rintro e w3 ⟨rfl, hw3⟩; rw [hw3]; clear hw3 w3))
    go_ret
    exact ⟨rfl, Below.refl _ _⟩
  | true =>
  have HZb : Hid (∀ w1, KeysR w1 K2 other → Calls Tryd.prog 12 #[.slice K2 other.length ck2] w1 fun e w' => e = .returned (.bool true) ∧ w' = w1) := Lib.hid (fun w1 h => by have := HZ2.out w1 h; rw [hz2] at this; exact this)
  have HF1 : Hid (∀ W, Below w.heap.size w W → Calls Tryd.prog 17 #[.string s, .slice K ks.length ck] W (Fo2 s ks W)) := Lib.hid (fun W h => (found_c s W K ck ks (HK.out.below h) (zf_all hz)).mono (fun _ _ h => fo2 h))
  have HF2 : Hid (∀ W, Below w.heap.size w W → Calls Tryd.prog 17 #[.string s, .slice K2 other.length ck2] W (Fo2 s other W)) := Lib.hid (fun W h => (found_c s W K2 ck2 other (HK2.out.below h) (zf_all hz2)).mono (fun _ _ h => fo2 h))
  have HF3 : Hid (∀ W, Calls Tryd.prog 15 #[.string f] W (Pl2 f W)) := Lib.hid (fun W => (jpl_c f W).mono (fun _ _ h => pl2 h))
  have HF4 : Hid (∀ W, Calls Tryd.prog 15 #[.string g] W (Pl2 g W)) := Lib.hid (fun W => (jpl_c g W).mono (fun _ _ h => pl2 h))
  have HF5 : Hid (∀ W, Below w.heap.size w W → Calls Tryd.prog 22 #[.slice K ks.length ck, .slice K2 other.length ck2] W fun e w' => e = .returned (.bool (prt (ks.map Kit.nums) (other.map Kit.nums))) ∧ Below W.heap.size W w') := Lib.hid (fun W h => part_c K K2 ck ck2 ks other W (HK.out.below h) (HK2.out.below h))
  clear HZ HZ2 hz hz2
  go_enter Tryd.func8, Tryd.ntmps8
  go_upto_region 3 with (first | (go_at_call 12; (with_reducible refine (HZa.out _ HK.out).mono ?_); rintro e w3 ⟨rfl, hw3⟩; rw [hw3]; clear hw3 w3) | (go_at_call 12; (with_reducible refine (HZb.out _ HK2.out).mono ?_); rintro e w3 ⟨rfl, hw3⟩; rw [hw3]; clear hw3 w3))
  clear HZa HZb d0 d1 d2
  go_wp2_with fail
  refine (HF1.out _ (Below.refl _ _)).mono ?_
  rintro e1 w1 ⟨a1, b1, c1, A3, A4, n3, c3, n4, c4, ok1, rfl, hb1, hok1⟩
  obtain ⟨W1, hW1⟩ : ∃ W1, W1 = w1.alloc (.cells #[.int .i64 a1, .int .i64 b1, .int .i64 c1, .slice A3 n3 c3, .slice A4 n4 c4] 35) := ⟨_, rfl⟩
  have HB1 : Hid (Below w.heap.size w W1) := Lib.hid (by rw [hW1]; exact below_alloc_ hb1 _)
  have HO1 := Lib.hid hok1
  clear hok1 hb1 HF1
  go_wp2_with fail
  rw [← hW1]
  clear hW1
  refine (HF2.out _ HB1.out).mono ?_
  rintro e2 w2 ⟨a2, b2, c2, A5, A6, n5, c5, n6, c6, ok2, rfl, hb2, hok2⟩
  obtain ⟨W2, hW2⟩ : ∃ W2, W2 = w2.alloc (.cells #[.int .i64 a2, .int .i64 b2, .int .i64 c2, .slice A5 n5 c5, .slice A6 n6 c6] 35) := ⟨_, rfl⟩
  have HB2 : Hid (Below w.heap.size w W2) := Lib.hid (by rw [hW2]; exact below_alloc_ (below_step HB1.out hb2) _)
  have HO2 := Lib.hid hok2
  clear hok2 hb2 HF2 HB1
  go_wp2_with fail
  rw [← hW2]
  clear hW2
  refine (HF3.out _).mono ?_
  rintro e3 w3 ⟨a3, b3, c3', A7, A8, n7, c7, n8, c8, ok3, rfl, hb3, hok3⟩
  obtain ⟨W3, hW3⟩ : ∃ W3, W3 = w3.alloc (.cells #[.int .i64 a3, .int .i64 b3, .int .i64 c3', .slice A7 n7 c7, .slice A8 n8 c8] 35) := ⟨_, rfl⟩
  have HB3 : Hid (Below w.heap.size w W3) := Lib.hid (by rw [hW3]; exact below_alloc_ (below_step HB2.out hb3) _)
  have HO3 := Lib.hid hok3
  clear hok3 hb3 HF3 HB2
  go_wp2_with fail
  rw [← hW3]
  clear hW3
  refine (HF4.out _).mono ?_
  rintro e4 w4 ⟨a4, b4, c4', A9, A10, n9, c9, n10, c10, ok4, rfl, hb4, hok4⟩
  obtain ⟨W4, hW4⟩ : ∃ W4, W4 = w4.alloc (.cells #[.int .i64 a4, .int .i64 b4, .int .i64 c4', .slice A9 n9 c9, .slice A10 n10 c10] 35) := ⟨_, rfl⟩
  have HB4 : Hid (Below w.heap.size w W4) := Lib.hid (by rw [hW4]; exact below_alloc_ (below_step HB3.out hb4) _)
  have HO4 := Lib.hid hok4
  clear hok4 hb4 HF4 HB3
  go_upto_region 7 with (fail)
  rw [← hW4]
  clear hW4
  cases ok1 with
  | false =>
    go_wp2
    go_ret
    exact ⟨rfl, HB4.out⟩
  | true =>
  cases ok2 with
  | false =>
    go_wp2
    go_ret
    exact ⟨rfl, HB4.out⟩
  | true =>
  cases ok3 with
  | false =>
    go_wp2
    go_ret
    exact ⟨rfl, HB4.out⟩
  | true =>
  cases ok4 with
  | false =>
    go_wp2
    go_ret
    exact ⟨rfl, HB4.out⟩
  | true =>
  cases hp : prt (ks.map Kit.nums) (other.map Kit.nums) with
  | false =>
    rw [hp] at HF5
    clear hp
    go_wp2_with (go_at_call 22; (with_reducible refine (HF5.out _ HB4.out).mono ?_); rintro e5 w5 ⟨rfl, hb5⟩; have HB5 : Hid (Below w.heap.size w w5) := Lib.hid (below_step HB4.out hb5); clear hb5)
    go_ret
    exact ⟨rfl, HB5.out⟩
  | true =>
  obtain ⟨p, q, hd, hs65, hW⟩ := HO1.out rfl
  obtain ⟨p2, q2, hd2, _, hW2⟩ := HO2.out rfl
  obtain ⟨pf, hdf, hf65⟩ := HO3.out rfl
  obtain ⟨pg, hdg, hg65⟩ := HO4.out rfl
  obtain ⟨x, y, r, h1, h2, h3, h4⟩ := four_sets hd hW hd2 hW2 hs65 hdf hdg hf65 hg65 hp
  rw [hp] at HF5
  have HS1 : Hid (∀ W, Below w.heap.size w W → Calls Tryd.prog 23 #[.string s, .string f, .slice K ks.length ck] W fun e' w' => e' = .returned (.tuple #[.string x, .bool true]) ∧ Below W.heap.size W w') := Lib.hid (fun W h => h1 K ck W (HK.out.below h) HCk.out (HE.out.below h) (HV.out.below h))
  have HS2 : Hid (∀ W, Below w.heap.size w W → Calls Tryd.prog 23 #[.string x, .string g, .slice K2 other.length ck2] W fun e' w' => e' = .returned (.tuple #[.string r, .bool true]) ∧ Below W.heap.size W w') := Lib.hid (fun W h => h2 K2 ck2 W (HK2.out.below h) HCk2.out (HE.out.below h) (HV.out.below h))
  have HS3 : Hid (∀ W, Below w.heap.size w W → Calls Tryd.prog 23 #[.string s, .string g, .slice K2 other.length ck2] W fun e' w' => e' = .returned (.tuple #[.string y, .bool true]) ∧ Below W.heap.size W w') := Lib.hid (fun W h => h3 K2 ck2 W (HK2.out.below h) HCk2.out (HE.out.below h) (HV.out.below h))
  have HS4 : Hid (∀ W, Below w.heap.size w W → Calls Tryd.prog 23 #[.string y, .string f, .slice K ks.length ck] W fun e' w' => e' = .returned (.tuple #[.string r, .bool true]) ∧ Below W.heap.size W w') := Lib.hid (fun W h => h4 K ck W (HK.out.below h) HCk.out (HE.out.below h) (HV.out.below h))
  clear h1 h2 h3 h4 hd hW hd2 hW2 hs65 hdf hdg hf65 hg65 hp HO1 HO2 HO3 HO4
  go_upto_region 9 with (go_at_call 22; (with_reducible refine (HF5.out _ HB4.out).mono ?_); rintro e5 w5 ⟨rfl, hb5⟩; have HB5 : Hid (Below w.heap.size w w5) := Lib.hid (below_step HB4.out hb5); clear hb5)
  clear HF5 HB4
  go_wp2_with fail
  refine (HS1.out _ HB5.out).mono ?_
  rintro e6 w6 ⟨rfl, hb6⟩
  have HB6 : Hid (Below w.heap.size w w6) := Lib.hid (below_step HB5.out hb6)
  clear hb6 HB5
  go_wp2_with fail
  refine (HS2.out _ HB6.out).mono ?_
  rintro e7 w7 ⟨rfl, hb7⟩
  have HB7 : Hid (Below w.heap.size w w7) := Lib.hid (below_step HB6.out hb7)
  clear hb7 HB6
  go_wp2_with fail
  refine (HS3.out _ HB7.out).mono ?_
  rintro e8 w8 ⟨rfl, hb8⟩
  have HB8 : Hid (Below w.heap.size w w8) := Lib.hid (below_step HB7.out hb8)
  clear hb8 HB7
  go_wp2_with fail
  refine (HS4.out _ HB8.out).mono ?_
  rintro e9 w9 ⟨rfl, hb9⟩
  have HB9 : Hid (Below w.heap.size w w9) := Lib.hid (below_step HB8.out hb9)
  clear hb9 HB8
  go_wp2
  go_ret
  exact ⟨by simp, HB9.out⟩
theorem sc_walk (s f g : ByteArray) (K : Option Addr) (ck : Nat) (ks : List ByteArray) (K2 : Option Addr) (ck2 : Nat) (other : List ByteArray) (w : World) (_hs : s.size ≤ 140737488351232) (_hf : f.size ≤ 140737488351232) (_hg : g.size ≤ 140737488351232) (hK : KeysR w K ks) (hck : ks.length ≤ ck) (hK2 : KeysR w K2 other) (hck2 : other.length ≤ ck2) (hL : laidMetH Tryd.prog Rows.fnJpSetCommuteRow.laid w) :
    Calls Tryd.prog 8 #[.string s, .string f, .string g, .slice K ks.length ck, .slice K2 other.length ck2] w fun e w' => e = .returned (.bool true) ∧ Below w.heap.size w w' :=
  sc_main s f g K K2 ck ck2 ks other w hK hck hK2 hck2
    (errs_all (l := Rows.fnJpSetCommuteRow.laid) (by kernel_rfl) (by simp [Rows.fnJpSetCommuteRow]) (by simp [Rows.fnJpSetCommuteRow]) (by simp [Rows.fnJpSetCommuteRow]) (by simp [Rows.fnJpSetCommuteRow]) hL)
    (vars_of (l := Rows.fnJpSetCommuteRow.laid) (by kernel_rfl) (by simp [Rows.fnJpSetCommuteRow]) (by simp [Rows.fnJpSetCommuteRow]) (by simp [Rows.fnJpSetCommuteRow]) hL)
end Go.Proofs.YtgbliniamkpocaaDoor.Jp
/- Words of the print, those that this claim needs (cut by a program of this session). -/
-- PRINTED WORDS (module Derived/Print/Sized.lean): go-gate-2's, for the rows of laws over slices: an AI agent of Go's test side, Tue Nov 17 2026; no person has read it. Lean checks it.
namespace Go.Proofs.YtgbliniamkpocaaDoorW.PrintWords
open Go.ChangeShapes Go.WideShapes
end Go.Proofs.YtgbliniamkpocaaDoorW.PrintWords
