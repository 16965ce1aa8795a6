/- jsonparser.searchKeysConfig behind the fast skip: one lemma for each kind of byte (written by mk_find.py). -/
import Derived.Test.YtgbliniamkpocaaDoorG9
import Derived.Test.YtgbliniamkpocaaDoorJpFind5
namespace Go.Proofs.YtgbliniamkpocaaDoor.Jp
open Go.RowKit Go.Proofs.YtgbliniamkpocaaDoorW.PrintWords Go.Proofs.YtgbliniamkpocaaDoor.Kit

set_option maxHeartbeats 16000000 in
set_option maxRecDepth 1000000 in
theorem find_index {u5 : Value} {ks : List ByteArray} {l : List Int} {z : Int} {at_ : Nat → Nat → Int} {ad : Addr} {K : Option Addr} {c ck : Nat} {w w1 wc : World} {S : Sk} {i : Nat} {kl lv : Int} {lm : Bool} {R : Exit → Act → World → Prop} (HP : SkPre ks l z at_ ad K c ck w w1 S) (hlt : i < l.length) (hinv : SkInv ks.length i lv kl) (HH2 : Hid (SkRel S l (w.heap.size + 2) w1 wc i lv kl lm)) (hx : gb l i = 91) (hkl2 : kl = lv) (hix : S.ix lv.toNat = true)
    (hgo : GoP u5 ks l ad K c ck w w1 S i R)
    (hret : RetP z w R)
    {u6 u14 u15 u16 u17 u18 u19 u20 u21 u22 u23 u24 u25 u26 u27 u28 u29 u30 u31 u32 u33 u34 u41 u42 u43 u44 u45 u46 u47 u48 u49 u50 u51 u52 u53 u54 u55 u56 u57 u58 u59 u60 u61 u62 u63 u64 u65 u66 u67 u68 u69 u70 u71 u72 u73 u74 u75 u76 u77 u78 u79 u80 u81 u82 u83 u84 u85 u86 u87 u88 u89 u90 u91 u92 u93 u94 u95 u96 u97 u98 u99 u100 u101 u102 u103 u104 u105 u106 u107 u108 u109 u110 u111 u112 u113 u114 u115 u116 u117 u118 u119 u120 u121 u122 u123 u124 u125 u126 u127 u128 u129 u130 u131 u132 u133 u134 u135 u136 u137 u138 u139 u140 u141 u142 u143 u144 u145 u146 u147 u148 u149 u150 u151 u152 u153 u154 u155 u156 u157 u158 u159 u160 u161 u162 u163 u164 u165 u166 u167 u168 u169 u170 u171 u172 u173 u174 u175 u176 u177 u178 u179 u180 u181 u182 u183 u184 u185 u186 u187 u188 u189 u190 u191 u192 u193 u194 u195 u196 u197 u198 u199 u200 u201 u202 u203 u204 u205 u206 u207 u208 u209 u210 u211 u212 u213 u214 u215 u216 u217 u218 u219 u220 u221 u222 u223 u224 u225 u226 u227 u228 u229 u230 u231 u232 u233 u234 u235 u236 u237 u238 u239 u240 u241 u242 u243 u244 u245 u246 u247 u248 u249 u250 u251 u252 u253 u254 u255 u256 u257 u258 u259 u260 u261 u262 u263 u264 u265 u266 u267 u268 u269 u270 u271 u272 u273 u274 u275 u276 u277 u278 u279 u280 u281 u282 : Value} :
    Code.wp Tryd.prog sk17 (Exit.inBlock 1 R) ⟨#[.agg #[.bool false, .bool false, .int .i64 0], .slice (some ad) l.length c, .slice K ks.length ck, .pointer (some ⟨w.heap.size, 0, none⟩), .pointer (some ⟨w.heap.size + 1, 0, none⟩), u5, u6, .int .i64 kl, .int .i64 lv, .int .i64 (i : Int), .int .i64 (l.length : Int), .int .i64 (ks.length : Int), .bool lm, .pointer (some ⟨w.heap.size + 1 + 1, 0, none⟩), u14, u15, u16, u17, u18, u19, u20, u21, u22, u23, u24, u25, u26, u27, u28, u29, u30, u31, u32, u33, u34, .slice (some ad) l.length c, .int .i64 (l.length : Int), .slice K ks.length ck, .int .i64 (ks.length : Int), .int .i64 (ks.length : Int), .bool false, u41, u42, u43, u44, u45, u46, u47, u48, u49, u50, u51, u52, u53, u54, u55, u56, u57, u58, u59, u60, u61, u62, u63, u64, u65, u66, u67, u68, u69, u70, u71, u72, u73, u74, u75, u76, u77, u78, u79, u80, u81, u82, u83, u84, u85, u86, u87, u88, u89, u90, u91, u92, u93, u94, u95, u96, u97, u98, u99, u100, u101, u102, u103, u104, u105, u106, u107, u108, u109, u110, u111, u112, u113, u114, u115, u116, u117, u118, u119, u120, u121, u122, u123, u124, u125, u126, u127, u128, u129, u130, u131, u132, u133, u134, u135, u136, u137, u138, u139, u140, u141, u142, u143, u144, u145, u146, u147, u148, u149, u150, u151, u152, u153, u154, u155, u156, u157, u158, u159, u160, u161, u162, u163, u164, u165, u166, u167, u168, u169, u170, u171, u172, u173, u174, u175, u176, u177, u178, u179, u180, u181, u182, u183, u184, u185, u186, u187, u188, u189, u190, u191, u192, u193, u194, u195, u196, u197, u198, u199, u200, u201, u202, u203, u204, u205, u206, u207, u208, u209, u210, u211, u212, u213, u214, u215, u216, u217, u218, u219, u220, u221, u222, u223, u224, u225, u226, u227, u228, u229, u230, u231, u232, u233, u234, u235, u236, u237, u238, u239, u240, u241, u242, u243, u244, u245, u246, u247, u248, u249, u250, u251, u252, u253, u254, u255, u256, u257, u258, u259, u260, u261, u262, u263, u264, u265, u266, u267, u268, u269, u270, u271, u272, u273, u274, u275, u276, u277, u278, u279, u280, u281, u282], []⟩ wc := by
  conv => arg 2; whnf
  obtain ⟨hlc, hlm, hkc, hSlk, hkl, hHS, HZ, HBY, hadb, h4lt⟩ := HP
  obtain ⟨hrd, hcf, c4, hbo, hkr, hEr, hVr, hbw⟩ := hHS.out wc HH2.out.2
  obtain ⟨c0, c1, c2⟩ := hcf
  have hlb : (l.length : Int) ≤ 140737488351232 := by omega
  have hcell' : wc.cell? (ad.add i) = some (.int .u8 91) := by
    obtain ⟨ad', e', hcell⟩ := hrd.at_ i (by omega) (by omega)
    injection e' with e'
    subst e'
    rw [Int.toNat_natCast, rd_gb, hx] at hcell
    exact hcell
  have HX := Lib.hid hx
  have HW := Lib.hid (And.intro hrd (And.intro hbo (And.intro hkr (And.intro hEr (And.intro hVr hbw)))))
  have HGO := Lib.hid hgo
  have HRET := Lib.hid hret
  obtain ⟨hv0, hv1, hv2, hv3, hv4⟩ := hinv
  clear hx hrd hbo hkr hEr hVr hbw hgo hret
  have hci : i ≤ l.length := by omega
  subst hkl2
  have hkn : 0 ≤ kl ∧ kl < (ks.length : Int) := by omega
  obtain ⟨n, rfl⟩ := Int.eq_ofNat_of_zero_le hkn.1
  obtain ⟨kad, rfl, hkcell⟩ := HW.out.2.2.1.at_ (n : Int) (by omega) (by omega)
  obtain ⟨s, hs⟩ : ∃ s, rdOf ByteArray.empty ks (n : Int) = s := ⟨_, rfl⟩
  rw [hs, Int.toNat_natCast] at hkcell
  have hnl : n < ks.length := by omega
  have hz : z = at_ i n := by
    rw [← HZ.out.1, HH2.out.1, sk_index hlt HX.out rfl hix, HZ.out.2.2.1]
    show at_ i (n : Int).toNat = _
    rw [Int.toNat_natCast]
  have hI := HZ.out.2.2.2.1 i n (by rw [← hz]; exact HZ.out.2.1)
  rw [← hz] at hI
  obtain ⟨k, es, hbrk, hels, hout⟩ := ixr_inv hI
  rw [keys_get hnl, hs] at hbrk
  have HO := Lib.hid hout
  have HE := Lib.hid hels
  have HB := Lib.hid hbrk
  obtain ⟨hs3, hs20, hs91, hs93, _, _⟩ := hbrk
  rw [nums_len] at hs3 hs20 hs93
  have hs0 : 0 < s.size := by omega
  have hs1 : s.size - 1 < s.size := by omega
  rw [show gb (Kit.nums s) 0 = (s[0].toNat : Int) from nums_get s 0 hs0] at hs91
  rw [show gb (Kit.nums s) (s.size - 1) = (s[s.size - 1].toNat : Int) from nums_get s _ hs1] at hs93
  have e91 : ((s[0].toNat : Int) == 91) = true := by simpa using hs91
  have e93 : ((s[s.size - 1].toNat : Int) != 93) = false := by simp [hs93]
  have HAT : Hid (∀ W : World, Calls Tryd.prog 79 #[.string (s.extract 1 (s.size - 1))] W fun e w' => e = .returned (.tuple #[.int .i64 (k : Int), .nilIface]) ∧ Below W.heap.size W w') := Lib.hid (fun W => atoi_c HB.out W)
  clear hz hI hout hels hs hix hs91 hs93 hkn
  go_upto_region 78 with (go_at_call 79; (with_reducible refine (HAT.out _).mono ?_); rintro ea w2 ⟨rfl, hb2⟩; conv => whnf)
  have hg2 : Gr (w.heap.size + 2) w1 w2 := HH2.out.2.trans (Gr.of_below _ hb2)
  obtain ⟨w0, hw0⟩ : ∃ w0, w0 = w2.alloc (.cells #[.int .i64 (k : Int)] 3) := ⟨_, rfl⟩
  have hs00 : w0.heap.size = w2.heap.size + 1 := by rw [hw0]; simp
  have hv0' : V1 w0 w2.heap.size (.int .i64 (k : Int)) := by rw [hw0]; exact V1.new _ _ _ rfl
  have hg0 : Gr (w.heap.size + 2) w1 w0 := by rw [hw0]; exact hg2.trans (Gr.of_below _ ((Below.refl _ _).alloc (Nat.le_refl _) _))
  rw [← hw0]
  clear hw0
  obtain ⟨G, hG⟩ : ∃ G, G = w2.heap.size := ⟨_, rfl⟩
  rw [← hG] at hs00 hv0' ⊢
  have hGs : w1.heap.size ≤ G := by rw [hG]; exact hg2.1.size
  clear hb2 hg2 hG
  obtain ⟨w5, hw5⟩ : ∃ w5, w5 = (((w0.alloc (.cells #[.int .i64 0] 3)).alloc (.cells #[.slice none 0 0] 57)).alloc (.cells #[.int .i64 0] 3)).alloc (.cells #[.int .i64 (i : Int)] 3) := ⟨_, rfl⟩
  have hb05 : Below w0.heap.size w0 w5 := by
    rw [hw5]
    exact ((((Below.refl _ _).alloc (Nat.le_refl _) _).alloc (by simp) _).alloc (by simp; omega) _).alloc (by simp; omega) _
  have hx0 : V1 w5 (G + 1) (.int .i64 0) := by rw [hw5]; exact (((V1.new w0 _ _ hs00.symm).alloc _).alloc _).alloc _
  have hx1 : V1 w5 (G + 1 + 1) (.slice none 0 0) := by rw [hw5]; exact ((V1.new (w0.alloc (.cells #[.int .i64 0] 3)) _ _ (by simp; omega)).alloc _).alloc _
  have hx2 : V1 w5 (G + 1 + 2) (.int .i64 0) := by rw [hw5]; exact (V1.new ((w0.alloc (.cells #[.int .i64 0] 3)).alloc (.cells #[.slice none 0 0] 57)) _ _ (by simp; omega)).alloc _
  have hx3 : V1 w5 (G + 1 + 3) (.int .i64 (i : Int)) := by rw [hw5]; exact V1.new _ _ _ (by simp; omega)
  rw [← hw5]
  clear hw5
  have hg5 : Gr (w.heap.size + 2) w1 w5 := hg0.trans (Gr.of_below _ hb05)
  obtain ⟨ard, acf, a4, abo, akr, aer, avr, abw⟩ := hHS.out w0 hg0
  obtain ⟨brd, ⟨d0, d1, d2⟩, d4, bbo, bkr, ber, bvr, bbw⟩ := hHS.out w5 hg5
  have hBG : w.heap.size + 2 < G := by
    have := bbo.lt
    have h1 := (hHS.out w1 (Gr.refl _ _)).2.2.2.1.lt
    omega
  obtain ⟨i5, hi5, hsz5⟩ : ∃ i, Tryd.prog.info? 5 = some i ∧ i.size = 1 := ⟨_, rfl, rfl⟩
  obtain ⟨Ai, hsa, hsb⟩ := print_cut (P := Tryd.prog) 57 5 .i64 Tryd.underlying57 hi5 hsz5 (some ad) l.length c i hci
  have hld : (l.drop i).length = l.length - i := List.length_drop
  have HAE : Hid (Calls Tryd.prog 80 #[.agg #[.bool false, .bool false, .int .i64 0], .slice Ai (l.length - i) (c - i), .func (.func 81) #[] #[.pointer (some ⟨G + 1, 0, none⟩), .pointer (some ⟨G, 0, none⟩), .pointer (some ⟨G + 1 + 1, 0, none⟩), .pointer (some ⟨G + 1 + 1 + 1, 0, none⟩), .pointer (some ⟨w.heap.size + 1, 0, none⟩), .pointer (some ⟨G + 1 + 1 + 1 + 1, 0, none⟩)], .slice none 0 0] w5.drew fun e w' =>
      (∃ z, e = .returned (.tuple #[.int .i64 z, .nilIface])) ∧ Gq (G + 1) w5.drew w' ∧ AeSt (l.drop i) es k es.length (G + 1) w') := Lib.hid (by
    have hbd : Below w5.heap.size w5 w5.drew := (Below.refl _ _).drew
    have := ae_c (G + 1) G (w.heap.size + 1) Ai (some ad) (c - i) c k i l es w0 w5.drew hci HE.out hs00 (by rw [← hs00]; exact hb05.trans (hbd.mono hb05.size)) (by rw [hld]; exact hsb w0 .u8 l hlc ard) ard (by rw [hld]; omega) hlc HBY.out (by omega) aer hv0'.cell a4
      ⟨hx0.below hbd, fun _ => ⟨hx1.below hbd, hx2.below hbd⟩, fun h => by omega⟩ (hx3.below hbd)
    rw [hld] at this
    exact this)
  have kp0 : Gq (G + 1) w5 w5.drew := Gq.of_below (Below.refl _ _).drew
  have hmf : ∀ (fn : Fn) (first cap : Array Value) (w : World), (Instr.makeFunc fn first cap).run Tryd.prog w = .ok (.func fn first cap) w := fun _ _ _ _ => rfl
  have HG5 := Lib.hid hg5
  clear hx0 hx1 hx2 hx3 hg0 hg5 hb05 hv0' ard acf a4 abo akr aer avr abw brd bbo bkr ber bvr bbw hsb hld hi5 hsz5 hs00
  go_region_held3 (fun w' => w'.cell? ⟨w.heap.size, 0, none⟩ = some (.bool false) ∧ w'.cell? ⟨w.heap.size, 1, none⟩ = some (.bool false) ∧ w'.cell? ⟨w.heap.size, 2, none⟩ = some (.int .i64 0) ∧ w'.cell? ⟨w.heap.size + 1, 0, none⟩ = some (.slice (some ad) l.length c) ∧ Gq (G + 1) w5 w')
    (first | exact ⟨d0, d1, d2, d4, kp0⟩ | exact ⟨b0, b1, b2, b4, kp2⟩)
    (first | (go_at_call 80; (with_reducible refine HAE.out.mono ?_); rintro eb w6 ⟨⟨z', rfl⟩, hq6, hst6⟩; obtain ⟨b0, b1, b2⟩ := cfg_gq_lt (show CfgAt w.heap.size w5.drew from ⟨d0, d1, d2⟩) hq6 (by omega); have b4 := cell_gq (show w5.drew.cell? ⟨w.heap.size + 1, 0, none⟩ = _ from d4) hq6 (by omega); have kp2 := kp0.trans hq6; conv => whnf))
  have HG6 := Lib.hid (gr_gq HG5.out kp2 (by omega) (by omega))
  have HB6 := Lib.hid (hHS.out w6 HG6.out)
  have HST := Lib.hid hst6
  clear d0 d1 d2 d4 kp0 hq6 hst6 kp2 HG5 HAE hsa hmf
  have hnil : ∀ (W : World) (a : Option Addr) (n c : Nat), (binOp .eql 57 (.slice a n c) (.slice none 0 0)).run Tryd.prog W = .ok (.bool a.isNone) W := fun W a n c => Lib.run_eql_slice_nil W 57 5 a n c 0 0 Tryd.underlying57
  rcases HO.out with ⟨hfar, hz1⟩ | ⟨b, e, t, z2, hes, hfnd, hz2⟩
  · subst hz1
    have c30 := (HST.out.2.1 hfar).1.cell
    go_wp2
    exact HRET.out _ (HB6.out.2.2.2.2.2.2.2)
  · have hrng := els_rng HE.out hes
    have hld : (l.drop i).length = l.length - i := List.length_drop
    obtain ⟨hbe, hel⟩ := hrng
    rw [hld] at hel
    have hkl3 : k < es.length := (List.getElem?_eq_some_iff.1 hes).1
    obtain ⟨b', e', t', A6, n6, c6, hes', hv1, hr6, hn6, hv2⟩ := HST.out.2.2 hkl3
    rw [hes] at hes'
    injection hes' with hes'
    injection hes' with q1 q2
    injection q2 with q2 q3
    subst q1
    subst q2
    have hM : cutI (l.drop i) b e = cutI l (i + b) (i + e) := by unfold cutI; rw [List.take_drop, List.drop_drop]
    rw [hM] at hr6
    obtain ⟨M, hMd⟩ : ∃ M, cutI l (i + b) (i + e) = M := ⟨_, rfl⟩
    have hMl : M.length = e - b := by rw [← hMd]; unfold cutI; rw [List.length_drop, List.length_take]; omega
    have hMb : ∀ x ∈ M, 0 ≤ x ∧ x ≤ 255 := by
      rw [← hMd]
      exact fun x hx => HBY.out x (List.mem_of_mem_take (List.mem_of_mem_drop hx))
    rw [hMd] at hr6 hfnd
    obtain rfl : M.length = n6 := hr6.1
    obtain ⟨a6, rfl⟩ : ∃ a6, A6 = some a6 := by
      obtain ⟨a6, h, _⟩ := hr6.2.2 (by omega)
      exact ⟨a6, h⟩
    have hzle := fnd_le hfnd
    have hF := HZ.out.2.2.2.2 n M z2 hfnd
    obtain ⟨K', hk1, hk2⟩ := keys_cut (some kad) ks ck (n + 1) (by omega) hkc
    have hk1' : ∀ W : World, (Instr.slice 26 (.slice (some kad) ks.length ck) (some (.int .i64 ((n : Int) + 1))) none none).run Tryd.prog W = .ok (.slice K' (ks.length - (n + 1)) (ck - (n + 1))) W := fun W => by have := hk1 W; rw [List.length_drop] at this; push_cast at this; exact this
    have hkdl : (ks.drop (n + 1)).length ≤ ck - (n + 1) := by rw [List.length_drop]; omega
    have kp0 : Below w6.heap.size w6 w6.drew := (Below.refl _ _).drew
    have HF : Hid (Calls Tryd.prog 60 #[.agg #[.bool false, .bool false, .int .i64 0], .slice (some a6) M.length c6, .slice K' (ks.length - (n + 1)) (ck - (n + 1))] w6.drew fun e w' => e = .returned (.int .i64 z2) ∧ Below w6.drew.heap.size w6.drew w') := Lib.hid (by
      obtain ⟨brd, bcf, c4', bbo, bkr, ber, bvr, bbw⟩ := hHS.out w6.drew (HG6.out.trans (Gr.drew _ _))
      have hrd2 : ReadsInt w6.drew .u8 (some a6) M.length M := hr6.below kp0
      have := hF (some a6) K' c6 (ck - (n + 1)) w6.drew hrd2 hn6 hMb (by omega) (hk2 _ bkr) hkdl ber bvr
      rw [List.length_drop] at this
      exact this)
    have c30 := hv1.cell
    have c31 := hv2.cell
    have HML := Lib.hid (And.intro hMl (And.intro hel (And.intro hbe hzle)))
    have HZ2 := Lib.hid hz2
    clear hv1 hr6 hv2 hF hk1 hk2 hMl hMb hn6 hMd hM hfnd hes hkl3 hld hel hbe hz2 hzle
    have hwn : IntKind.i64.wrap ((n : Int) + 1) = (n : Int) + 1 := by rw [IntKind.wrap_i64]; omega
    go_upto_region 81 with (fail)
    go_region_held3 (fun w' => w'.cell? ⟨w.heap.size, 0, none⟩ = some (.bool false) ∧ w'.cell? ⟨w.heap.size, 1, none⟩ = some (.bool false) ∧ w'.cell? ⟨w.heap.size, 2, none⟩ = some (.int .i64 0) ∧ w'.cell? ⟨G + 1 + 1, 0, none⟩ = some (.slice (some a6) M.length c6) ∧ Below w6.heap.size w6 w')
      (first | exact ⟨b0, b1, b2, c30, kp0⟩ | exact ⟨g0, g1, g2, g30, kp3⟩)
      (first | (go_at_call 60; (with_reducible refine HF.out.mono ?_); rintro eb w7 ⟨rfl, hb7⟩; obtain ⟨g0, g1, g2, kp3⟩ := cfg_keep (W := w6) (W1 := w6.drew) ⟨b0, b1, b2⟩ kp0 hb7; have g30 := below_at kp3 c30; conv => whnf))
    have c32 := below_at kp3 c31
    have HB7 := Lib.hid (HB6.out.2.2.2.2.2.2.2.trans (kp3.mono HB6.out.2.2.2.2.2.2.2.size))
    clear b0 b1 b2 b4 c30 c31 kp0 hb7 kp3 g0 g1 g2 g30 HF hk1' hkdl
    obtain ⟨hMl, hel, hbe, hzle⟩ := HML.out
    rcases HZ2.out with ⟨hlt0, hz1⟩ | ⟨hge0, hz1⟩
    · subst hz1
      go_wp2
      exact HRET.out _ (HB7.out)
    · subst hz1
      have hge1 : ¬ z2 < 0 := by omega
      have hw1 : IntKind.i64.wrap ((i : Int) + b) = (i : Int) + b := by rw [IntKind.wrap_i64]; omega
      have hw2 : IntKind.i64.wrap ((i : Int) + b + z2) = (i : Int) + b + z2 := by rw [IntKind.wrap_i64]; omega
      go_wp2
      exact HRET.out _ (HB7.out)
end Go.Proofs.YtgbliniamkpocaaDoor.Jp
