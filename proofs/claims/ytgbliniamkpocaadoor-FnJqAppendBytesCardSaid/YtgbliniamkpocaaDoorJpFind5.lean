/- jsonparser.searchKeysConfig behind the fast skip: one lemma for each kind of byte (written by mk_find.py). -/
import Derived.Test.YtgbliniamkpocaaDoorJpFind4
namespace Go.Proofs.YtgbliniamkpocaaDoor.Jp
open Go.RowKit Go.Proofs.YtgbliniamkpocaaDoorW.PrintWords Go.Proofs.YtgbliniamkpocaaDoor.Kit

set_option maxHeartbeats 16000000 in
set_option maxRecDepth 1000000 in
theorem find_qlow {u5 : Value} {ks : List ByteArray} {l : List Int} {z : Int} {at_ : Nat → Nat → Int} {ad : Addr} {K : Option Addr} {c ck : Nat} {w w1 wc : World} {S : Sk} {i : Nat} {kl lv : Int} {lm : Bool} {R : Exit → Act → World → Prop} (HP : SkPre ks l z at_ ad K c ck w w1 S) (hlt : i < l.length) (hinv : SkInv ks.length i lv kl) (HH2 : Hid (SkRel S l (w.heap.size + 2) w1 wc i lv kl lm)) {j : Nat} (hx : gb l i = 34) (hq : qe l (i + 1) false = some j) (hbj : bl l j < l.length) (hc58 : gb l (bl l j) = 58) (hlv : lv < 1)
    (hgo : GoP u5 ks l ad K c ck w w1 S i R)
    (hret : RetP z w R)
    {u6 u14 u15 u16 u17 u18 u19 u20 u21 u22 u23 u24 u25 u26 u27 u28 u29 u30 u31 u32 u33 u34 u41 u42 u43 u44 u45 u46 u47 u48 u49 u50 u51 u52 u53 u54 u55 u56 u57 u58 u59 u60 u61 u62 u63 u64 u65 u66 u67 u68 u69 u70 u71 u72 u73 u74 u75 u76 u77 u78 u79 u80 u81 u82 u83 u84 u85 u86 u87 u88 u89 u90 u91 u92 u93 u94 u95 u96 u97 u98 u99 u100 u101 u102 u103 u104 u105 u106 u107 u108 u109 u110 u111 u112 u113 u114 u115 u116 u117 u118 u119 u120 u121 u122 u123 u124 u125 u126 u127 u128 u129 u130 u131 u132 u133 u134 u135 u136 u137 u138 u139 u140 u141 u142 u143 u144 u145 u146 u147 u148 u149 u150 u151 u152 u153 u154 u155 u156 u157 u158 u159 u160 u161 u162 u163 u164 u165 u166 u167 u168 u169 u170 u171 u172 u173 u174 u175 u176 u177 u178 u179 u180 u181 u182 u183 u184 u185 u186 u187 u188 u189 u190 u191 u192 u193 u194 u195 u196 u197 u198 u199 u200 u201 u202 u203 u204 u205 u206 u207 u208 u209 u210 u211 u212 u213 u214 u215 u216 u217 u218 u219 u220 u221 u222 u223 u224 u225 u226 u227 u228 u229 u230 u231 u232 u233 u234 u235 u236 u237 u238 u239 u240 u241 u242 u243 u244 u245 u246 u247 u248 u249 u250 u251 u252 u253 u254 u255 u256 u257 u258 u259 u260 u261 u262 u263 u264 u265 u266 u267 u268 u269 u270 u271 u272 u273 u274 u275 u276 u277 u278 u279 u280 u281 u282 : Value} :
    Code.wp Tryd.prog sk17 (Exit.inBlock 1 R) ⟨#[.agg #[.bool false, .bool false, .int .i64 0], .slice (some ad) l.length c, .slice K ks.length ck, .pointer (some ⟨w.heap.size, 0, none⟩), .pointer (some ⟨w.heap.size + 1, 0, none⟩), u5, u6, .int .i64 kl, .int .i64 lv, .int .i64 (i : Int), .int .i64 (l.length : Int), .int .i64 (ks.length : Int), .bool lm, .pointer (some ⟨w.heap.size + 1 + 1, 0, none⟩), u14, u15, u16, u17, u18, u19, u20, u21, u22, u23, u24, u25, u26, u27, u28, u29, u30, u31, u32, u33, u34, .slice (some ad) l.length c, .int .i64 (l.length : Int), .slice K ks.length ck, .int .i64 (ks.length : Int), .int .i64 (ks.length : Int), .bool false, u41, u42, u43, u44, u45, u46, u47, u48, u49, u50, u51, u52, u53, u54, u55, u56, u57, u58, u59, u60, u61, u62, u63, u64, u65, u66, u67, u68, u69, u70, u71, u72, u73, u74, u75, u76, u77, u78, u79, u80, u81, u82, u83, u84, u85, u86, u87, u88, u89, u90, u91, u92, u93, u94, u95, u96, u97, u98, u99, u100, u101, u102, u103, u104, u105, u106, u107, u108, u109, u110, u111, u112, u113, u114, u115, u116, u117, u118, u119, u120, u121, u122, u123, u124, u125, u126, u127, u128, u129, u130, u131, u132, u133, u134, u135, u136, u137, u138, u139, u140, u141, u142, u143, u144, u145, u146, u147, u148, u149, u150, u151, u152, u153, u154, u155, u156, u157, u158, u159, u160, u161, u162, u163, u164, u165, u166, u167, u168, u169, u170, u171, u172, u173, u174, u175, u176, u177, u178, u179, u180, u181, u182, u183, u184, u185, u186, u187, u188, u189, u190, u191, u192, u193, u194, u195, u196, u197, u198, u199, u200, u201, u202, u203, u204, u205, u206, u207, u208, u209, u210, u211, u212, u213, u214, u215, u216, u217, u218, u219, u220, u221, u222, u223, u224, u225, u226, u227, u228, u229, u230, u231, u232, u233, u234, u235, u236, u237, u238, u239, u240, u241, u242, u243, u244, u245, u246, u247, u248, u249, u250, u251, u252, u253, u254, u255, u256, u257, u258, u259, u260, u261, u262, u263, u264, u265, u266, u267, u268, u269, u270, u271, u272, u273, u274, u275, u276, u277, u278, u279, u280, u281, u282], []⟩ wc := by
  conv => arg 2; whnf
  obtain ⟨hlc, hlm, hkc, hSlk, hkl, hHS, HZ, HBY, hadb, h4lt⟩ := HP
  obtain ⟨hrd, hcf, c4, hbo, hkr, hEr, hVr, hbw⟩ := hHS.out wc HH2.out.2
  obtain ⟨c0, c1, c2⟩ := hcf
  have hlb : (l.length : Int) ≤ 140737488351232 := by omega
  have hcell' : wc.cell? (ad.add i) = some (.int .u8 34) := by
    obtain ⟨ad', e', hcell⟩ := hrd.at_ i (by omega) (by omega)
    injection e' with e'
    subst e'
    rw [Int.toNat_natCast, rd_gb, hx] at hcell
    exact hcell
  have HX := Lib.hid hx
  have HW := Lib.hid (And.intro hrd (And.intro hbo (And.intro hkr (And.intro hEr (And.intro hVr hbw)))))
  have HGO := Lib.hid hgo
  have HRET := Lib.hid hret
  obtain ⟨hv0, hv1, hv2, hv3, hv4⟩ := hinv
  clear hx hrd hbo hkr hEr hVr hbw hgo hret
  have hci : i ≤ l.length := by omega
  have hjl := qe_le l _ _ _ _ (Nat.le_refl _) hq
  obtain ⟨hjl1, hjl2⟩ := hjl
  have HJ := Lib.hid hq
  have HQ := Lib.hid (sk_qname (S := S) (lv := lv) (kl := kl) (lm := lm) hlt HX.out hq hbj hc58)
  obtain ⟨bq, hbq⟩ := seR_drop l i
  obtain ⟨i5, hi5, hsz5⟩ : ∃ i, Tryd.prog.info? 5 = some i ∧ i.size = 1 := ⟨_, rfl, rfl⟩
  obtain ⟨A', hs1, hs2⟩ := print_cut (P := Tryd.prog) 57 5 .i64 Tryd.underlying57 hi5 hsz5 (some ad) l.length c (i + 1) (by omega)
  have hs1' : ∀ W : World, (Instr.slice 57 (.slice (some ad) l.length c) (some (.int .i64 ((i : Int) + 1))) none none).run Tryd.prog W = .ok (.slice A' (l.length - (i + 1)) (c - (i + 1))) W := fun W => by have := hs1 W; push_cast at this; exact this
  have HSE : Hid (∀ W : World, ReadsInt W .u8 (some ad) l.length l → Calls Tryd.prog 77 #[cfg, .slice A' (l.length - (i + 1)) (c - (i + 1)), .int .u8 34] W fun e w' => e = .returned (.tuple #[.int .i64 (seI l i), .bool bq]) ∧ Below W.heap.size W w') :=
    Lib.hid (fun W hW => by
      have := se_c A' (c - (i + 1)) (l.drop (i + 1)) W (by rw [List.length_drop]; exact hs2 W .u8 l hlc hW) (by rw [List.length_drop]; omega) (fun z hz => HBY.out z (List.mem_of_mem_drop hz)) (by rw [List.length_drop]; omega)
      rw [List.length_drop] at this
      exact this.mono (fun e w' h => ⟨h.1.trans (by rw [hbq]), h.2⟩))
  obtain ⟨se, hse⟩ : ∃ se, seI l i = se := ⟨_, rfl⟩
  rw [hse] at HSE
  obtain rfl : (j : Int) - i - 1 = se := by rw [← hse]; unfold seI; rw [hq]
  clear hq
  unfold cfg at HSE
  have kp0 : Below wc.heap.size wc wc.drew := (Below.refl _ _).drew
  have hrd' : ReadsInt wc.drew .u8 (some ad) l.length l := HW.out.1
  clear hs1 hs2 hse hbq
  go_upto_region 25 with (fail)
  go_region_held3 (fun w' => w'.cell? ⟨w.heap.size, 0, none⟩ = some (.bool false) ∧ w'.cell? ⟨w.heap.size, 1, none⟩ = some (.bool false) ∧ w'.cell? ⟨w.heap.size, 2, none⟩ = some (.int .i64 0) ∧ w'.cell? ⟨w.heap.size + 1, 0, none⟩ = some (.slice (some ad) l.length c) ∧ Below wc.heap.size wc w')
    (first | exact ⟨c0, c1, c2, c4, kp0⟩ | exact ⟨b0, b1, b2, b4, kp2⟩)
    (first | (go_at_call 77; (with_reducible refine (HSE.out _ hrd').mono ?_); rintro e2 w2 ⟨rfl, hb2⟩; obtain ⟨b0, b1, b2, kp2⟩ := cfg_keep (W := wc) (W1 := wc.drew) ⟨c0, c1, c2⟩ kp0 hb2; have b4 := below_at kp2 c4; conv => whnf))
  have hg2 : Gr (w.heap.size + 2) w1 w2 := HH2.out.2.trans (Gr.of_below _ kp2)
  have HG := Lib.hid hg2
  have HB2 := Lib.hid (hHS.out w2 hg2)
  clear c0 c1 c2 kp0 hb2 hrd' HSE hs1' kp2 hg2 c4 hcell'
  have hne1 : ((j : Int) - i - 1 == -1) = false := beq_eq_false_iff_ne.2 (by omega)
  have hsm : (i : Int) + 1 + ((j : Int) - i - 1) = j := by omega
  obtain ⟨A3, hs3, hs4⟩ := print_cut (P := Tryd.prog) 57 5 .i64 Tryd.underlying57 hi5 hsz5 (some ad) l.length c j hjl2
  have HN3 : Hid (∀ W : World, ReadsInt W .u8 (some ad) l.length l → Calls Tryd.prog 70 #[.agg #[.bool false, .bool false, .int .i64 0], .slice A3 (l.length - j) (c - j)] W fun e w' => e = .returned (.int .i64 (nt (l.drop j))) ∧ Below W.heap.size W w') :=
    Lib.hid (fun W hW => by
      have hl1 : (l.drop j).length = l.length - j := List.length_drop
      have := nt_c A3 (c - j) (l.drop j) W (by rw [hl1]; exact hs4 W .u8 l hlc hW) (by omega) (by omega)
      rw [hl1] at this
      exact this.mono (fun e w' h => ⟨h.1, h.2⟩))
  have hbd := bl_drop l j _ 0 (Nat.le_refl _)
  rw [Nat.add_zero] at hbd
  obtain ⟨q3, hq3⟩ : ∃ q3, bl (l.drop j) 0 = q3 := ⟨_, rfl⟩
  rw [show nt (l.drop j) = (q3 : Int) by rw [nt, hq3, if_pos (by rw [List.length_drop]; omega)]] at HN3
  rw [hq3] at hbd
  have hjq : j + q3 < l.length := by omega
  have hne3 : ((q3 : Int) == -1) = false := beq_eq_false_iff_ne.2 (by omega)
  have HBD := Lib.hid hbd
  clear hq3 hbd hbj
  have kp0 : Below w2.heap.size w2 w2.drew := (Below.refl _ _).drew
  have hrd' : ReadsInt w2.drew .u8 (some ad) l.length l := HB2.out.1
  clear hs4 hi5 hsz5
  go_upto_region 30 with (fail)
  go_region_held3 (fun w' => w'.cell? ⟨w.heap.size, 0, none⟩ = some (.bool false) ∧ w'.cell? ⟨w.heap.size, 1, none⟩ = some (.bool false) ∧ w'.cell? ⟨w.heap.size, 2, none⟩ = some (.int .i64 0) ∧ w'.cell? ⟨w.heap.size + 1, 0, none⟩ = some (.slice (some ad) l.length c) ∧ Below w2.heap.size w2 w')
    (first | exact ⟨b0, b1, b2, b4, kp0⟩ | exact ⟨d0, d1, d2, d4, kp3⟩)
    (first | (go_at_call 70; (with_reducible refine (HN3.out _ hrd').mono ?_); rintro e3 w3 ⟨rfl, hb3⟩; obtain ⟨d0, d1, d2, kp3⟩ := cfg_keep (W := w2) (W1 := w2.drew) ⟨b0, b1, b2⟩ kp0 hb3; have d4 := below_at kp3 b4; conv => whnf))
  have hg3 : Gr (w.heap.size + 2) w1 w3 := HG.out.trans (Gr.of_below _ kp3)
  have HG3 := Lib.hid hg3
  have HB3 := Lib.hid (hHS.out w3 hg3)
  clear b0 b1 b2 b4 kp0 hb3 hrd' HN3 hs3 kp3 hg3 HB2
  obtain ⟨x, hx⟩ : ∃ x, gb l (bl l j) = x := ⟨_, rfl⟩
  have hcx : w3.cell? (ad.add (j + q3)) = some (.int .u8 x) := by
    obtain ⟨ad', e', hcell⟩ := HB3.out.1.at_ ((j + q3 : Nat) : Int) (by omega) (by omega)
    injection e' with e'
    subst e'
    rw [Int.toNat_natCast, rd_gb, HBD.out, hx] at hcell
    rw [HBD.out]
    exact hcell
  obtain rfl : 58 = x := by rw [← hx, hc58]
  clear hx hc58
  have hr : sk S l 0 0 0 true = -1 := by rw [HH2.out.1, HQ.out, if_pos hlv]
  obtain rfl : -1 = z := hr.symm.trans HZ.out.1
  clear hr HH2 HQ HG3 HG
  go_wp2
  exact HRET.out _ (HB3.out.2.2.2.2.2.2.2)
set_option maxHeartbeats 16000000 in
set_option maxRecDepth 1000000 in
theorem find_qplain {u5 : Value} {ks : List ByteArray} {l : List Int} {z : Int} {at_ : Nat → Nat → Int} {ad : Addr} {K : Option Addr} {c ck : Nat} {w w1 wc : World} {S : Sk} {i : Nat} {kl lv : Int} {lm : Bool} {R : Exit → Act → World → Prop} (HP : SkPre ks l z at_ ad K c ck w w1 S) (hlt : i < l.length) (hinv : SkInv ks.length i lv kl) (HH2 : Hid (SkRel S l (w.heap.size + 2) w1 wc i lv kl lm)) {j : Nat} (hx : gb l i = 34) (hq : qe l (i + 1) false = some j) (hbj : bl l j < l.length) (hc58 : gb l (bl l j) = 58) (hlv : ¬ lv < 1) (hbf : bsf (l.drop (i + 1)) (j - (i + 1) - 1) = false)
    (hgo : GoP u5 ks l ad K c ck w w1 S i R)
    (hret : RetP z w R)
    {u6 u14 u15 u16 u17 u18 u19 u20 u21 u22 u23 u24 u25 u26 u27 u28 u29 u30 u31 u32 u33 u34 u41 u42 u43 u44 u45 u46 u47 u48 u49 u50 u51 u52 u53 u54 u55 u56 u57 u58 u59 u60 u61 u62 u63 u64 u65 u66 u67 u68 u69 u70 u71 u72 u73 u74 u75 u76 u77 u78 u79 u80 u81 u82 u83 u84 u85 u86 u87 u88 u89 u90 u91 u92 u93 u94 u95 u96 u97 u98 u99 u100 u101 u102 u103 u104 u105 u106 u107 u108 u109 u110 u111 u112 u113 u114 u115 u116 u117 u118 u119 u120 u121 u122 u123 u124 u125 u126 u127 u128 u129 u130 u131 u132 u133 u134 u135 u136 u137 u138 u139 u140 u141 u142 u143 u144 u145 u146 u147 u148 u149 u150 u151 u152 u153 u154 u155 u156 u157 u158 u159 u160 u161 u162 u163 u164 u165 u166 u167 u168 u169 u170 u171 u172 u173 u174 u175 u176 u177 u178 u179 u180 u181 u182 u183 u184 u185 u186 u187 u188 u189 u190 u191 u192 u193 u194 u195 u196 u197 u198 u199 u200 u201 u202 u203 u204 u205 u206 u207 u208 u209 u210 u211 u212 u213 u214 u215 u216 u217 u218 u219 u220 u221 u222 u223 u224 u225 u226 u227 u228 u229 u230 u231 u232 u233 u234 u235 u236 u237 u238 u239 u240 u241 u242 u243 u244 u245 u246 u247 u248 u249 u250 u251 u252 u253 u254 u255 u256 u257 u258 u259 u260 u261 u262 u263 u264 u265 u266 u267 u268 u269 u270 u271 u272 u273 u274 u275 u276 u277 u278 u279 u280 u281 u282 : Value} :
    Code.wp Tryd.prog sk17 (Exit.inBlock 1 R) ⟨#[.agg #[.bool false, .bool false, .int .i64 0], .slice (some ad) l.length c, .slice K ks.length ck, .pointer (some ⟨w.heap.size, 0, none⟩), .pointer (some ⟨w.heap.size + 1, 0, none⟩), u5, u6, .int .i64 kl, .int .i64 lv, .int .i64 (i : Int), .int .i64 (l.length : Int), .int .i64 (ks.length : Int), .bool lm, .pointer (some ⟨w.heap.size + 1 + 1, 0, none⟩), u14, u15, u16, u17, u18, u19, u20, u21, u22, u23, u24, u25, u26, u27, u28, u29, u30, u31, u32, u33, u34, .slice (some ad) l.length c, .int .i64 (l.length : Int), .slice K ks.length ck, .int .i64 (ks.length : Int), .int .i64 (ks.length : Int), .bool false, u41, u42, u43, u44, u45, u46, u47, u48, u49, u50, u51, u52, u53, u54, u55, u56, u57, u58, u59, u60, u61, u62, u63, u64, u65, u66, u67, u68, u69, u70, u71, u72, u73, u74, u75, u76, u77, u78, u79, u80, u81, u82, u83, u84, u85, u86, u87, u88, u89, u90, u91, u92, u93, u94, u95, u96, u97, u98, u99, u100, u101, u102, u103, u104, u105, u106, u107, u108, u109, u110, u111, u112, u113, u114, u115, u116, u117, u118, u119, u120, u121, u122, u123, u124, u125, u126, u127, u128, u129, u130, u131, u132, u133, u134, u135, u136, u137, u138, u139, u140, u141, u142, u143, u144, u145, u146, u147, u148, u149, u150, u151, u152, u153, u154, u155, u156, u157, u158, u159, u160, u161, u162, u163, u164, u165, u166, u167, u168, u169, u170, u171, u172, u173, u174, u175, u176, u177, u178, u179, u180, u181, u182, u183, u184, u185, u186, u187, u188, u189, u190, u191, u192, u193, u194, u195, u196, u197, u198, u199, u200, u201, u202, u203, u204, u205, u206, u207, u208, u209, u210, u211, u212, u213, u214, u215, u216, u217, u218, u219, u220, u221, u222, u223, u224, u225, u226, u227, u228, u229, u230, u231, u232, u233, u234, u235, u236, u237, u238, u239, u240, u241, u242, u243, u244, u245, u246, u247, u248, u249, u250, u251, u252, u253, u254, u255, u256, u257, u258, u259, u260, u261, u262, u263, u264, u265, u266, u267, u268, u269, u270, u271, u272, u273, u274, u275, u276, u277, u278, u279, u280, u281, u282], []⟩ wc := by
  conv => arg 2; whnf
  obtain ⟨hlc, hlm, hkc, hSlk, hkl, hHS, HZ, HBY, hadb, h4lt⟩ := HP
  obtain ⟨hrd, hcf, c4, hbo, hkr, hEr, hVr, hbw⟩ := hHS.out wc HH2.out.2
  obtain ⟨c0, c1, c2⟩ := hcf
  have hlb : (l.length : Int) ≤ 140737488351232 := by omega
  have hcell' : wc.cell? (ad.add i) = some (.int .u8 34) := by
    obtain ⟨ad', e', hcell⟩ := hrd.at_ i (by omega) (by omega)
    injection e' with e'
    subst e'
    rw [Int.toNat_natCast, rd_gb, hx] at hcell
    exact hcell
  have HX := Lib.hid hx
  have HW := Lib.hid (And.intro hrd (And.intro hbo (And.intro hkr (And.intro hEr (And.intro hVr hbw)))))
  have HGO := Lib.hid hgo
  have HRET := Lib.hid hret
  obtain ⟨hv0, hv1, hv2, hv3, hv4⟩ := hinv
  clear hx hrd hbo hkr hEr hVr hbw hgo hret
  have hci : i ≤ l.length := by omega
  have hjl := qe_le l _ _ _ _ (Nat.le_refl _) hq
  obtain ⟨hjl1, hjl2⟩ := hjl
  have HJ := Lib.hid hq
  have HQ := Lib.hid (sk_qname (S := S) (lv := lv) (kl := kl) (lm := lm) hlt HX.out hq hbj hc58)
  obtain ⟨bq, hbq⟩ := seR_drop l i
  obtain ⟨i5, hi5, hsz5⟩ : ∃ i, Tryd.prog.info? 5 = some i ∧ i.size = 1 := ⟨_, rfl, rfl⟩
  obtain ⟨A', hs1, hs2⟩ := print_cut (P := Tryd.prog) 57 5 .i64 Tryd.underlying57 hi5 hsz5 (some ad) l.length c (i + 1) (by omega)
  have hs1' : ∀ W : World, (Instr.slice 57 (.slice (some ad) l.length c) (some (.int .i64 ((i : Int) + 1))) none none).run Tryd.prog W = .ok (.slice A' (l.length - (i + 1)) (c - (i + 1))) W := fun W => by have := hs1 W; push_cast at this; exact this
  have HSE : Hid (∀ W : World, ReadsInt W .u8 (some ad) l.length l → Calls Tryd.prog 77 #[cfg, .slice A' (l.length - (i + 1)) (c - (i + 1)), .int .u8 34] W fun e w' => e = .returned (.tuple #[.int .i64 (seI l i), .bool bq]) ∧ Below W.heap.size W w') :=
    Lib.hid (fun W hW => by
      have := se_c A' (c - (i + 1)) (l.drop (i + 1)) W (by rw [List.length_drop]; exact hs2 W .u8 l hlc hW) (by rw [List.length_drop]; omega) (fun z hz => HBY.out z (List.mem_of_mem_drop hz)) (by rw [List.length_drop]; omega)
      rw [List.length_drop] at this
      exact this.mono (fun e w' h => ⟨h.1.trans (by rw [hbq]), h.2⟩))
  obtain ⟨se, hse⟩ : ∃ se, seI l i = se := ⟨_, rfl⟩
  rw [hse] at HSE
  have hqd : qe (l.drop (i + 1)) 0 false = some (j - (i + 1)) := by
    rw [qe_drop l (i + 1) _ 0 false (Nat.le_refl _), Nat.add_zero, hq]
    rfl
  obtain rfl : false = bq := by
    unfold seR at hbq
    rw [hqd] at hbq
    simp only [hbf] at hbq
    injection hbq with hbq
    have := congrArg (fun a => a[1]?) hbq
    simpa using this
  clear hqd
  obtain rfl : (j : Int) - i - 1 = se := by rw [← hse]; unfold seI; rw [hq]
  clear hq
  unfold cfg at HSE
  have kp0 : Below wc.heap.size wc wc.drew := (Below.refl _ _).drew
  have hrd' : ReadsInt wc.drew .u8 (some ad) l.length l := HW.out.1
  clear hs1 hs2 hse hbq
  go_upto_region 25 with (fail)
  go_region_held3 (fun w' => w'.cell? ⟨w.heap.size, 0, none⟩ = some (.bool false) ∧ w'.cell? ⟨w.heap.size, 1, none⟩ = some (.bool false) ∧ w'.cell? ⟨w.heap.size, 2, none⟩ = some (.int .i64 0) ∧ w'.cell? ⟨w.heap.size + 1, 0, none⟩ = some (.slice (some ad) l.length c) ∧ Below wc.heap.size wc w')
    (first | exact ⟨c0, c1, c2, c4, kp0⟩ | exact ⟨b0, b1, b2, b4, kp2⟩)
    (first | (go_at_call 77; (with_reducible refine (HSE.out _ hrd').mono ?_); rintro e2 w2 ⟨rfl, hb2⟩; obtain ⟨b0, b1, b2, kp2⟩ := cfg_keep (W := wc) (W1 := wc.drew) ⟨c0, c1, c2⟩ kp0 hb2; have b4 := below_at kp2 c4; conv => whnf))
  have hg2 : Gr (w.heap.size + 2) w1 w2 := HH2.out.2.trans (Gr.of_below _ kp2)
  have HG := Lib.hid hg2
  have HB2 := Lib.hid (hHS.out w2 hg2)
  clear c0 c1 c2 kp0 hb2 hrd' HSE hs1' kp2 hg2 c4 hcell'
  have hne1 : ((j : Int) - i - 1 == -1) = false := beq_eq_false_iff_ne.2 (by omega)
  have hsm : (i : Int) + 1 + ((j : Int) - i - 1) = j := by omega
  obtain ⟨A3, hs3, hs4⟩ := print_cut (P := Tryd.prog) 57 5 .i64 Tryd.underlying57 hi5 hsz5 (some ad) l.length c j hjl2
  have HN3 : Hid (∀ W : World, ReadsInt W .u8 (some ad) l.length l → Calls Tryd.prog 70 #[.agg #[.bool false, .bool false, .int .i64 0], .slice A3 (l.length - j) (c - j)] W fun e w' => e = .returned (.int .i64 (nt (l.drop j))) ∧ Below W.heap.size W w') :=
    Lib.hid (fun W hW => by
      have hl1 : (l.drop j).length = l.length - j := List.length_drop
      have := nt_c A3 (c - j) (l.drop j) W (by rw [hl1]; exact hs4 W .u8 l hlc hW) (by omega) (by omega)
      rw [hl1] at this
      exact this.mono (fun e w' h => ⟨h.1, h.2⟩))
  have hbd := bl_drop l j _ 0 (Nat.le_refl _)
  rw [Nat.add_zero] at hbd
  obtain ⟨q3, hq3⟩ : ∃ q3, bl (l.drop j) 0 = q3 := ⟨_, rfl⟩
  rw [show nt (l.drop j) = (q3 : Int) by rw [nt, hq3, if_pos (by rw [List.length_drop]; omega)]] at HN3
  rw [hq3] at hbd
  have hjq : j + q3 < l.length := by omega
  have hne3 : ((q3 : Int) == -1) = false := beq_eq_false_iff_ne.2 (by omega)
  have HBD := Lib.hid hbd
  clear hq3 hbd hbj
  have kp0 : Below w2.heap.size w2 w2.drew := (Below.refl _ _).drew
  have hrd' : ReadsInt w2.drew .u8 (some ad) l.length l := HB2.out.1
  clear hs4 hi5 hsz5
  go_upto_region 30 with (fail)
  go_region_held3 (fun w' => w'.cell? ⟨w.heap.size, 0, none⟩ = some (.bool false) ∧ w'.cell? ⟨w.heap.size, 1, none⟩ = some (.bool false) ∧ w'.cell? ⟨w.heap.size, 2, none⟩ = some (.int .i64 0) ∧ w'.cell? ⟨w.heap.size + 1, 0, none⟩ = some (.slice (some ad) l.length c) ∧ Below w2.heap.size w2 w')
    (first | exact ⟨b0, b1, b2, b4, kp0⟩ | exact ⟨d0, d1, d2, d4, kp3⟩)
    (first | (go_at_call 70; (with_reducible refine (HN3.out _ hrd').mono ?_); rintro e3 w3 ⟨rfl, hb3⟩; obtain ⟨d0, d1, d2, kp3⟩ := cfg_keep (W := w2) (W1 := w2.drew) ⟨b0, b1, b2⟩ kp0 hb3; have d4 := below_at kp3 b4; conv => whnf))
  have hg3 : Gr (w.heap.size + 2) w1 w3 := HG.out.trans (Gr.of_below _ kp3)
  have HG3 := Lib.hid hg3
  have HB3 := Lib.hid (hHS.out w3 hg3)
  clear b0 b1 b2 b4 kp0 hb3 hrd' HN3 hs3 kp3 hg3 HB2
  obtain ⟨x, hx⟩ : ∃ x, gb l (bl l j) = x := ⟨_, rfl⟩
  have hcx : w3.cell? (ad.add (j + q3)) = some (.int .u8 x) := by
    obtain ⟨ad', e', hcell⟩ := HB3.out.1.at_ ((j + q3 : Nat) : Int) (by omega) (by omega)
    injection e' with e'
    subst e'
    rw [Int.toNat_natCast, rd_gb, HBD.out, hx] at hcell
    rw [HBD.out]
    exact hcell
  obtain rfl : 58 = x := by rw [← hx, hc58]
  clear hx hc58
  obtain ⟨n, rfl⟩ : ∃ n : Nat, lv = (n : Int) + 1 := ⟨(lv - 1).toNat, by omega⟩
  have hij : i + 1 < j := hjl1
  obtain ⟨adk, hkb, hk1, hk2⟩ := mid_in ad l.length c (i + 1) (j - 1) (by omega) (by omega) hlc
  have hk1' : ∀ W : World, (Instr.slice 57 (.slice (some ad) l.length c) (some (.int .i64 ((i : Int) + 1))) (some (.int .i64 ((j : Int) - 1))) none).run Tryd.prog W = .ok (.slice (some adk) (j - 1 - (i + 1)) (c - (i + 1))) W := fun W => by
    have := hk1 W
    rw [show ((j - 1 : Nat) : Int) = (j : Int) - 1 by omega] at this
    push_cast at this
    exact this
  have hcl : (cutI l (i + 1) (j - 1)).length = j - 1 - (i + 1) := by unfold cutI; rw [List.length_drop, List.length_take]; omega
  have HCL := Lib.hid hcl
  have HCB : Hid (∀ x ∈ cutI l (i + 1) (j - 1), 0 ≤ x ∧ x ≤ 255) := Lib.hid (fun x hx => HBY.out x (List.mem_of_mem_take (List.mem_of_mem_drop hx)))
  have hkk : adk.block < w.heap.size := by
    rw [hkb]
    exact hadb
  have HKR : Hid (∀ W, ReadsInt W .u8 (some ad) l.length l → ReadsInt W .u8 (some adk) (j - 1 - (i + 1)) (cutI l (i + 1) (j - 1))) := Lib.hid (fun W h => hk2 W l h)
  have hlv1 : ¬ (n : Int) + 1 < 1 := hlv
  clear hk1 hk2 hkb hcl
  have hba : Below w3.heap.size w3 (w3.alloc (.cells #[.slice (some adk) (j - 1 - (i + 1)) (c - (i + 1))] 57)) := (Below.refl _ _).alloc (Nat.le_refl _) _
  have hv22 : V1 (w3.alloc (.cells #[.slice none 0 0] 57)) w3.heap.size (.slice none 0 0) := V1.new w3 _ _ rfl
  have c22 := hv22.cell
  have f22 := hv22.fr
  have c23 := (V1.new (g := w3.heap.size) w3 (.slice (some adk) (j - 1 - (i + 1)) (c - (i + 1))) 57 rfl).cell
  have HG4 : Hid (Gr (w.heap.size + 2) w1 (w3.alloc (.cells #[.slice (some adk) (j - 1 - (i + 1)) (c - (i + 1))] 57))) := Lib.hid (HG3.out.trans (Gr.of_below _ hba))
  obtain ⟨r, hur⟩ : ∃ r, un (cutI l (i + 1) (j - 1)) = some r := ⟨_, un_all _ (fun x hx h92 => by
    obtain ⟨k, hk, rfl⟩ := List.getElem_of_mem hx
    have hk2 : k < j - 1 - (i + 1) := by have := HCL.out; omega
    refine bsf_no hbf k (by omega) ?_
    rw [gb_drop, ← h92]
    have := cutI_gb0 (L := l) (a := i + 1) (b := j - 1) (k := k) (by omega)
    rw [← this]
    unfold gb
    rw [List.getD, List.getElem?_eq_getElem hk]
    rfl)⟩
  have hrc : cutI l (i + 1) (j - 1) = r := by
    have := un_all (cutI l (i + 1) (j - 1)) (fun x hx h92 => by
      obtain ⟨k, hk, rfl⟩ := List.getElem_of_mem hx
      have hk2 : k < j - 1 - (i + 1) := by have := HCL.out; omega
      refine bsf_no hbf k (by omega) ?_
      rw [gb_drop, ← h92]
      have := cutI_gb0 (L := l) (a := i + 1) (b := j - 1) (k := k) (by omega)
      rw [← this]
      unfold gb
      rw [List.getD, List.getElem?_eq_getElem hk]
      rfl)
    rw [hur] at this
    injection this with this
    exact this.symm
  have HR4 : Hid (ReadsInt (w3.alloc (.cells #[.slice (some adk) (j - 1 - (i + 1)) (c - (i + 1))] 57)) .u8 (some adk) (j - 1 - (i + 1)) r) := Lib.hid (by rw [← hrc]; exact HKR.out _ (hHS.out _ HG4.out).1)
  have HUN := Lib.hid hur
  clear hba hv22 hur hrc hbf
  go_upto_region 45 with (fail)
  clear hk1' c22 f22
  generalize w3.alloc (.cells #[.slice (some adk) (j - 1 - (i + 1)) (c - (i + 1))] 57) = w4 at HG4 HR4 c23 ⊢
  obtain ⟨g22, hg22⟩ : ∃ g22, g22 = w3.heap.size := ⟨_, rfl⟩
  rw [← hg22] at c23 ⊢
  clear hg22
  have HB4 := Lib.hid (hHS.out w4 HG4.out)
  have hbad : S.bad (i + 1) (j - 1) = false := by
    rw [HZ.out.2.2.1]
    show (un (cutI l (i + 1) (j - 1))).isNone = false
    rw [HUN.out]
    rfl
  have hQ := HQ.out
  rw [if_neg hlv1, if_neg (by rw [hbad]; simp)] at hQ
  have HQ1 := Lib.hid hQ
  have HRB : Hid (∀ x ∈ r, 0 ≤ x ∧ x ≤ 255) := Lib.hid (un_byte _ _ _ (Nat.le_refl _) HCB.out HUN.out)
  clear hQ hbad
  by_cases hlk : (n : Int) + 1 ≤ (ks.length : Int)
  · obtain ⟨kad, rfl, hkcell⟩ := HB4.out.2.2.2.2.1.at_ (n : Int) (by omega) (by omega)
    obtain ⟨s, hs⟩ : ∃ s, rdOf ByteArray.empty ks (n : Int) = s := ⟨_, rfl⟩
    rw [hs, Int.toNat_natCast] at hkcell
    obtain ⟨d, hd⟩ : ∃ d, decide (some r = some (Kit.nums s)) = d := ⟨_, rfl⟩
    have hSeq : S.eq (i + 1) (j - 1) ((n : Int) + 1 - 1).toNat = d := by
      rw [HZ.out.2.2.1]
      show decide (un (cutI l (i + 1) (j - 1)) = some ((ks.map Kit.nums).getD ((n : Int) + 1 - 1).toNat [])) = d
      rw [show ((n : Int) + 1 - 1).toNat = n by omega, keys_get (by omega), hs, HUN.out]
      exact hd
    have HEQ : Hid (Calls Tryd.prog 78 #[.pointer (some ⟨g22, 0, none⟩), .string s] w4 fun e w' => e = .returned (.bool d) ∧ w' = w4) := Lib.hid (by
      refine (eqs_c g22 _ _ _ r s w4 c23 HR4.out).mono ?_
      rintro e w' ⟨rfl, rfl⟩
      refine ⟨?_, rfl⟩
      rw [eq_key HRB.out, hd])
    have hQ := HQ1.out
    rw [if_pos (by rw [hSlk]; exact hlk), hSeq] at hQ
    have HQ2 := Lib.hid hQ
    clear hs hd hSeq hQ HQ1 c23
    have hsub : (n : Int) + 1 - 1 = n := by omega
    cases d with
    | true =>
      by_cases hkn : kl = (n : Int)
      · subst hkn
        by_cases hlast : (n : Int) + 1 = (ks.length : Int)
        · obtain rfl : (j : Int) + q3 + 1 = z := by
            rw [← HZ.out.1, HH2.out.1, HQ2.out, if_pos rfl, if_pos (by omega), if_pos (by rw [hSlk]; exact hlast), ← HBD.out]
            push_cast
            omega
          have el : ((n : Int) + 1 == (ks.length : Int)) = true := by simpa using hlast
          clear HH2 HQ HQ2 HG3 HG hlast
          go_wp2_with (go_at_call 78; (with_reducible refine HEQ.out.mono ?_); rintro e5 w5 ⟨rfl, rfl⟩; conv => whnf)
          exact HRET.out _ (HB4.out.2.2.2.2.2.2.2)
        · have el : ((n : Int) + 1 == (ks.length : Int)) = false := by simpa using hlast
          have HN : Hid (SkRel S l (w.heap.size + 2) w1 w4 (j + q3 + 1) ((n : Int) + 1) ((n : Int) + 1) true) := Lib.hid ⟨by rw [HH2.out.1, HQ2.out, if_pos rfl, if_pos (by omega), if_neg (by rw [hSlk]; exact hlast), ← HBD.out], HG4.out⟩
          have HK := Lib.hid hlast
          clear HH2 HQ HQ2 HG3 HG hlast
          go_wp2_with (go_at_call 78; (with_reducible refine HEQ.out.mono ?_); rintro e5 w5 ⟨rfl, rfl⟩; conv => whnf)
          exact HGO.out (j + q3 + 1) ((n : Int) + 1) ((n : Int) + 1) (true) _ (by omega) (by omega) ⟨.inl ⟨by omega, by have := HK.out; omega⟩, by omega, by omega, by omega, by omega⟩ HN
      · have ek : (kl == (n : Int)) = false := by simpa using hkn
        have HN : Hid (SkRel S l (w.heap.size + 2) w1 w4 (j + q3 + 1) ((n : Int) + 1) kl true) := Lib.hid ⟨by rw [HH2.out.1, HQ2.out, if_pos rfl, if_neg (by omega), ← HBD.out], HG4.out⟩
        clear HH2 HQ HQ2 HG3 HG hkn
        go_wp2_with (go_at_call 78; (with_reducible refine HEQ.out.mono ?_); rintro e5 w5 ⟨rfl, rfl⟩; conv => whnf)
        exact HGO.out (j + q3 + 1) (kl) ((n : Int) + 1) (true) _ (by omega) (by omega) ⟨hv0, by omega, by omega, by omega, by omega⟩ HN
    | false =>
      have HN : Hid (SkRel S l (w.heap.size + 2) w1 w4 (j + q3 + 1) ((n : Int) + 1) kl false) := Lib.hid ⟨by rw [HH2.out.1, HQ2.out, if_neg (by simp), ← HBD.out], HG4.out⟩
      clear HH2 HQ HQ2 HG3 HG
      go_wp2_with (go_at_call 78; (with_reducible refine HEQ.out.mono ?_); rintro e5 w5 ⟨rfl, rfl⟩; conv => whnf)
      exact HGO.out (j + q3 + 1) (kl) ((n : Int) + 1) (false) _ (by omega) (by omega) ⟨hv0, by omega, by omega, by omega, by omega⟩ HN
  · obtain rfl : -1 = z := by rw [← HZ.out.1, HH2.out.1, HQ1.out, if_neg (by rw [hSlk]; exact hlk)]
    clear HH2 HQ HQ1 HG3 HG
    go_wp2
    exact HRET.out _ (HB4.out.2.2.2.2.2.2.2)
set_option maxHeartbeats 16000000 in
set_option maxRecDepth 1000000 in
theorem find_qesc {u5 : Value} {ks : List ByteArray} {l : List Int} {z : Int} {at_ : Nat → Nat → Int} {ad : Addr} {K : Option Addr} {c ck : Nat} {w w1 wc : World} {S : Sk} {i : Nat} {kl lv : Int} {lm : Bool} {R : Exit → Act → World → Prop} (HP : SkPre ks l z at_ ad K c ck w w1 S) (hlt : i < l.length) (hinv : SkInv ks.length i lv kl) (HH2 : Hid (SkRel S l (w.heap.size + 2) w1 wc i lv kl lm)) {j : Nat} (hx : gb l i = 34) (hq : qe l (i + 1) false = some j) (hbj : bl l j < l.length) (hc58 : gb l (bl l j) = 58) (hlv : ¬ lv < 1) (hbf : bsf (l.drop (i + 1)) (j - (i + 1) - 1) = true)
    (hgo : GoP u5 ks l ad K c ck w w1 S i R)
    (hret : RetP z w R)
    {u6 u14 u15 u16 u17 u18 u19 u20 u21 u22 u23 u24 u25 u26 u27 u28 u29 u30 u31 u32 u33 u34 u41 u42 u43 u44 u45 u46 u47 u48 u49 u50 u51 u52 u53 u54 u55 u56 u57 u58 u59 u60 u61 u62 u63 u64 u65 u66 u67 u68 u69 u70 u71 u72 u73 u74 u75 u76 u77 u78 u79 u80 u81 u82 u83 u84 u85 u86 u87 u88 u89 u90 u91 u92 u93 u94 u95 u96 u97 u98 u99 u100 u101 u102 u103 u104 u105 u106 u107 u108 u109 u110 u111 u112 u113 u114 u115 u116 u117 u118 u119 u120 u121 u122 u123 u124 u125 u126 u127 u128 u129 u130 u131 u132 u133 u134 u135 u136 u137 u138 u139 u140 u141 u142 u143 u144 u145 u146 u147 u148 u149 u150 u151 u152 u153 u154 u155 u156 u157 u158 u159 u160 u161 u162 u163 u164 u165 u166 u167 u168 u169 u170 u171 u172 u173 u174 u175 u176 u177 u178 u179 u180 u181 u182 u183 u184 u185 u186 u187 u188 u189 u190 u191 u192 u193 u194 u195 u196 u197 u198 u199 u200 u201 u202 u203 u204 u205 u206 u207 u208 u209 u210 u211 u212 u213 u214 u215 u216 u217 u218 u219 u220 u221 u222 u223 u224 u225 u226 u227 u228 u229 u230 u231 u232 u233 u234 u235 u236 u237 u238 u239 u240 u241 u242 u243 u244 u245 u246 u247 u248 u249 u250 u251 u252 u253 u254 u255 u256 u257 u258 u259 u260 u261 u262 u263 u264 u265 u266 u267 u268 u269 u270 u271 u272 u273 u274 u275 u276 u277 u278 u279 u280 u281 u282 : Value} :
    Code.wp Tryd.prog sk17 (Exit.inBlock 1 R) ⟨#[.agg #[.bool false, .bool false, .int .i64 0], .slice (some ad) l.length c, .slice K ks.length ck, .pointer (some ⟨w.heap.size, 0, none⟩), .pointer (some ⟨w.heap.size + 1, 0, none⟩), u5, u6, .int .i64 kl, .int .i64 lv, .int .i64 (i : Int), .int .i64 (l.length : Int), .int .i64 (ks.length : Int), .bool lm, .pointer (some ⟨w.heap.size + 1 + 1, 0, none⟩), u14, u15, u16, u17, u18, u19, u20, u21, u22, u23, u24, u25, u26, u27, u28, u29, u30, u31, u32, u33, u34, .slice (some ad) l.length c, .int .i64 (l.length : Int), .slice K ks.length ck, .int .i64 (ks.length : Int), .int .i64 (ks.length : Int), .bool false, u41, u42, u43, u44, u45, u46, u47, u48, u49, u50, u51, u52, u53, u54, u55, u56, u57, u58, u59, u60, u61, u62, u63, u64, u65, u66, u67, u68, u69, u70, u71, u72, u73, u74, u75, u76, u77, u78, u79, u80, u81, u82, u83, u84, u85, u86, u87, u88, u89, u90, u91, u92, u93, u94, u95, u96, u97, u98, u99, u100, u101, u102, u103, u104, u105, u106, u107, u108, u109, u110, u111, u112, u113, u114, u115, u116, u117, u118, u119, u120, u121, u122, u123, u124, u125, u126, u127, u128, u129, u130, u131, u132, u133, u134, u135, u136, u137, u138, u139, u140, u141, u142, u143, u144, u145, u146, u147, u148, u149, u150, u151, u152, u153, u154, u155, u156, u157, u158, u159, u160, u161, u162, u163, u164, u165, u166, u167, u168, u169, u170, u171, u172, u173, u174, u175, u176, u177, u178, u179, u180, u181, u182, u183, u184, u185, u186, u187, u188, u189, u190, u191, u192, u193, u194, u195, u196, u197, u198, u199, u200, u201, u202, u203, u204, u205, u206, u207, u208, u209, u210, u211, u212, u213, u214, u215, u216, u217, u218, u219, u220, u221, u222, u223, u224, u225, u226, u227, u228, u229, u230, u231, u232, u233, u234, u235, u236, u237, u238, u239, u240, u241, u242, u243, u244, u245, u246, u247, u248, u249, u250, u251, u252, u253, u254, u255, u256, u257, u258, u259, u260, u261, u262, u263, u264, u265, u266, u267, u268, u269, u270, u271, u272, u273, u274, u275, u276, u277, u278, u279, u280, u281, u282], []⟩ wc := by
  conv => arg 2; whnf
  obtain ⟨hlc, hlm, hkc, hSlk, hkl, hHS, HZ, HBY, hadb, h4lt⟩ := HP
  obtain ⟨hrd, hcf, c4, hbo, hkr, hEr, hVr, hbw⟩ := hHS.out wc HH2.out.2
  obtain ⟨c0, c1, c2⟩ := hcf
  have hlb : (l.length : Int) ≤ 140737488351232 := by omega
  have hcell' : wc.cell? (ad.add i) = some (.int .u8 34) := by
    obtain ⟨ad', e', hcell⟩ := hrd.at_ i (by omega) (by omega)
    injection e' with e'
    subst e'
    rw [Int.toNat_natCast, rd_gb, hx] at hcell
    exact hcell
  have HX := Lib.hid hx
  have HW := Lib.hid (And.intro hrd (And.intro hbo (And.intro hkr (And.intro hEr (And.intro hVr hbw)))))
  have HGO := Lib.hid hgo
  have HRET := Lib.hid hret
  obtain ⟨hv0, hv1, hv2, hv3, hv4⟩ := hinv
  clear hx hrd hbo hkr hEr hVr hbw hgo hret
  have hci : i ≤ l.length := by omega
  have hjl := qe_le l _ _ _ _ (Nat.le_refl _) hq
  obtain ⟨hjl1, hjl2⟩ := hjl
  have HJ := Lib.hid hq
  have HQ := Lib.hid (sk_qname (S := S) (lv := lv) (kl := kl) (lm := lm) hlt HX.out hq hbj hc58)
  obtain ⟨bq, hbq⟩ := seR_drop l i
  obtain ⟨i5, hi5, hsz5⟩ : ∃ i, Tryd.prog.info? 5 = some i ∧ i.size = 1 := ⟨_, rfl, rfl⟩
  obtain ⟨A', hs1, hs2⟩ := print_cut (P := Tryd.prog) 57 5 .i64 Tryd.underlying57 hi5 hsz5 (some ad) l.length c (i + 1) (by omega)
  have hs1' : ∀ W : World, (Instr.slice 57 (.slice (some ad) l.length c) (some (.int .i64 ((i : Int) + 1))) none none).run Tryd.prog W = .ok (.slice A' (l.length - (i + 1)) (c - (i + 1))) W := fun W => by have := hs1 W; push_cast at this; exact this
  have HSE : Hid (∀ W : World, ReadsInt W .u8 (some ad) l.length l → Calls Tryd.prog 77 #[cfg, .slice A' (l.length - (i + 1)) (c - (i + 1)), .int .u8 34] W fun e w' => e = .returned (.tuple #[.int .i64 (seI l i), .bool bq]) ∧ Below W.heap.size W w') :=
    Lib.hid (fun W hW => by
      have := se_c A' (c - (i + 1)) (l.drop (i + 1)) W (by rw [List.length_drop]; exact hs2 W .u8 l hlc hW) (by rw [List.length_drop]; omega) (fun z hz => HBY.out z (List.mem_of_mem_drop hz)) (by rw [List.length_drop]; omega)
      rw [List.length_drop] at this
      exact this.mono (fun e w' h => ⟨h.1.trans (by rw [hbq]), h.2⟩))
  obtain ⟨se, hse⟩ : ∃ se, seI l i = se := ⟨_, rfl⟩
  rw [hse] at HSE
  have hqd : qe (l.drop (i + 1)) 0 false = some (j - (i + 1)) := by
    rw [qe_drop l (i + 1) _ 0 false (Nat.le_refl _), Nat.add_zero, hq]
    rfl
  obtain rfl : true = bq := by
    unfold seR at hbq
    rw [hqd] at hbq
    simp only [hbf] at hbq
    injection hbq with hbq
    have := congrArg (fun a => a[1]?) hbq
    simpa using this
  clear hqd
  obtain rfl : (j : Int) - i - 1 = se := by rw [← hse]; unfold seI; rw [hq]
  clear hq
  unfold cfg at HSE
  have kp0 : Below wc.heap.size wc wc.drew := (Below.refl _ _).drew
  have hrd' : ReadsInt wc.drew .u8 (some ad) l.length l := HW.out.1
  clear hs1 hs2 hse hbq
  go_upto_region 25 with (fail)
  go_region_held3 (fun w' => w'.cell? ⟨w.heap.size, 0, none⟩ = some (.bool false) ∧ w'.cell? ⟨w.heap.size, 1, none⟩ = some (.bool false) ∧ w'.cell? ⟨w.heap.size, 2, none⟩ = some (.int .i64 0) ∧ w'.cell? ⟨w.heap.size + 1, 0, none⟩ = some (.slice (some ad) l.length c) ∧ Below wc.heap.size wc w')
    (first | exact ⟨c0, c1, c2, c4, kp0⟩ | exact ⟨b0, b1, b2, b4, kp2⟩)
    (first | (go_at_call 77; (with_reducible refine (HSE.out _ hrd').mono ?_); rintro e2 w2 ⟨rfl, hb2⟩; obtain ⟨b0, b1, b2, kp2⟩ := cfg_keep (W := wc) (W1 := wc.drew) ⟨c0, c1, c2⟩ kp0 hb2; have b4 := below_at kp2 c4; conv => whnf))
  have hg2 : Gr (w.heap.size + 2) w1 w2 := HH2.out.2.trans (Gr.of_below _ kp2)
  have HG := Lib.hid hg2
  have HB2 := Lib.hid (hHS.out w2 hg2)
  clear c0 c1 c2 kp0 hb2 hrd' HSE hs1' kp2 hg2 c4 hcell'
  have hne1 : ((j : Int) - i - 1 == -1) = false := beq_eq_false_iff_ne.2 (by omega)
  have hsm : (i : Int) + 1 + ((j : Int) - i - 1) = j := by omega
  obtain ⟨A3, hs3, hs4⟩ := print_cut (P := Tryd.prog) 57 5 .i64 Tryd.underlying57 hi5 hsz5 (some ad) l.length c j hjl2
  have HN3 : Hid (∀ W : World, ReadsInt W .u8 (some ad) l.length l → Calls Tryd.prog 70 #[.agg #[.bool false, .bool false, .int .i64 0], .slice A3 (l.length - j) (c - j)] W fun e w' => e = .returned (.int .i64 (nt (l.drop j))) ∧ Below W.heap.size W w') :=
    Lib.hid (fun W hW => by
      have hl1 : (l.drop j).length = l.length - j := List.length_drop
      have := nt_c A3 (c - j) (l.drop j) W (by rw [hl1]; exact hs4 W .u8 l hlc hW) (by omega) (by omega)
      rw [hl1] at this
      exact this.mono (fun e w' h => ⟨h.1, h.2⟩))
  have hbd := bl_drop l j _ 0 (Nat.le_refl _)
  rw [Nat.add_zero] at hbd
  obtain ⟨q3, hq3⟩ : ∃ q3, bl (l.drop j) 0 = q3 := ⟨_, rfl⟩
  rw [show nt (l.drop j) = (q3 : Int) by rw [nt, hq3, if_pos (by rw [List.length_drop]; omega)]] at HN3
  rw [hq3] at hbd
  have hjq : j + q3 < l.length := by omega
  have hne3 : ((q3 : Int) == -1) = false := beq_eq_false_iff_ne.2 (by omega)
  have HBD := Lib.hid hbd
  clear hq3 hbd hbj
  have kp0 : Below w2.heap.size w2 w2.drew := (Below.refl _ _).drew
  have hrd' : ReadsInt w2.drew .u8 (some ad) l.length l := HB2.out.1
  clear hs4 hi5 hsz5
  go_upto_region 30 with (fail)
  go_region_held3 (fun w' => w'.cell? ⟨w.heap.size, 0, none⟩ = some (.bool false) ∧ w'.cell? ⟨w.heap.size, 1, none⟩ = some (.bool false) ∧ w'.cell? ⟨w.heap.size, 2, none⟩ = some (.int .i64 0) ∧ w'.cell? ⟨w.heap.size + 1, 0, none⟩ = some (.slice (some ad) l.length c) ∧ Below w2.heap.size w2 w')
    (first | exact ⟨b0, b1, b2, b4, kp0⟩ | exact ⟨d0, d1, d2, d4, kp3⟩)
    (first | (go_at_call 70; (with_reducible refine (HN3.out _ hrd').mono ?_); rintro e3 w3 ⟨rfl, hb3⟩; obtain ⟨d0, d1, d2, kp3⟩ := cfg_keep (W := w2) (W1 := w2.drew) ⟨b0, b1, b2⟩ kp0 hb3; have d4 := below_at kp3 b4; conv => whnf))
  have hg3 : Gr (w.heap.size + 2) w1 w3 := HG.out.trans (Gr.of_below _ kp3)
  have HG3 := Lib.hid hg3
  have HB3 := Lib.hid (hHS.out w3 hg3)
  clear b0 b1 b2 b4 kp0 hb3 hrd' HN3 hs3 kp3 hg3 HB2
  obtain ⟨x, hx⟩ : ∃ x, gb l (bl l j) = x := ⟨_, rfl⟩
  have hcx : w3.cell? (ad.add (j + q3)) = some (.int .u8 x) := by
    obtain ⟨ad', e', hcell⟩ := HB3.out.1.at_ ((j + q3 : Nat) : Int) (by omega) (by omega)
    injection e' with e'
    subst e'
    rw [Int.toNat_natCast, rd_gb, HBD.out, hx] at hcell
    rw [HBD.out]
    exact hcell
  obtain rfl : 58 = x := by rw [← hx, hc58]
  clear hx hc58
  obtain ⟨n, rfl⟩ : ∃ n : Nat, lv = (n : Int) + 1 := ⟨(lv - 1).toNat, by omega⟩
  have hij : i + 1 < j := hjl1
  obtain ⟨adk, hkb, hk1, hk2⟩ := mid_in ad l.length c (i + 1) (j - 1) (by omega) (by omega) hlc
  have hk1' : ∀ W : World, (Instr.slice 57 (.slice (some ad) l.length c) (some (.int .i64 ((i : Int) + 1))) (some (.int .i64 ((j : Int) - 1))) none).run Tryd.prog W = .ok (.slice (some adk) (j - 1 - (i + 1)) (c - (i + 1))) W := fun W => by
    have := hk1 W
    rw [show ((j - 1 : Nat) : Int) = (j : Int) - 1 by omega] at this
    push_cast at this
    exact this
  have hcl : (cutI l (i + 1) (j - 1)).length = j - 1 - (i + 1) := by unfold cutI; rw [List.length_drop, List.length_take]; omega
  have HCL := Lib.hid hcl
  have HCB : Hid (∀ x ∈ cutI l (i + 1) (j - 1), 0 ≤ x ∧ x ≤ 255) := Lib.hid (fun x hx => HBY.out x (List.mem_of_mem_take (List.mem_of_mem_drop hx)))
  have hkk : adk.block < w.heap.size := by
    rw [hkb]
    exact hadb
  have HKR : Hid (∀ W, ReadsInt W .u8 (some ad) l.length l → ReadsInt W .u8 (some adk) (j - 1 - (i + 1)) (cutI l (i + 1) (j - 1))) := Lib.hid (fun W h => hk2 W l h)
  have hlv1 : ¬ (n : Int) + 1 < 1 := hlv
  clear hk1 hk2 hkb hcl
  have hba : Below w3.heap.size w3 (w3.alloc (.cells #[.slice none 0 0] 57)) := (Below.refl _ _).alloc (Nat.le_refl _) _
  have hv22 : V1 (w3.alloc (.cells #[.slice none 0 0] 57)) w3.heap.size (.slice none 0 0) := V1.new w3 _ _ rfl
  have HGA : Hid (Gr (w.heap.size + 2) w1 (w3.alloc (.cells #[.slice none 0 0] 57))) := Lib.hid (HG3.out.trans (Gr.of_below _ hba))
  have hg22 : w.heap.size + 2 < w3.heap.size := HB3.out.2.2.2.1.lt
  have hg23 : w1.heap.size ≤ w3.heap.size := HG3.out.1.size
  have HV := Lib.hid hv22
  clear hba hbf hv22
  go_upto_region 41 with (fail)
  clear hk1'
  generalize w3.alloc (.cells #[.slice none 0 0] 57) = wa at HGA HV ⊢
  obtain ⟨g22, he22⟩ : ∃ g22, g22 = w3.heap.size := ⟨_, rfl⟩
  rw [← he22] at HV hg22 hg23 ⊢
  clear he22 HB3 HG3
  obtain ⟨ard, ⟨e0, e1, e2⟩, e4, abo, akr, aer, avr, abw⟩ := hHS.out wa HGA.out
  have hga : Gr (w.heap.size + 2) w1 wa.drew := HGA.out.trans (Gr.drew _ _)
  have HUC : Hid (Calls Tryd.prog 44 #[.agg #[.bool false, .bool false, .int .i64 0], .slice (some adk) (j - 1 - (i + 1)) (c - (i + 1)), .slice (some ⟨w.heap.size + 1 + 1, 0, none⟩) 64 64] wa.drew fun e w' => UnPost wa.drew (w.heap.size + 2) (cutI l (i + 1) (j - 1)) e w') := Lib.hid (by
    obtain ⟨brd, bcf, b4, bbo, bkr, ber, bvr, bbw⟩ := hHS.out wa.drew hga
    have := unc_c (some adk) (c - (i + 1)) (cutI l (i + 1) (j - 1)) wa.drew (by rw [HCL.out]; exact HKR.out _ brd) (by rw [HCL.out]; omega) (fun h => by cases h) HCB.out (w.heap.size + 2) 64 bbo (by omega) (by omega) (fun a e => by injection e with e; subst e; omega) (by rw [HCL.out]; omega) bvr.2.1 bvr.2.2
    rw [HCL.out] at this
    exact this)
  have kp0 : Gr (w.heap.size + 2) wa wa.drew := Gr.drew _ _
  have hsb : ∀ W : World, (Instr.sliceAt 115 (.pointer (some ⟨w.heap.size + 1 + 1, 0, none⟩)) none none none).run Tryd.prog W = .ok (.slice (some ⟨w.heap.size + 1 + 1, 0, none⟩) 64 64) W := fun W => buf_cut _ W
  clear ard abo akr aer avr abw hga
  cases hun : un (cutI l (i + 1) (j - 1)) with
  | none =>
    have HUN := Lib.hid hun
    clear hun
    go_region_held3 (fun w' => w'.cell? ⟨w.heap.size, 0, none⟩ = some (.bool false) ∧ w'.cell? ⟨w.heap.size, 1, none⟩ = some (.bool false) ∧ w'.cell? ⟨w.heap.size, 2, none⟩ = some (.int .i64 0) ∧ Gr (w.heap.size + 2) wa w')
      (first | exact ⟨e0, e1, e2, kp0⟩ | exact ⟨d0, d1, d2, kp3⟩)
      (first | (go_at_call 44; (with_reducible refine HUC.out.mono ?_); intro ee w5 hp; unfold UnPost at hp; rw [HUN.out] at hp; obtain ⟨⟨tp, pp, rfl⟩, hg5⟩ := hp; obtain ⟨d0, d1, d2, kp3⟩ := cfg_keep_gr (W := wa) (W1 := wa.drew) ⟨e0, e1, e2⟩ (by omega) kp0 hg5; conv => whnf))
    have hg5' : Gr (w.heap.size + 2) w1 w5 := HGA.out.trans kp3
    have HB5 := Lib.hid (hHS.out w5 hg5').2.2.2.2.2.2.2
    have hbad : S.bad (i + 1) (j - 1) = true := by
      rw [HZ.out.2.2.1]
      show (un (cutI l (i + 1) (j - 1))).isNone = true
      rw [HUN.out]
      rfl
    obtain rfl : -1 = z := by rw [← HZ.out.1, HH2.out.1, HQ.out, if_neg hlv1, if_pos hbad]
    clear e0 e1 e2 d0 d1 d2 kp0 kp3 hg5 hg5' hbad HH2 HQ HG e4
    go_wp2
    exact HRET.out _ (HB5.out)
  | some r =>
    have HUN := Lib.hid hun
    clear hun
    go_region_held3 (fun w' => w'.cell? ⟨w.heap.size, 0, none⟩ = some (.bool false) ∧ w'.cell? ⟨w.heap.size, 1, none⟩ = some (.bool false) ∧ w'.cell? ⟨w.heap.size, 2, none⟩ = some (.int .i64 0) ∧ Gr (w.heap.size + 2) wa w')
      (first | exact ⟨e0, e1, e2, kp0⟩ | exact ⟨d0, d1, d2, kp3⟩)
      (first | (go_at_call 44; (with_reducible refine HUC.out.mono ?_); intro ee w5 hp; unfold UnPost at hp; rw [HUN.out] at hp; obtain ⟨Ar, cr, rfl, hr5, hc5, hg5⟩ := hp; obtain ⟨d0, d1, d2, kp3⟩ := cfg_keep_gr (W := wa) (W1 := wa.drew) ⟨e0, e1, e2⟩ (by omega) kp0 hg5; conv => whnf))
    have hv5 : V1 w5 g22 (.slice none 0 0) := HV.out.block (kp3.1.block g22 HV.out.lt (fun e => by have := Option.some.inj e; omega))
    have c22 := hv5.cell
    have f22 := hv5.fr
    have c23 := (hv5.set (u := .slice Ar r.length cr)).cell
    have HR4 : Hid (ReadsInt (w5.setCell ⟨g22, 0, none⟩ (.slice Ar r.length cr)) .u8 Ar r.length r) := Lib.hid (reads_set1 hr5 hv5 (fun x h => by cases h))
    have HG4 : Hid (Gr (w.heap.size + 2) w1 (w5.setCell ⟨g22, 0, none⟩ (.slice Ar r.length cr))) := Lib.hid (gr_set (HGA.out.trans kp3) hg23 (by omega))
    clear e0 e1 e2 d0 d1 d2 kp0 hr5 hc5 hg5 hv5 e4
    go_upto_region 45 with (fail)
    clear c22 f22
    generalize w5.setCell ⟨g22, 0, none⟩ (.slice Ar r.length cr) = w4 at HG4 HR4 c23 ⊢
    have HB4 := Lib.hid (hHS.out w4 HG4.out)
    have hbad : S.bad (i + 1) (j - 1) = false := by
      rw [HZ.out.2.2.1]
      show (un (cutI l (i + 1) (j - 1))).isNone = false
      rw [HUN.out]
      rfl
    have hQ := HQ.out
    rw [if_neg hlv1, if_neg (by rw [hbad]; simp)] at hQ
    have HQ1 := Lib.hid hQ
    have HRB : Hid (∀ x ∈ r, 0 ≤ x ∧ x ≤ 255) := Lib.hid (un_byte _ _ _ (Nat.le_refl _) HCB.out HUN.out)
    clear hQ hbad
    by_cases hlk : (n : Int) + 1 ≤ (ks.length : Int)
    · obtain ⟨kad, rfl, hkcell⟩ := HB4.out.2.2.2.2.1.at_ (n : Int) (by omega) (by omega)
      obtain ⟨s, hs⟩ : ∃ s, rdOf ByteArray.empty ks (n : Int) = s := ⟨_, rfl⟩
      rw [hs, Int.toNat_natCast] at hkcell
      obtain ⟨d, hd⟩ : ∃ d, decide (some r = some (Kit.nums s)) = d := ⟨_, rfl⟩
      have hSeq : S.eq (i + 1) (j - 1) ((n : Int) + 1 - 1).toNat = d := by
        rw [HZ.out.2.2.1]
        show decide (un (cutI l (i + 1) (j - 1)) = some ((ks.map Kit.nums).getD ((n : Int) + 1 - 1).toNat [])) = d
        rw [show ((n : Int) + 1 - 1).toNat = n by omega, keys_get (by omega), hs, HUN.out]
        exact hd
      have HEQ : Hid (Calls Tryd.prog 78 #[.pointer (some ⟨g22, 0, none⟩), .string s] w4 fun e w' => e = .returned (.bool d) ∧ w' = w4) := Lib.hid (by
        refine (eqs_c g22 _ _ _ r s w4 c23 HR4.out).mono ?_
        rintro e w' ⟨rfl, rfl⟩
        refine ⟨?_, rfl⟩
        rw [eq_key HRB.out, hd])
      have hQ := HQ1.out
      rw [if_pos (by rw [hSlk]; exact hlk), hSeq] at hQ
      have HQ2 := Lib.hid hQ
      clear hs hd hSeq hQ HQ1 c23
      have hsub : (n : Int) + 1 - 1 = n := by omega
      cases d with
      | true =>
        by_cases hkn : kl = (n : Int)
        · subst hkn
          by_cases hlast : (n : Int) + 1 = (ks.length : Int)
          · obtain rfl : (j : Int) + q3 + 1 = z := by
              rw [← HZ.out.1, HH2.out.1, HQ2.out, if_pos rfl, if_pos (by omega), if_pos (by rw [hSlk]; exact hlast), ← HBD.out]
              push_cast
              omega
            have el : ((n : Int) + 1 == (ks.length : Int)) = true := by simpa using hlast
            clear HH2 HQ HQ2 HG hlast
            go_wp2_with (go_at_call 78; (with_reducible refine HEQ.out.mono ?_); rintro e5 w5 ⟨rfl, rfl⟩; conv => whnf)
            exact HRET.out _ (HB4.out.2.2.2.2.2.2.2)
          · have el : ((n : Int) + 1 == (ks.length : Int)) = false := by simpa using hlast
            have HN : Hid (SkRel S l (w.heap.size + 2) w1 w4 (j + q3 + 1) ((n : Int) + 1) ((n : Int) + 1) true) := Lib.hid ⟨by rw [HH2.out.1, HQ2.out, if_pos rfl, if_pos (by omega), if_neg (by rw [hSlk]; exact hlast), ← HBD.out], HG4.out⟩
            have HK := Lib.hid hlast
            clear HH2 HQ HQ2 HG hlast
            go_wp2_with (go_at_call 78; (with_reducible refine HEQ.out.mono ?_); rintro e5 w5 ⟨rfl, rfl⟩; conv => whnf)
            exact HGO.out (j + q3 + 1) ((n : Int) + 1) ((n : Int) + 1) (true) _ (by omega) (by omega) ⟨.inl ⟨by omega, by have := HK.out; omega⟩, by omega, by omega, by omega, by omega⟩ HN
        · have ek : (kl == (n : Int)) = false := by simpa using hkn
          have HN : Hid (SkRel S l (w.heap.size + 2) w1 w4 (j + q3 + 1) ((n : Int) + 1) kl true) := Lib.hid ⟨by rw [HH2.out.1, HQ2.out, if_pos rfl, if_neg (by omega), ← HBD.out], HG4.out⟩
          clear HH2 HQ HQ2 HG hkn
          go_wp2_with (go_at_call 78; (with_reducible refine HEQ.out.mono ?_); rintro e5 w5 ⟨rfl, rfl⟩; conv => whnf)
          exact HGO.out (j + q3 + 1) (kl) ((n : Int) + 1) (true) _ (by omega) (by omega) ⟨hv0, by omega, by omega, by omega, by omega⟩ HN
      | false =>
        have HN : Hid (SkRel S l (w.heap.size + 2) w1 w4 (j + q3 + 1) ((n : Int) + 1) kl false) := Lib.hid ⟨by rw [HH2.out.1, HQ2.out, if_neg (by simp), ← HBD.out], HG4.out⟩
        clear HH2 HQ HQ2 HG
        go_wp2_with (go_at_call 78; (with_reducible refine HEQ.out.mono ?_); rintro e5 w5 ⟨rfl, rfl⟩; conv => whnf)
        exact HGO.out (j + q3 + 1) (kl) ((n : Int) + 1) (false) _ (by omega) (by omega) ⟨hv0, by omega, by omega, by omega, by omega⟩ HN
    · obtain rfl : -1 = z := by rw [← HZ.out.1, HH2.out.1, HQ1.out, if_neg (by rw [hSlk]; exact hlk)]
      clear HH2 HQ HQ1 HG
      go_wp2
      exact HRET.out _ (HB4.out.2.2.2.2.2.2.2)
end Go.Proofs.YtgbliniamkpocaaDoor.Jp
