/- jsonparser.searchKeysConfig behind the fast skip: one lemma for each kind of byte (written by mk_find.py). -/
import Derived.Test.YtgbliniamkpocaaDoorJpFind3
namespace Go.Proofs.YtgbliniamkpocaaDoor.Jp
open Go.RowKit Go.Proofs.YtgbliniamkpocaaDoorW.PrintWords Go.Proofs.YtgbliniamkpocaaDoor.Kit

set_option maxHeartbeats 16000000 in
set_option maxRecDepth 1000000 in
theorem find_quno {u5 : Value} {ks : List ByteArray} {l : List Int} {z : Int} {at_ : Nat → Nat → Int} {ad : Addr} {K : Option Addr} {c ck : Nat} {w w1 wc : World} {S : Sk} {i : Nat} {kl lv : Int} {lm : Bool} {R : Exit → Act → World → Prop} (HP : SkPre ks l z at_ ad K c ck w w1 S) (hlt : i < l.length) (hinv : SkInv ks.length i lv kl) (HH2 : Hid (SkRel S l (w.heap.size + 2) w1 wc i lv kl lm)) (hx : gb l i = 34) (hq : qe l (i + 1) false = none)
    (hgo : GoP u5 ks l ad K c ck w w1 S i R)
    (hret : RetP z w R)
    {u6 u14 u15 u16 u17 u18 u19 u20 u21 u22 u23 u24 u25 u26 u27 u28 u29 u30 u31 u32 u33 u34 u41 u42 u43 u44 u45 u46 u47 u48 u49 u50 u51 u52 u53 u54 u55 u56 u57 u58 u59 u60 u61 u62 u63 u64 u65 u66 u67 u68 u69 u70 u71 u72 u73 u74 u75 u76 u77 u78 u79 u80 u81 u82 u83 u84 u85 u86 u87 u88 u89 u90 u91 u92 u93 u94 u95 u96 u97 u98 u99 u100 u101 u102 u103 u104 u105 u106 u107 u108 u109 u110 u111 u112 u113 u114 u115 u116 u117 u118 u119 u120 u121 u122 u123 u124 u125 u126 u127 u128 u129 u130 u131 u132 u133 u134 u135 u136 u137 u138 u139 u140 u141 u142 u143 u144 u145 u146 u147 u148 u149 u150 u151 u152 u153 u154 u155 u156 u157 u158 u159 u160 u161 u162 u163 u164 u165 u166 u167 u168 u169 u170 u171 u172 u173 u174 u175 u176 u177 u178 u179 u180 u181 u182 u183 u184 u185 u186 u187 u188 u189 u190 u191 u192 u193 u194 u195 u196 u197 u198 u199 u200 u201 u202 u203 u204 u205 u206 u207 u208 u209 u210 u211 u212 u213 u214 u215 u216 u217 u218 u219 u220 u221 u222 u223 u224 u225 u226 u227 u228 u229 u230 u231 u232 u233 u234 u235 u236 u237 u238 u239 u240 u241 u242 u243 u244 u245 u246 u247 u248 u249 u250 u251 u252 u253 u254 u255 u256 u257 u258 u259 u260 u261 u262 u263 u264 u265 u266 u267 u268 u269 u270 u271 u272 u273 u274 u275 u276 u277 u278 u279 u280 u281 u282 : Value} :
    Code.wp Tryd.prog sk17 (Exit.inBlock 1 R) ⟨#[.agg #[.bool false, .bool false, .int .i64 0], .slice (some ad) l.length c, .slice K ks.length ck, .pointer (some ⟨w.heap.size, 0, none⟩), .pointer (some ⟨w.heap.size + 1, 0, none⟩), u5, u6, .int .i64 kl, .int .i64 lv, .int .i64 (i : Int), .int .i64 (l.length : Int), .int .i64 (ks.length : Int), .bool lm, .pointer (some ⟨w.heap.size + 1 + 1, 0, none⟩), u14, u15, u16, u17, u18, u19, u20, u21, u22, u23, u24, u25, u26, u27, u28, u29, u30, u31, u32, u33, u34, .slice (some ad) l.length c, .int .i64 (l.length : Int), .slice K ks.length ck, .int .i64 (ks.length : Int), .int .i64 (ks.length : Int), .bool false, u41, u42, u43, u44, u45, u46, u47, u48, u49, u50, u51, u52, u53, u54, u55, u56, u57, u58, u59, u60, u61, u62, u63, u64, u65, u66, u67, u68, u69, u70, u71, u72, u73, u74, u75, u76, u77, u78, u79, u80, u81, u82, u83, u84, u85, u86, u87, u88, u89, u90, u91, u92, u93, u94, u95, u96, u97, u98, u99, u100, u101, u102, u103, u104, u105, u106, u107, u108, u109, u110, u111, u112, u113, u114, u115, u116, u117, u118, u119, u120, u121, u122, u123, u124, u125, u126, u127, u128, u129, u130, u131, u132, u133, u134, u135, u136, u137, u138, u139, u140, u141, u142, u143, u144, u145, u146, u147, u148, u149, u150, u151, u152, u153, u154, u155, u156, u157, u158, u159, u160, u161, u162, u163, u164, u165, u166, u167, u168, u169, u170, u171, u172, u173, u174, u175, u176, u177, u178, u179, u180, u181, u182, u183, u184, u185, u186, u187, u188, u189, u190, u191, u192, u193, u194, u195, u196, u197, u198, u199, u200, u201, u202, u203, u204, u205, u206, u207, u208, u209, u210, u211, u212, u213, u214, u215, u216, u217, u218, u219, u220, u221, u222, u223, u224, u225, u226, u227, u228, u229, u230, u231, u232, u233, u234, u235, u236, u237, u238, u239, u240, u241, u242, u243, u244, u245, u246, u247, u248, u249, u250, u251, u252, u253, u254, u255, u256, u257, u258, u259, u260, u261, u262, u263, u264, u265, u266, u267, u268, u269, u270, u271, u272, u273, u274, u275, u276, u277, u278, u279, u280, u281, u282], []⟩ wc := by
  conv => arg 2; whnf
  obtain ⟨hlc, hlm, hkc, hSlk, hkl, hHS, HZ, HBY, hadb, h4lt⟩ := HP
  obtain ⟨hrd, hcf, c4, hbo, hkr, hEr, hVr, hbw⟩ := hHS.out wc HH2.out.2
  obtain ⟨c0, c1, c2⟩ := hcf
  have hlb : (l.length : Int) ≤ 140737488351232 := by omega
  have hcell' : wc.cell? (ad.add i) = some (.int .u8 34) := by
    obtain ⟨ad', e', hcell⟩ := hrd.at_ i (by omega) (by omega)
    injection e' with e'
    subst e'
    rw [Int.toNat_natCast, rd_gb, hx] at hcell
    exact hcell
  have HX := Lib.hid hx
  have HW := Lib.hid (And.intro hrd (And.intro hbo (And.intro hkr (And.intro hEr (And.intro hVr hbw)))))
  have HGO := Lib.hid hgo
  have HRET := Lib.hid hret
  obtain ⟨hv0, hv1, hv2, hv3, hv4⟩ := hinv
  clear hx hrd hbo hkr hEr hVr hbw hgo hret
  have hci : i ≤ l.length := by omega
  have HQ := Lib.hid (sk_quno (S := S) (lv := lv) (kl := kl) (lm := lm) hlt HX.out hq)
  obtain ⟨bq, hbq⟩ := seR_drop l i
  obtain ⟨i5, hi5, hsz5⟩ : ∃ i, Tryd.prog.info? 5 = some i ∧ i.size = 1 := ⟨_, rfl, rfl⟩
  obtain ⟨A', hs1, hs2⟩ := print_cut (P := Tryd.prog) 57 5 .i64 Tryd.underlying57 hi5 hsz5 (some ad) l.length c (i + 1) (by omega)
  have hs1' : ∀ W : World, (Instr.slice 57 (.slice (some ad) l.length c) (some (.int .i64 ((i : Int) + 1))) none none).run Tryd.prog W = .ok (.slice A' (l.length - (i + 1)) (c - (i + 1))) W := fun W => by have := hs1 W; push_cast at this; exact this
  have HSE : Hid (∀ W : World, ReadsInt W .u8 (some ad) l.length l → Calls Tryd.prog 77 #[cfg, .slice A' (l.length - (i + 1)) (c - (i + 1)), .int .u8 34] W fun e w' => e = .returned (.tuple #[.int .i64 (seI l i), .bool bq]) ∧ Below W.heap.size W w') :=
    Lib.hid (fun W hW => by
      have := se_c A' (c - (i + 1)) (l.drop (i + 1)) W (by rw [List.length_drop]; exact hs2 W .u8 l hlc hW) (by rw [List.length_drop]; omega) (fun z hz => HBY.out z (List.mem_of_mem_drop hz)) (by rw [List.length_drop]; omega)
      rw [List.length_drop] at this
      exact this.mono (fun e w' h => ⟨h.1.trans (by rw [hbq]), h.2⟩))
  obtain ⟨se, hse⟩ : ∃ se, seI l i = se := ⟨_, rfl⟩
  rw [hse] at HSE
  obtain rfl : -1 = se := by rw [← hse]; unfold seI; rw [hq]
  unfold cfg at HSE
  have kp0 : Below wc.heap.size wc wc.drew := (Below.refl _ _).drew
  have hrd' : ReadsInt wc.drew .u8 (some ad) l.length l := HW.out.1
  clear hs1 hs2 hse hbq
  go_upto_region 25 with (fail)
  go_region_held3 (fun w' => w'.cell? ⟨w.heap.size, 0, none⟩ = some (.bool false) ∧ w'.cell? ⟨w.heap.size, 1, none⟩ = some (.bool false) ∧ w'.cell? ⟨w.heap.size, 2, none⟩ = some (.int .i64 0) ∧ w'.cell? ⟨w.heap.size + 1, 0, none⟩ = some (.slice (some ad) l.length c) ∧ Below wc.heap.size wc w')
    (first | exact ⟨c0, c1, c2, c4, kp0⟩ | exact ⟨b0, b1, b2, b4, kp2⟩)
    (first | (go_at_call 77; (with_reducible refine (HSE.out _ hrd').mono ?_); rintro e2 w2 ⟨rfl, hb2⟩; obtain ⟨b0, b1, b2, kp2⟩ := cfg_keep (W := wc) (W1 := wc.drew) ⟨c0, c1, c2⟩ kp0 hb2; have b4 := below_at kp2 c4; conv => whnf))
  have hg2 : Gr (w.heap.size + 2) w1 w2 := HH2.out.2.trans (Gr.of_below _ kp2)
  have HG := Lib.hid hg2
  have HB2 := Lib.hid (hHS.out w2 hg2)
  clear c0 c1 c2 kp0 hb2 hrd' HSE hs1' kp2 hg2 c4 hcell'
  obtain rfl : -1 = z := by rw [← HZ.out.1, HH2.out.1, HQ.out]
  go_wp2
  exact HRET.out _ (HB2.out.2.2.2.2.2.2.2)
set_option maxHeartbeats 16000000 in
set_option maxRecDepth 1000000 in
theorem find_qend {u5 : Value} {ks : List ByteArray} {l : List Int} {z : Int} {at_ : Nat → Nat → Int} {ad : Addr} {K : Option Addr} {c ck : Nat} {w w1 wc : World} {S : Sk} {i : Nat} {kl lv : Int} {lm : Bool} {R : Exit → Act → World → Prop} (HP : SkPre ks l z at_ ad K c ck w w1 S) (hlt : i < l.length) (hinv : SkInv ks.length i lv kl) (HH2 : Hid (SkRel S l (w.heap.size + 2) w1 wc i lv kl lm)) {j : Nat} (hx : gb l i = 34) (hq : qe l (i + 1) false = some j) (hbj : l.length ≤ bl l j)
    (hgo : GoP u5 ks l ad K c ck w w1 S i R)
    (hret : RetP z w R)
    {u6 u14 u15 u16 u17 u18 u19 u20 u21 u22 u23 u24 u25 u26 u27 u28 u29 u30 u31 u32 u33 u34 u41 u42 u43 u44 u45 u46 u47 u48 u49 u50 u51 u52 u53 u54 u55 u56 u57 u58 u59 u60 u61 u62 u63 u64 u65 u66 u67 u68 u69 u70 u71 u72 u73 u74 u75 u76 u77 u78 u79 u80 u81 u82 u83 u84 u85 u86 u87 u88 u89 u90 u91 u92 u93 u94 u95 u96 u97 u98 u99 u100 u101 u102 u103 u104 u105 u106 u107 u108 u109 u110 u111 u112 u113 u114 u115 u116 u117 u118 u119 u120 u121 u122 u123 u124 u125 u126 u127 u128 u129 u130 u131 u132 u133 u134 u135 u136 u137 u138 u139 u140 u141 u142 u143 u144 u145 u146 u147 u148 u149 u150 u151 u152 u153 u154 u155 u156 u157 u158 u159 u160 u161 u162 u163 u164 u165 u166 u167 u168 u169 u170 u171 u172 u173 u174 u175 u176 u177 u178 u179 u180 u181 u182 u183 u184 u185 u186 u187 u188 u189 u190 u191 u192 u193 u194 u195 u196 u197 u198 u199 u200 u201 u202 u203 u204 u205 u206 u207 u208 u209 u210 u211 u212 u213 u214 u215 u216 u217 u218 u219 u220 u221 u222 u223 u224 u225 u226 u227 u228 u229 u230 u231 u232 u233 u234 u235 u236 u237 u238 u239 u240 u241 u242 u243 u244 u245 u246 u247 u248 u249 u250 u251 u252 u253 u254 u255 u256 u257 u258 u259 u260 u261 u262 u263 u264 u265 u266 u267 u268 u269 u270 u271 u272 u273 u274 u275 u276 u277 u278 u279 u280 u281 u282 : Value} :
    Code.wp Tryd.prog sk17 (Exit.inBlock 1 R) ⟨#[.agg #[.bool false, .bool false, .int .i64 0], .slice (some ad) l.length c, .slice K ks.length ck, .pointer (some ⟨w.heap.size, 0, none⟩), .pointer (some ⟨w.heap.size + 1, 0, none⟩), u5, u6, .int .i64 kl, .int .i64 lv, .int .i64 (i : Int), .int .i64 (l.length : Int), .int .i64 (ks.length : Int), .bool lm, .pointer (some ⟨w.heap.size + 1 + 1, 0, none⟩), u14, u15, u16, u17, u18, u19, u20, u21, u22, u23, u24, u25, u26, u27, u28, u29, u30, u31, u32, u33, u34, .slice (some ad) l.length c, .int .i64 (l.length : Int), .slice K ks.length ck, .int .i64 (ks.length : Int), .int .i64 (ks.length : Int), .bool false, u41, u42, u43, u44, u45, u46, u47, u48, u49, u50, u51, u52, u53, u54, u55, u56, u57, u58, u59, u60, u61, u62, u63, u64, u65, u66, u67, u68, u69, u70, u71, u72, u73, u74, u75, u76, u77, u78, u79, u80, u81, u82, u83, u84, u85, u86, u87, u88, u89, u90, u91, u92, u93, u94, u95, u96, u97, u98, u99, u100, u101, u102, u103, u104, u105, u106, u107, u108, u109, u110, u111, u112, u113, u114, u115, u116, u117, u118, u119, u120, u121, u122, u123, u124, u125, u126, u127, u128, u129, u130, u131, u132, u133, u134, u135, u136, u137, u138, u139, u140, u141, u142, u143, u144, u145, u146, u147, u148, u149, u150, u151, u152, u153, u154, u155, u156, u157, u158, u159, u160, u161, u162, u163, u164, u165, u166, u167, u168, u169, u170, u171, u172, u173, u174, u175, u176, u177, u178, u179, u180, u181, u182, u183, u184, u185, u186, u187, u188, u189, u190, u191, u192, u193, u194, u195, u196, u197, u198, u199, u200, u201, u202, u203, u204, u205, u206, u207, u208, u209, u210, u211, u212, u213, u214, u215, u216, u217, u218, u219, u220, u221, u222, u223, u224, u225, u226, u227, u228, u229, u230, u231, u232, u233, u234, u235, u236, u237, u238, u239, u240, u241, u242, u243, u244, u245, u246, u247, u248, u249, u250, u251, u252, u253, u254, u255, u256, u257, u258, u259, u260, u261, u262, u263, u264, u265, u266, u267, u268, u269, u270, u271, u272, u273, u274, u275, u276, u277, u278, u279, u280, u281, u282], []⟩ wc := by
  conv => arg 2; whnf
  obtain ⟨hlc, hlm, hkc, hSlk, hkl, hHS, HZ, HBY, hadb, h4lt⟩ := HP
  obtain ⟨hrd, hcf, c4, hbo, hkr, hEr, hVr, hbw⟩ := hHS.out wc HH2.out.2
  obtain ⟨c0, c1, c2⟩ := hcf
  have hlb : (l.length : Int) ≤ 140737488351232 := by omega
  have hcell' : wc.cell? (ad.add i) = some (.int .u8 34) := by
    obtain ⟨ad', e', hcell⟩ := hrd.at_ i (by omega) (by omega)
    injection e' with e'
    subst e'
    rw [Int.toNat_natCast, rd_gb, hx] at hcell
    exact hcell
  have HX := Lib.hid hx
  have HW := Lib.hid (And.intro hrd (And.intro hbo (And.intro hkr (And.intro hEr (And.intro hVr hbw)))))
  have HGO := Lib.hid hgo
  have HRET := Lib.hid hret
  obtain ⟨hv0, hv1, hv2, hv3, hv4⟩ := hinv
  clear hx hrd hbo hkr hEr hVr hbw hgo hret
  have hci : i ≤ l.length := by omega
  have hjl := qe_le l _ _ _ _ (Nat.le_refl _) hq
  obtain ⟨hjl1, hjl2⟩ := hjl
  have HJ := Lib.hid hq
  have HQ := Lib.hid (sk_qend (S := S) (lv := lv) (kl := kl) (lm := lm) hlt HX.out hq hbj)
  obtain ⟨bq, hbq⟩ := seR_drop l i
  obtain ⟨i5, hi5, hsz5⟩ : ∃ i, Tryd.prog.info? 5 = some i ∧ i.size = 1 := ⟨_, rfl, rfl⟩
  obtain ⟨A', hs1, hs2⟩ := print_cut (P := Tryd.prog) 57 5 .i64 Tryd.underlying57 hi5 hsz5 (some ad) l.length c (i + 1) (by omega)
  have hs1' : ∀ W : World, (Instr.slice 57 (.slice (some ad) l.length c) (some (.int .i64 ((i : Int) + 1))) none none).run Tryd.prog W = .ok (.slice A' (l.length - (i + 1)) (c - (i + 1))) W := fun W => by have := hs1 W; push_cast at this; exact this
  have HSE : Hid (∀ W : World, ReadsInt W .u8 (some ad) l.length l → Calls Tryd.prog 77 #[cfg, .slice A' (l.length - (i + 1)) (c - (i + 1)), .int .u8 34] W fun e w' => e = .returned (.tuple #[.int .i64 (seI l i), .bool bq]) ∧ Below W.heap.size W w') :=
    Lib.hid (fun W hW => by
      have := se_c A' (c - (i + 1)) (l.drop (i + 1)) W (by rw [List.length_drop]; exact hs2 W .u8 l hlc hW) (by rw [List.length_drop]; omega) (fun z hz => HBY.out z (List.mem_of_mem_drop hz)) (by rw [List.length_drop]; omega)
      rw [List.length_drop] at this
      exact this.mono (fun e w' h => ⟨h.1.trans (by rw [hbq]), h.2⟩))
  obtain ⟨se, hse⟩ : ∃ se, seI l i = se := ⟨_, rfl⟩
  rw [hse] at HSE
  obtain rfl : (j : Int) - i - 1 = se := by rw [← hse]; unfold seI; rw [hq]
  clear hq
  unfold cfg at HSE
  have kp0 : Below wc.heap.size wc wc.drew := (Below.refl _ _).drew
  have hrd' : ReadsInt wc.drew .u8 (some ad) l.length l := HW.out.1
  clear hs1 hs2 hse hbq
  go_upto_region 25 with (fail)
  go_region_held3 (fun w' => w'.cell? ⟨w.heap.size, 0, none⟩ = some (.bool false) ∧ w'.cell? ⟨w.heap.size, 1, none⟩ = some (.bool false) ∧ w'.cell? ⟨w.heap.size, 2, none⟩ = some (.int .i64 0) ∧ w'.cell? ⟨w.heap.size + 1, 0, none⟩ = some (.slice (some ad) l.length c) ∧ Below wc.heap.size wc w')
    (first | exact ⟨c0, c1, c2, c4, kp0⟩ | exact ⟨b0, b1, b2, b4, kp2⟩)
    (first | (go_at_call 77; (with_reducible refine (HSE.out _ hrd').mono ?_); rintro e2 w2 ⟨rfl, hb2⟩; obtain ⟨b0, b1, b2, kp2⟩ := cfg_keep (W := wc) (W1 := wc.drew) ⟨c0, c1, c2⟩ kp0 hb2; have b4 := below_at kp2 c4; conv => whnf))
  have hg2 : Gr (w.heap.size + 2) w1 w2 := HH2.out.2.trans (Gr.of_below _ kp2)
  have HG := Lib.hid hg2
  have HB2 := Lib.hid (hHS.out w2 hg2)
  clear c0 c1 c2 kp0 hb2 hrd' HSE hs1' kp2 hg2 c4 hcell'
  have hne1 : ((j : Int) - i - 1 == -1) = false := beq_eq_false_iff_ne.2 (by omega)
  have hsm : (i : Int) + 1 + ((j : Int) - i - 1) = j := by omega
  obtain ⟨A3, hs3, hs4⟩ := print_cut (P := Tryd.prog) 57 5 .i64 Tryd.underlying57 hi5 hsz5 (some ad) l.length c j hjl2
  have HN3 : Hid (∀ W : World, ReadsInt W .u8 (some ad) l.length l → Calls Tryd.prog 70 #[.agg #[.bool false, .bool false, .int .i64 0], .slice A3 (l.length - j) (c - j)] W fun e w' => e = .returned (.int .i64 (nt (l.drop j))) ∧ Below W.heap.size W w') :=
    Lib.hid (fun W hW => by
      have hl1 : (l.drop j).length = l.length - j := List.length_drop
      have := nt_c A3 (c - j) (l.drop j) W (by rw [hl1]; exact hs4 W .u8 l hlc hW) (by omega) (by omega)
      rw [hl1] at this
      exact this.mono (fun e w' h => ⟨h.1, h.2⟩))
  have hbd := bl_drop l j _ 0 (Nat.le_refl _)
  rw [Nat.add_zero] at hbd
  rw [show nt (l.drop j) = -1 by rw [nt, if_neg (by rw [List.length_drop]; omega)]] at HN3
  clear hbd
  have kp0 : Below w2.heap.size w2 w2.drew := (Below.refl _ _).drew
  have hrd' : ReadsInt w2.drew .u8 (some ad) l.length l := HB2.out.1
  clear hs4 hi5 hsz5
  go_upto_region 30 with (fail)
  go_region_held3 (fun w' => w'.cell? ⟨w.heap.size, 0, none⟩ = some (.bool false) ∧ w'.cell? ⟨w.heap.size, 1, none⟩ = some (.bool false) ∧ w'.cell? ⟨w.heap.size, 2, none⟩ = some (.int .i64 0) ∧ w'.cell? ⟨w.heap.size + 1, 0, none⟩ = some (.slice (some ad) l.length c) ∧ Below w2.heap.size w2 w')
    (first | exact ⟨b0, b1, b2, b4, kp0⟩ | exact ⟨d0, d1, d2, d4, kp3⟩)
    (first | (go_at_call 70; (with_reducible refine (HN3.out _ hrd').mono ?_); rintro e3 w3 ⟨rfl, hb3⟩; obtain ⟨d0, d1, d2, kp3⟩ := cfg_keep (W := w2) (W1 := w2.drew) ⟨b0, b1, b2⟩ kp0 hb3; have d4 := below_at kp3 b4; conv => whnf))
  have hg3 : Gr (w.heap.size + 2) w1 w3 := HG.out.trans (Gr.of_below _ kp3)
  have HG3 := Lib.hid hg3
  have HB3 := Lib.hid (hHS.out w3 hg3)
  clear b0 b1 b2 b4 kp0 hb3 hrd' HN3 hs3 kp3 hg3 HB2
  obtain rfl : -1 = z := by rw [← HZ.out.1, HH2.out.1, HQ.out]
  go_wp2
  exact HRET.out _ (HB3.out.2.2.2.2.2.2.2)
set_option maxHeartbeats 16000000 in
set_option maxRecDepth 1000000 in
theorem find_qval {u5 : Value} {ks : List ByteArray} {l : List Int} {z : Int} {at_ : Nat → Nat → Int} {ad : Addr} {K : Option Addr} {c ck : Nat} {w w1 wc : World} {S : Sk} {i : Nat} {kl lv : Int} {lm : Bool} {R : Exit → Act → World → Prop} (HP : SkPre ks l z at_ ad K c ck w w1 S) (hlt : i < l.length) (hinv : SkInv ks.length i lv kl) (HH2 : Hid (SkRel S l (w.heap.size + 2) w1 wc i lv kl lm)) {j : Nat} (hx : gb l i = 34) (hq : qe l (i + 1) false = some j) (hbj : bl l j < l.length) (hc58 : gb l (bl l j) ≠ 58)
    (hgo : GoP u5 ks l ad K c ck w w1 S i R)
    (hret : RetP z w R)
    {u6 u14 u15 u16 u17 u18 u19 u20 u21 u22 u23 u24 u25 u26 u27 u28 u29 u30 u31 u32 u33 u34 u41 u42 u43 u44 u45 u46 u47 u48 u49 u50 u51 u52 u53 u54 u55 u56 u57 u58 u59 u60 u61 u62 u63 u64 u65 u66 u67 u68 u69 u70 u71 u72 u73 u74 u75 u76 u77 u78 u79 u80 u81 u82 u83 u84 u85 u86 u87 u88 u89 u90 u91 u92 u93 u94 u95 u96 u97 u98 u99 u100 u101 u102 u103 u104 u105 u106 u107 u108 u109 u110 u111 u112 u113 u114 u115 u116 u117 u118 u119 u120 u121 u122 u123 u124 u125 u126 u127 u128 u129 u130 u131 u132 u133 u134 u135 u136 u137 u138 u139 u140 u141 u142 u143 u144 u145 u146 u147 u148 u149 u150 u151 u152 u153 u154 u155 u156 u157 u158 u159 u160 u161 u162 u163 u164 u165 u166 u167 u168 u169 u170 u171 u172 u173 u174 u175 u176 u177 u178 u179 u180 u181 u182 u183 u184 u185 u186 u187 u188 u189 u190 u191 u192 u193 u194 u195 u196 u197 u198 u199 u200 u201 u202 u203 u204 u205 u206 u207 u208 u209 u210 u211 u212 u213 u214 u215 u216 u217 u218 u219 u220 u221 u222 u223 u224 u225 u226 u227 u228 u229 u230 u231 u232 u233 u234 u235 u236 u237 u238 u239 u240 u241 u242 u243 u244 u245 u246 u247 u248 u249 u250 u251 u252 u253 u254 u255 u256 u257 u258 u259 u260 u261 u262 u263 u264 u265 u266 u267 u268 u269 u270 u271 u272 u273 u274 u275 u276 u277 u278 u279 u280 u281 u282 : Value} :
    Code.wp Tryd.prog sk17 (Exit.inBlock 1 R) ⟨#[.agg #[.bool false, .bool false, .int .i64 0], .slice (some ad) l.length c, .slice K ks.length ck, .pointer (some ⟨w.heap.size, 0, none⟩), .pointer (some ⟨w.heap.size + 1, 0, none⟩), u5, u6, .int .i64 kl, .int .i64 lv, .int .i64 (i : Int), .int .i64 (l.length : Int), .int .i64 (ks.length : Int), .bool lm, .pointer (some ⟨w.heap.size + 1 + 1, 0, none⟩), u14, u15, u16, u17, u18, u19, u20, u21, u22, u23, u24, u25, u26, u27, u28, u29, u30, u31, u32, u33, u34, .slice (some ad) l.length c, .int .i64 (l.length : Int), .slice K ks.length ck, .int .i64 (ks.length : Int), .int .i64 (ks.length : Int), .bool false, u41, u42, u43, u44, u45, u46, u47, u48, u49, u50, u51, u52, u53, u54, u55, u56, u57, u58, u59, u60, u61, u62, u63, u64, u65, u66, u67, u68, u69, u70, u71, u72, u73, u74, u75, u76, u77, u78, u79, u80, u81, u82, u83, u84, u85, u86, u87, u88, u89, u90, u91, u92, u93, u94, u95, u96, u97, u98, u99, u100, u101, u102, u103, u104, u105, u106, u107, u108, u109, u110, u111, u112, u113, u114, u115, u116, u117, u118, u119, u120, u121, u122, u123, u124, u125, u126, u127, u128, u129, u130, u131, u132, u133, u134, u135, u136, u137, u138, u139, u140, u141, u142, u143, u144, u145, u146, u147, u148, u149, u150, u151, u152, u153, u154, u155, u156, u157, u158, u159, u160, u161, u162, u163, u164, u165, u166, u167, u168, u169, u170, u171, u172, u173, u174, u175, u176, u177, u178, u179, u180, u181, u182, u183, u184, u185, u186, u187, u188, u189, u190, u191, u192, u193, u194, u195, u196, u197, u198, u199, u200, u201, u202, u203, u204, u205, u206, u207, u208, u209, u210, u211, u212, u213, u214, u215, u216, u217, u218, u219, u220, u221, u222, u223, u224, u225, u226, u227, u228, u229, u230, u231, u232, u233, u234, u235, u236, u237, u238, u239, u240, u241, u242, u243, u244, u245, u246, u247, u248, u249, u250, u251, u252, u253, u254, u255, u256, u257, u258, u259, u260, u261, u262, u263, u264, u265, u266, u267, u268, u269, u270, u271, u272, u273, u274, u275, u276, u277, u278, u279, u280, u281, u282], []⟩ wc := by
  conv => arg 2; whnf
  obtain ⟨hlc, hlm, hkc, hSlk, hkl, hHS, HZ, HBY, hadb, h4lt⟩ := HP
  obtain ⟨hrd, hcf, c4, hbo, hkr, hEr, hVr, hbw⟩ := hHS.out wc HH2.out.2
  obtain ⟨c0, c1, c2⟩ := hcf
  have hlb : (l.length : Int) ≤ 140737488351232 := by omega
  have hcell' : wc.cell? (ad.add i) = some (.int .u8 34) := by
    obtain ⟨ad', e', hcell⟩ := hrd.at_ i (by omega) (by omega)
    injection e' with e'
    subst e'
    rw [Int.toNat_natCast, rd_gb, hx] at hcell
    exact hcell
  have HX := Lib.hid hx
  have HW := Lib.hid (And.intro hrd (And.intro hbo (And.intro hkr (And.intro hEr (And.intro hVr hbw)))))
  have HGO := Lib.hid hgo
  have HRET := Lib.hid hret
  obtain ⟨hv0, hv1, hv2, hv3, hv4⟩ := hinv
  clear hx hrd hbo hkr hEr hVr hbw hgo hret
  have hci : i ≤ l.length := by omega
  have hjl := qe_le l _ _ _ _ (Nat.le_refl _) hq
  obtain ⟨hjl1, hjl2⟩ := hjl
  have HJ := Lib.hid hq
  have HQ := Lib.hid (sk_qval (S := S) (lv := lv) (kl := kl) (lm := lm) hlt HX.out hq hbj hc58)
  obtain ⟨bq, hbq⟩ := seR_drop l i
  obtain ⟨i5, hi5, hsz5⟩ : ∃ i, Tryd.prog.info? 5 = some i ∧ i.size = 1 := ⟨_, rfl, rfl⟩
  obtain ⟨A', hs1, hs2⟩ := print_cut (P := Tryd.prog) 57 5 .i64 Tryd.underlying57 hi5 hsz5 (some ad) l.length c (i + 1) (by omega)
  have hs1' : ∀ W : World, (Instr.slice 57 (.slice (some ad) l.length c) (some (.int .i64 ((i : Int) + 1))) none none).run Tryd.prog W = .ok (.slice A' (l.length - (i + 1)) (c - (i + 1))) W := fun W => by have := hs1 W; push_cast at this; exact this
  have HSE : Hid (∀ W : World, ReadsInt W .u8 (some ad) l.length l → Calls Tryd.prog 77 #[cfg, .slice A' (l.length - (i + 1)) (c - (i + 1)), .int .u8 34] W fun e w' => e = .returned (.tuple #[.int .i64 (seI l i), .bool bq]) ∧ Below W.heap.size W w') :=
    Lib.hid (fun W hW => by
      have := se_c A' (c - (i + 1)) (l.drop (i + 1)) W (by rw [List.length_drop]; exact hs2 W .u8 l hlc hW) (by rw [List.length_drop]; omega) (fun z hz => HBY.out z (List.mem_of_mem_drop hz)) (by rw [List.length_drop]; omega)
      rw [List.length_drop] at this
      exact this.mono (fun e w' h => ⟨h.1.trans (by rw [hbq]), h.2⟩))
  obtain ⟨se, hse⟩ : ∃ se, seI l i = se := ⟨_, rfl⟩
  rw [hse] at HSE
  obtain rfl : (j : Int) - i - 1 = se := by rw [← hse]; unfold seI; rw [hq]
  clear hq
  unfold cfg at HSE
  have kp0 : Below wc.heap.size wc wc.drew := (Below.refl _ _).drew
  have hrd' : ReadsInt wc.drew .u8 (some ad) l.length l := HW.out.1
  clear hs1 hs2 hse hbq
  go_upto_region 25 with (fail)
  go_region_held3 (fun w' => w'.cell? ⟨w.heap.size, 0, none⟩ = some (.bool false) ∧ w'.cell? ⟨w.heap.size, 1, none⟩ = some (.bool false) ∧ w'.cell? ⟨w.heap.size, 2, none⟩ = some (.int .i64 0) ∧ w'.cell? ⟨w.heap.size + 1, 0, none⟩ = some (.slice (some ad) l.length c) ∧ Below wc.heap.size wc w')
    (first | exact ⟨c0, c1, c2, c4, kp0⟩ | exact ⟨b0, b1, b2, b4, kp2⟩)
    (first | (go_at_call 77; (with_reducible refine (HSE.out _ hrd').mono ?_); rintro e2 w2 ⟨rfl, hb2⟩; obtain ⟨b0, b1, b2, kp2⟩ := cfg_keep (W := wc) (W1 := wc.drew) ⟨c0, c1, c2⟩ kp0 hb2; have b4 := below_at kp2 c4; conv => whnf))
  have hg2 : Gr (w.heap.size + 2) w1 w2 := HH2.out.2.trans (Gr.of_below _ kp2)
  have HG := Lib.hid hg2
  have HB2 := Lib.hid (hHS.out w2 hg2)
  clear c0 c1 c2 kp0 hb2 hrd' HSE hs1' kp2 hg2 c4 hcell'
  have hne1 : ((j : Int) - i - 1 == -1) = false := beq_eq_false_iff_ne.2 (by omega)
  have hsm : (i : Int) + 1 + ((j : Int) - i - 1) = j := by omega
  obtain ⟨A3, hs3, hs4⟩ := print_cut (P := Tryd.prog) 57 5 .i64 Tryd.underlying57 hi5 hsz5 (some ad) l.length c j hjl2
  have HN3 : Hid (∀ W : World, ReadsInt W .u8 (some ad) l.length l → Calls Tryd.prog 70 #[.agg #[.bool false, .bool false, .int .i64 0], .slice A3 (l.length - j) (c - j)] W fun e w' => e = .returned (.int .i64 (nt (l.drop j))) ∧ Below W.heap.size W w') :=
    Lib.hid (fun W hW => by
      have hl1 : (l.drop j).length = l.length - j := List.length_drop
      have := nt_c A3 (c - j) (l.drop j) W (by rw [hl1]; exact hs4 W .u8 l hlc hW) (by omega) (by omega)
      rw [hl1] at this
      exact this.mono (fun e w' h => ⟨h.1, h.2⟩))
  have hbd := bl_drop l j _ 0 (Nat.le_refl _)
  rw [Nat.add_zero] at hbd
  obtain ⟨q3, hq3⟩ : ∃ q3, bl (l.drop j) 0 = q3 := ⟨_, rfl⟩
  rw [show nt (l.drop j) = (q3 : Int) by rw [nt, hq3, if_pos (by rw [List.length_drop]; omega)]] at HN3
  rw [hq3] at hbd
  have hjq : j + q3 < l.length := by omega
  have hne3 : ((q3 : Int) == -1) = false := beq_eq_false_iff_ne.2 (by omega)
  have HBD := Lib.hid hbd
  clear hq3 hbd hbj
  have kp0 : Below w2.heap.size w2 w2.drew := (Below.refl _ _).drew
  have hrd' : ReadsInt w2.drew .u8 (some ad) l.length l := HB2.out.1
  clear hs4 hi5 hsz5
  go_upto_region 30 with (fail)
  go_region_held3 (fun w' => w'.cell? ⟨w.heap.size, 0, none⟩ = some (.bool false) ∧ w'.cell? ⟨w.heap.size, 1, none⟩ = some (.bool false) ∧ w'.cell? ⟨w.heap.size, 2, none⟩ = some (.int .i64 0) ∧ w'.cell? ⟨w.heap.size + 1, 0, none⟩ = some (.slice (some ad) l.length c) ∧ Below w2.heap.size w2 w')
    (first | exact ⟨b0, b1, b2, b4, kp0⟩ | exact ⟨d0, d1, d2, d4, kp3⟩)
    (first | (go_at_call 70; (with_reducible refine (HN3.out _ hrd').mono ?_); rintro e3 w3 ⟨rfl, hb3⟩; obtain ⟨d0, d1, d2, kp3⟩ := cfg_keep (W := w2) (W1 := w2.drew) ⟨b0, b1, b2⟩ kp0 hb3; have d4 := below_at kp3 b4; conv => whnf))
  have hg3 : Gr (w.heap.size + 2) w1 w3 := HG.out.trans (Gr.of_below _ kp3)
  have HG3 := Lib.hid hg3
  have HB3 := Lib.hid (hHS.out w3 hg3)
  clear b0 b1 b2 b4 kp0 hb3 hrd' HN3 hs3 kp3 hg3 HB2
  obtain ⟨x, hx⟩ : ∃ x, gb l (bl l j) = x := ⟨_, rfl⟩
  have hcx : w3.cell? (ad.add (j + q3)) = some (.int .u8 x) := by
    obtain ⟨ad', e', hcell⟩ := HB3.out.1.at_ ((j + q3 : Nat) : Int) (by omega) (by omega)
    injection e' with e'
    subst e'
    rw [Int.toNat_natCast, rd_gb, HBD.out, hx] at hcell
    rw [HBD.out]
    exact hcell
  rw [hx] at hc58
  have e58 : (x == 58) = false := by simpa using hc58
  have HN : Hid (SkRel S l (w.heap.size + 2) w1 w3 (j + q3) lv kl lm) := Lib.hid ⟨by rw [HH2.out.1, HQ.out, HBD.out], HG3.out⟩
  have hsm2 : (j : Int) + q3 - 1 + 1 = j + q3 := by omega
  clear hx hc58 HH2 HQ HG3 HB3 HG
  go_wp2
  exact HGO.out (j + q3) (kl) (lv) (lm) _ (by omega) (by omega) ⟨hv0, by omega, by omega, by omega, by omega⟩ HN
end Go.Proofs.YtgbliniamkpocaaDoor.Jp
