/- jsonparser.searchKeysConfig behind the fast skip: one lemma for each kind of byte (written by mk_find.py). -/
import Derived.Test.YtgbliniamkpocaaDoorJpFind2
namespace Go.Proofs.YtgbliniamkpocaaDoor.Jp
open Go.RowKit Go.Proofs.YtgbliniamkpocaaDoorW.PrintWords Go.Proofs.YtgbliniamkpocaaDoor.Kit

set_option maxHeartbeats 16000000 in
set_option maxRecDepth 1000000 in
theorem find_open {u5 : Value} {ks : List ByteArray} {l : List Int} {z : Int} {at_ : Nat → Nat → Int} {ad : Addr} {K : Option Addr} {c ck : Nat} {w w1 wc : World} {S : Sk} {i : Nat} {kl lv : Int} {lm : Bool} {R : Exit → Act → World → Prop} (HP : SkPre ks l z at_ ad K c ck w w1 S) (hlt : i < l.length) (hinv : SkInv ks.length i lv kl) (HH2 : Hid (SkRel S l (w.heap.size + 2) w1 wc i lv kl lm)) (hlm2 : lm = true) (hx : gb l i = 123)
    (hgo : GoP u5 ks l ad K c ck w w1 S i R)
    (hret : RetP z w R)
    {u6 u14 u15 u16 u17 u18 u19 u20 u21 u22 u23 u24 u25 u26 u27 u28 u29 u30 u31 u32 u33 u34 u41 u42 u43 u44 u45 u46 u47 u48 u49 u50 u51 u52 u53 u54 u55 u56 u57 u58 u59 u60 u61 u62 u63 u64 u65 u66 u67 u68 u69 u70 u71 u72 u73 u74 u75 u76 u77 u78 u79 u80 u81 u82 u83 u84 u85 u86 u87 u88 u89 u90 u91 u92 u93 u94 u95 u96 u97 u98 u99 u100 u101 u102 u103 u104 u105 u106 u107 u108 u109 u110 u111 u112 u113 u114 u115 u116 u117 u118 u119 u120 u121 u122 u123 u124 u125 u126 u127 u128 u129 u130 u131 u132 u133 u134 u135 u136 u137 u138 u139 u140 u141 u142 u143 u144 u145 u146 u147 u148 u149 u150 u151 u152 u153 u154 u155 u156 u157 u158 u159 u160 u161 u162 u163 u164 u165 u166 u167 u168 u169 u170 u171 u172 u173 u174 u175 u176 u177 u178 u179 u180 u181 u182 u183 u184 u185 u186 u187 u188 u189 u190 u191 u192 u193 u194 u195 u196 u197 u198 u199 u200 u201 u202 u203 u204 u205 u206 u207 u208 u209 u210 u211 u212 u213 u214 u215 u216 u217 u218 u219 u220 u221 u222 u223 u224 u225 u226 u227 u228 u229 u230 u231 u232 u233 u234 u235 u236 u237 u238 u239 u240 u241 u242 u243 u244 u245 u246 u247 u248 u249 u250 u251 u252 u253 u254 u255 u256 u257 u258 u259 u260 u261 u262 u263 u264 u265 u266 u267 u268 u269 u270 u271 u272 u273 u274 u275 u276 u277 u278 u279 u280 u281 u282 : Value} :
    Code.wp Tryd.prog sk17 (Exit.inBlock 1 R) ⟨#[.agg #[.bool false, .bool false, .int .i64 0], .slice (some ad) l.length c, .slice K ks.length ck, .pointer (some ⟨w.heap.size, 0, none⟩), .pointer (some ⟨w.heap.size + 1, 0, none⟩), u5, u6, .int .i64 kl, .int .i64 lv, .int .i64 (i : Int), .int .i64 (l.length : Int), .int .i64 (ks.length : Int), .bool lm, .pointer (some ⟨w.heap.size + 1 + 1, 0, none⟩), u14, u15, u16, u17, u18, u19, u20, u21, u22, u23, u24, u25, u26, u27, u28, u29, u30, u31, u32, u33, u34, .slice (some ad) l.length c, .int .i64 (l.length : Int), .slice K ks.length ck, .int .i64 (ks.length : Int), .int .i64 (ks.length : Int), .bool false, u41, u42, u43, u44, u45, u46, u47, u48, u49, u50, u51, u52, u53, u54, u55, u56, u57, u58, u59, u60, u61, u62, u63, u64, u65, u66, u67, u68, u69, u70, u71, u72, u73, u74, u75, u76, u77, u78, u79, u80, u81, u82, u83, u84, u85, u86, u87, u88, u89, u90, u91, u92, u93, u94, u95, u96, u97, u98, u99, u100, u101, u102, u103, u104, u105, u106, u107, u108, u109, u110, u111, u112, u113, u114, u115, u116, u117, u118, u119, u120, u121, u122, u123, u124, u125, u126, u127, u128, u129, u130, u131, u132, u133, u134, u135, u136, u137, u138, u139, u140, u141, u142, u143, u144, u145, u146, u147, u148, u149, u150, u151, u152, u153, u154, u155, u156, u157, u158, u159, u160, u161, u162, u163, u164, u165, u166, u167, u168, u169, u170, u171, u172, u173, u174, u175, u176, u177, u178, u179, u180, u181, u182, u183, u184, u185, u186, u187, u188, u189, u190, u191, u192, u193, u194, u195, u196, u197, u198, u199, u200, u201, u202, u203, u204, u205, u206, u207, u208, u209, u210, u211, u212, u213, u214, u215, u216, u217, u218, u219, u220, u221, u222, u223, u224, u225, u226, u227, u228, u229, u230, u231, u232, u233, u234, u235, u236, u237, u238, u239, u240, u241, u242, u243, u244, u245, u246, u247, u248, u249, u250, u251, u252, u253, u254, u255, u256, u257, u258, u259, u260, u261, u262, u263, u264, u265, u266, u267, u268, u269, u270, u271, u272, u273, u274, u275, u276, u277, u278, u279, u280, u281, u282], []⟩ wc := by
  conv => arg 2; whnf
  obtain ⟨hlc, hlm, hkc, hSlk, hkl, hHS, HZ, HBY, hadb, h4lt⟩ := HP
  obtain ⟨hrd, hcf, c4, hbo, hkr, hEr, hVr, hbw⟩ := hHS.out wc HH2.out.2
  obtain ⟨c0, c1, c2⟩ := hcf
  have hlb : (l.length : Int) ≤ 140737488351232 := by omega
  have hcell' : wc.cell? (ad.add i) = some (.int .u8 123) := by
    obtain ⟨ad', e', hcell⟩ := hrd.at_ i (by omega) (by omega)
    injection e' with e'
    subst e'
    rw [Int.toNat_natCast, rd_gb, hx] at hcell
    exact hcell
  have HX := Lib.hid hx
  have HW := Lib.hid (And.intro hrd (And.intro hbo (And.intro hkr (And.intro hEr (And.intro hVr hbw)))))
  have HGO := Lib.hid hgo
  have HRET := Lib.hid hret
  obtain ⟨hv0, hv1, hv2, hv3, hv4⟩ := hinv
  clear hx hrd hbo hkr hEr hVr hbw hgo hret
  have hci : i ≤ l.length := by omega
  subst hlm2
  have HN : Hid (SkRel S l (w.heap.size + 2) w1 wc (i + 1) (lv + 1) kl true) := Lib.hid ⟨HH2.out.1.trans (sk_open hlt HX.out), HH2.out.2⟩
  clear HH2
  go_wp2
  exact HGO.out (i + 1) (kl) (lv + 1) (true) _ (by omega) (by omega) ⟨by omega, by omega, by omega, by omega, by omega⟩ HN
set_option maxHeartbeats 16000000 in
set_option maxRecDepth 1000000 in
theorem find_over {u5 : Value} {ks : List ByteArray} {l : List Int} {z : Int} {at_ : Nat → Nat → Int} {ad : Addr} {K : Option Addr} {c ck : Nat} {w w1 wc : World} {S : Sk} {i : Nat} {kl lv : Int} {lm : Bool} {R : Exit → Act → World → Prop} (HP : SkPre ks l z at_ ad K c ck w w1 S) (hlt : i < l.length) (hinv : SkInv ks.length i lv kl) (HH2 : Hid (SkRel S l (w.heap.size + 2) w1 wc i lv kl lm)) (hlm2 : lm = false) (hx : gb l i = 123)
    (hgo : GoP u5 ks l ad K c ck w w1 S i R)
    (hret : RetP z w R)
    {u6 u14 u15 u16 u17 u18 u19 u20 u21 u22 u23 u24 u25 u26 u27 u28 u29 u30 u31 u32 u33 u34 u41 u42 u43 u44 u45 u46 u47 u48 u49 u50 u51 u52 u53 u54 u55 u56 u57 u58 u59 u60 u61 u62 u63 u64 u65 u66 u67 u68 u69 u70 u71 u72 u73 u74 u75 u76 u77 u78 u79 u80 u81 u82 u83 u84 u85 u86 u87 u88 u89 u90 u91 u92 u93 u94 u95 u96 u97 u98 u99 u100 u101 u102 u103 u104 u105 u106 u107 u108 u109 u110 u111 u112 u113 u114 u115 u116 u117 u118 u119 u120 u121 u122 u123 u124 u125 u126 u127 u128 u129 u130 u131 u132 u133 u134 u135 u136 u137 u138 u139 u140 u141 u142 u143 u144 u145 u146 u147 u148 u149 u150 u151 u152 u153 u154 u155 u156 u157 u158 u159 u160 u161 u162 u163 u164 u165 u166 u167 u168 u169 u170 u171 u172 u173 u174 u175 u176 u177 u178 u179 u180 u181 u182 u183 u184 u185 u186 u187 u188 u189 u190 u191 u192 u193 u194 u195 u196 u197 u198 u199 u200 u201 u202 u203 u204 u205 u206 u207 u208 u209 u210 u211 u212 u213 u214 u215 u216 u217 u218 u219 u220 u221 u222 u223 u224 u225 u226 u227 u228 u229 u230 u231 u232 u233 u234 u235 u236 u237 u238 u239 u240 u241 u242 u243 u244 u245 u246 u247 u248 u249 u250 u251 u252 u253 u254 u255 u256 u257 u258 u259 u260 u261 u262 u263 u264 u265 u266 u267 u268 u269 u270 u271 u272 u273 u274 u275 u276 u277 u278 u279 u280 u281 u282 : Value} :
    Code.wp Tryd.prog sk17 (Exit.inBlock 1 R) ⟨#[.agg #[.bool false, .bool false, .int .i64 0], .slice (some ad) l.length c, .slice K ks.length ck, .pointer (some ⟨w.heap.size, 0, none⟩), .pointer (some ⟨w.heap.size + 1, 0, none⟩), u5, u6, .int .i64 kl, .int .i64 lv, .int .i64 (i : Int), .int .i64 (l.length : Int), .int .i64 (ks.length : Int), .bool lm, .pointer (some ⟨w.heap.size + 1 + 1, 0, none⟩), u14, u15, u16, u17, u18, u19, u20, u21, u22, u23, u24, u25, u26, u27, u28, u29, u30, u31, u32, u33, u34, .slice (some ad) l.length c, .int .i64 (l.length : Int), .slice K ks.length ck, .int .i64 (ks.length : Int), .int .i64 (ks.length : Int), .bool false, u41, u42, u43, u44, u45, u46, u47, u48, u49, u50, u51, u52, u53, u54, u55, u56, u57, u58, u59, u60, u61, u62, u63, u64, u65, u66, u67, u68, u69, u70, u71, u72, u73, u74, u75, u76, u77, u78, u79, u80, u81, u82, u83, u84, u85, u86, u87, u88, u89, u90, u91, u92, u93, u94, u95, u96, u97, u98, u99, u100, u101, u102, u103, u104, u105, u106, u107, u108, u109, u110, u111, u112, u113, u114, u115, u116, u117, u118, u119, u120, u121, u122, u123, u124, u125, u126, u127, u128, u129, u130, u131, u132, u133, u134, u135, u136, u137, u138, u139, u140, u141, u142, u143, u144, u145, u146, u147, u148, u149, u150, u151, u152, u153, u154, u155, u156, u157, u158, u159, u160, u161, u162, u163, u164, u165, u166, u167, u168, u169, u170, u171, u172, u173, u174, u175, u176, u177, u178, u179, u180, u181, u182, u183, u184, u185, u186, u187, u188, u189, u190, u191, u192, u193, u194, u195, u196, u197, u198, u199, u200, u201, u202, u203, u204, u205, u206, u207, u208, u209, u210, u211, u212, u213, u214, u215, u216, u217, u218, u219, u220, u221, u222, u223, u224, u225, u226, u227, u228, u229, u230, u231, u232, u233, u234, u235, u236, u237, u238, u239, u240, u241, u242, u243, u244, u245, u246, u247, u248, u249, u250, u251, u252, u253, u254, u255, u256, u257, u258, u259, u260, u261, u262, u263, u264, u265, u266, u267, u268, u269, u270, u271, u272, u273, u274, u275, u276, u277, u278, u279, u280, u281, u282], []⟩ wc := by
  conv => arg 2; whnf
  obtain ⟨hlc, hlm, hkc, hSlk, hkl, hHS, HZ, HBY, hadb, h4lt⟩ := HP
  obtain ⟨hrd, hcf, c4, hbo, hkr, hEr, hVr, hbw⟩ := hHS.out wc HH2.out.2
  obtain ⟨c0, c1, c2⟩ := hcf
  have hlb : (l.length : Int) ≤ 140737488351232 := by omega
  have hcell' : wc.cell? (ad.add i) = some (.int .u8 123) := by
    obtain ⟨ad', e', hcell⟩ := hrd.at_ i (by omega) (by omega)
    injection e' with e'
    subst e'
    rw [Int.toNat_natCast, rd_gb, hx] at hcell
    exact hcell
  have HX := Lib.hid hx
  have HW := Lib.hid (And.intro hrd (And.intro hbo (And.intro hkr (And.intro hEr (And.intro hVr hbw)))))
  have HGO := Lib.hid hgo
  have HRET := Lib.hid hret
  obtain ⟨hv0, hv1, hv2, hv3, hv4⟩ := hinv
  clear hx hrd hbo hkr hEr hVr hbw hgo hret
  have hci : i ≤ l.length := by omega
  subst hlm2
  have HQ := Lib.hid (sk_over (S := S) (lv := lv) (kl := kl) hlt HX.out)
  obtain ⟨i5, hi5, hsz5⟩ : ∃ i, Tryd.prog.info? 5 = some i ∧ i.size = 1 := ⟨_, rfl, rfl⟩
  obtain ⟨A', hs1, hs2⟩ := print_cut (P := Tryd.prog) 57 5 .i64 Tryd.underlying57 hi5 hsz5 (some ad) l.length c i hci
  have HSE : Hid (∀ W : World, ReadsInt W .u8 (some ad) l.length l → Calls Tryd.prog 72 #[cfg, .slice A' (l.length - i) (c - i), .int .u8 123, .int .u8 125] W fun e w' => e = .returned (.int .i64 (beI (l.drop i) 123 125)) ∧ Below W.heap.size W w') :=
    Lib.hid (fun W hW => by
      have := be_obj A' (c - i) (l.drop i) W (by rw [List.length_drop]; exact hs2 W .u8 l hlc hW) (by rw [List.length_drop]; omega) (fun z hz => HBY.out z (List.mem_of_mem_drop hz)) (by rw [List.length_drop]; omega)
      rw [List.length_drop] at this
      exact this.mono (fun e w' h => ⟨h.1, h.2⟩))
  obtain ⟨se, hse⟩ : ∃ se, beI (l.drop i) 123 125 = se := ⟨_, rfl⟩
  rw [hse] at HSE
  have hB : match be l 123 125 i 0 with | some j => se = (j : Int) - i ∧ i < j ∧ j ≤ l.length | none => se = -1 := by
    rw [← hse, beI_drop]
    cases h : be l 123 125 i 0 with
    | none => rfl
    | some j =>
      have := be_le l _ _ _ _ _ _ (Nat.le_refl _) h
      exact ⟨rfl, by omega, by omega⟩
  have HB0 := Lib.hid hB
  clear hB
  unfold cfg at HSE
  have kp0 : Below wc.heap.size wc wc.drew := (Below.refl _ _).drew
  have hrd' : ReadsInt wc.drew .u8 (some ad) l.length l := HW.out.1
  clear hs2 hi5 hsz5 hse
  go_upto_region 57 with (fail)
  go_region_held3 (fun w' => w'.cell? ⟨w.heap.size, 0, none⟩ = some (.bool false) ∧ w'.cell? ⟨w.heap.size, 1, none⟩ = some (.bool false) ∧ w'.cell? ⟨w.heap.size, 2, none⟩ = some (.int .i64 0) ∧ w'.cell? ⟨w.heap.size + 1, 0, none⟩ = some (.slice (some ad) l.length c) ∧ Below wc.heap.size wc w')
    (first | exact ⟨c0, c1, c2, c4, kp0⟩ | exact ⟨b0, b1, b2, b4, kp2⟩)
    (first | (go_at_call 72; (with_reducible refine (HSE.out _ hrd').mono ?_); rintro e2 w2 ⟨rfl, hb2⟩; obtain ⟨b0, b1, b2, kp2⟩ := cfg_keep (W := wc) (W1 := wc.drew) ⟨c0, c1, c2⟩ kp0 hb2; have b4 := below_at kp2 c4; conv => whnf))
  have hg2 : Gr (w.heap.size + 2) w1 w2 := HH2.out.2.trans (Gr.of_below _ kp2)
  have HG := Lib.hid hg2
  have HB2 := Lib.hid (hHS.out w2 hg2).2.2.2.2.2.2.2
  clear c0 c1 c2 kp0 hb2 hrd' HSE hs1 b0 b1 b2 kp2 hg2 c4
  have hB := HB0.out
  cases hbe : be l 123 125 i 0 with
  | none =>
    rw [hbe] at hB
    simp only at hB
    subst hB
    have hr : sk S l 0 0 0 true = -1 := by rw [HH2.out.1, HQ.out, hbe]
    obtain rfl : -1 = z := hr.symm.trans HZ.out.1
    clear hr hbe b4
    go_wp2
    exact HRET.out _ (HB2.out)
  | some j =>
    rw [hbe] at hB
    obtain ⟨rfl, hij, hjl⟩ := hB
    have HN : Hid (SkRel S l (w.heap.size + 2) w1 w2 j lv kl false) := Lib.hid ⟨by rw [HH2.out.1, HQ.out, hbe], HG.out⟩
    have hne : ((j : Int) - i == -1) = false := beq_eq_false_iff_ne.2 (by omega)
    have hjj : (i : Int) + ((j : Int) - i - 1) + 1 = j := by omega
    clear hbe b4 HH2 HG HQ
    go_wp2
    exact HGO.out (j) (kl) (lv) (false) _ (hij) (by omega) ⟨hv0, by omega, by omega, by omega, by omega⟩ HN
set_option maxHeartbeats 16000000 in
set_option maxRecDepth 1000000 in
theorem find_noindex {u5 : Value} {ks : List ByteArray} {l : List Int} {z : Int} {at_ : Nat → Nat → Int} {ad : Addr} {K : Option Addr} {c ck : Nat} {w w1 wc : World} {S : Sk} {i : Nat} {kl lv : Int} {lm : Bool} {R : Exit → Act → World → Prop} (HP : SkPre ks l z at_ ad K c ck w w1 S) (hlt : i < l.length) (hinv : SkInv ks.length i lv kl) (HH2 : Hid (SkRel S l (w.heap.size + 2) w1 wc i lv kl lm)) (hx : gb l i = 91) (hnx : ¬ (kl = lv ∧ S.ix lv.toNat = true))
    (hgo : GoP u5 ks l ad K c ck w w1 S i R)
    (hret : RetP z w R)
    {u6 u14 u15 u16 u17 u18 u19 u20 u21 u22 u23 u24 u25 u26 u27 u28 u29 u30 u31 u32 u33 u34 u41 u42 u43 u44 u45 u46 u47 u48 u49 u50 u51 u52 u53 u54 u55 u56 u57 u58 u59 u60 u61 u62 u63 u64 u65 u66 u67 u68 u69 u70 u71 u72 u73 u74 u75 u76 u77 u78 u79 u80 u81 u82 u83 u84 u85 u86 u87 u88 u89 u90 u91 u92 u93 u94 u95 u96 u97 u98 u99 u100 u101 u102 u103 u104 u105 u106 u107 u108 u109 u110 u111 u112 u113 u114 u115 u116 u117 u118 u119 u120 u121 u122 u123 u124 u125 u126 u127 u128 u129 u130 u131 u132 u133 u134 u135 u136 u137 u138 u139 u140 u141 u142 u143 u144 u145 u146 u147 u148 u149 u150 u151 u152 u153 u154 u155 u156 u157 u158 u159 u160 u161 u162 u163 u164 u165 u166 u167 u168 u169 u170 u171 u172 u173 u174 u175 u176 u177 u178 u179 u180 u181 u182 u183 u184 u185 u186 u187 u188 u189 u190 u191 u192 u193 u194 u195 u196 u197 u198 u199 u200 u201 u202 u203 u204 u205 u206 u207 u208 u209 u210 u211 u212 u213 u214 u215 u216 u217 u218 u219 u220 u221 u222 u223 u224 u225 u226 u227 u228 u229 u230 u231 u232 u233 u234 u235 u236 u237 u238 u239 u240 u241 u242 u243 u244 u245 u246 u247 u248 u249 u250 u251 u252 u253 u254 u255 u256 u257 u258 u259 u260 u261 u262 u263 u264 u265 u266 u267 u268 u269 u270 u271 u272 u273 u274 u275 u276 u277 u278 u279 u280 u281 u282 : Value} :
    Code.wp Tryd.prog sk17 (Exit.inBlock 1 R) ⟨#[.agg #[.bool false, .bool false, .int .i64 0], .slice (some ad) l.length c, .slice K ks.length ck, .pointer (some ⟨w.heap.size, 0, none⟩), .pointer (some ⟨w.heap.size + 1, 0, none⟩), u5, u6, .int .i64 kl, .int .i64 lv, .int .i64 (i : Int), .int .i64 (l.length : Int), .int .i64 (ks.length : Int), .bool lm, .pointer (some ⟨w.heap.size + 1 + 1, 0, none⟩), u14, u15, u16, u17, u18, u19, u20, u21, u22, u23, u24, u25, u26, u27, u28, u29, u30, u31, u32, u33, u34, .slice (some ad) l.length c, .int .i64 (l.length : Int), .slice K ks.length ck, .int .i64 (ks.length : Int), .int .i64 (ks.length : Int), .bool false, u41, u42, u43, u44, u45, u46, u47, u48, u49, u50, u51, u52, u53, u54, u55, u56, u57, u58, u59, u60, u61, u62, u63, u64, u65, u66, u67, u68, u69, u70, u71, u72, u73, u74, u75, u76, u77, u78, u79, u80, u81, u82, u83, u84, u85, u86, u87, u88, u89, u90, u91, u92, u93, u94, u95, u96, u97, u98, u99, u100, u101, u102, u103, u104, u105, u106, u107, u108, u109, u110, u111, u112, u113, u114, u115, u116, u117, u118, u119, u120, u121, u122, u123, u124, u125, u126, u127, u128, u129, u130, u131, u132, u133, u134, u135, u136, u137, u138, u139, u140, u141, u142, u143, u144, u145, u146, u147, u148, u149, u150, u151, u152, u153, u154, u155, u156, u157, u158, u159, u160, u161, u162, u163, u164, u165, u166, u167, u168, u169, u170, u171, u172, u173, u174, u175, u176, u177, u178, u179, u180, u181, u182, u183, u184, u185, u186, u187, u188, u189, u190, u191, u192, u193, u194, u195, u196, u197, u198, u199, u200, u201, u202, u203, u204, u205, u206, u207, u208, u209, u210, u211, u212, u213, u214, u215, u216, u217, u218, u219, u220, u221, u222, u223, u224, u225, u226, u227, u228, u229, u230, u231, u232, u233, u234, u235, u236, u237, u238, u239, u240, u241, u242, u243, u244, u245, u246, u247, u248, u249, u250, u251, u252, u253, u254, u255, u256, u257, u258, u259, u260, u261, u262, u263, u264, u265, u266, u267, u268, u269, u270, u271, u272, u273, u274, u275, u276, u277, u278, u279, u280, u281, u282], []⟩ wc := by
  conv => arg 2; whnf
  obtain ⟨hlc, hlm, hkc, hSlk, hkl, hHS, HZ, HBY, hadb, h4lt⟩ := HP
  obtain ⟨hrd, hcf, c4, hbo, hkr, hEr, hVr, hbw⟩ := hHS.out wc HH2.out.2
  obtain ⟨c0, c1, c2⟩ := hcf
  have hlb : (l.length : Int) ≤ 140737488351232 := by omega
  have hcell' : wc.cell? (ad.add i) = some (.int .u8 91) := by
    obtain ⟨ad', e', hcell⟩ := hrd.at_ i (by omega) (by omega)
    injection e' with e'
    subst e'
    rw [Int.toNat_natCast, rd_gb, hx] at hcell
    exact hcell
  have HX := Lib.hid hx
  have HW := Lib.hid (And.intro hrd (And.intro hbo (And.intro hkr (And.intro hEr (And.intro hVr hbw)))))
  have HGO := Lib.hid hgo
  have HRET := Lib.hid hret
  obtain ⟨hv0, hv1, hv2, hv3, hv4⟩ := hinv
  clear hx hrd hbo hkr hEr hVr hbw hgo hret
  have hci : i ≤ l.length := by omega
  have HQ := Lib.hid (sk_noindex (S := S) (lv := lv) (kl := kl) (lm := lm) hlt HX.out hnx)
  by_cases hkv : kl = lv
  · subst hkv
    have hkn : 0 ≤ kl ∧ kl < (ks.length : Int) := by omega
    obtain ⟨n, rfl⟩ := Int.eq_ofNat_of_zero_le hkn.1
    obtain ⟨kad, rfl, hkcell⟩ := HW.out.2.2.1.at_ (n : Int) (by omega) (by omega)
    obtain ⟨s, hs⟩ : ∃ s, rdOf ByteArray.empty ks (n : Int) = s := ⟨_, rfl⟩
    rw [hs, Int.toNat_natCast] at hkcell
    have hsx : gb (Kit.nums s) 0 ≠ 91 := by
      intro h
      apply hnx
      refine ⟨rfl, ?_⟩
      rw [HZ.out.2.2.1]
      show decide (gb ((ks.map Kit.nums).getD (n : Int).toNat []) 0 = 91) = true
      rw [Int.toNat_natCast, keys_get (by omega), hs, h]
      rfl
    clear hnx hs hkn
    rcases Nat.eq_zero_or_pos s.size with hs0 | hs0
    · clear hsx
      obtain ⟨i5, hi5, hsz5⟩ : ∃ i, Tryd.prog.info? 5 = some i ∧ i.size = 1 := ⟨_, rfl, rfl⟩
      obtain ⟨A', hs1, hs2⟩ := print_cut (P := Tryd.prog) 57 5 .i64 Tryd.underlying57 hi5 hsz5 (some ad) l.length c i hci
      have HSE : Hid (∀ W : World, ReadsInt W .u8 (some ad) l.length l → Calls Tryd.prog 72 #[cfg, .slice A' (l.length - i) (c - i), .int .u8 91, .int .u8 93] W fun e w' => e = .returned (.int .i64 (beI (l.drop i) 91 93)) ∧ Below W.heap.size W w') :=
        Lib.hid (fun W hW => by
          have := be_arr A' (c - i) (l.drop i) W (by rw [List.length_drop]; exact hs2 W .u8 l hlc hW) (by rw [List.length_drop]; omega) (fun z hz => HBY.out z (List.mem_of_mem_drop hz)) (by rw [List.length_drop]; omega)
          rw [List.length_drop] at this
          exact this.mono (fun e w' h => ⟨h.1, h.2⟩))
      obtain ⟨se, hse⟩ : ∃ se, beI (l.drop i) 91 93 = se := ⟨_, rfl⟩
      rw [hse] at HSE
      have hB : match be l 91 93 i 0 with | some j => se = (j : Int) - i ∧ i < j ∧ j ≤ l.length | none => se = -1 := by
        rw [← hse, beI_drop]
        cases h : be l 91 93 i 0 with
        | none => rfl
        | some j =>
          have := be_le l _ _ _ _ _ _ (Nat.le_refl _) h
          exact ⟨rfl, by omega, by omega⟩
      have HB0 := Lib.hid hB
      clear hB
      unfold cfg at HSE
      have kp0 : Below wc.heap.size wc wc.drew := (Below.refl _ _).drew
      have hrd' : ReadsInt wc.drew .u8 (some ad) l.length l := HW.out.1
      clear hs2 hi5 hsz5 hse
      go_upto_region 85 with (fail)
      go_region_held3 (fun w' => w'.cell? ⟨w.heap.size, 0, none⟩ = some (.bool false) ∧ w'.cell? ⟨w.heap.size, 1, none⟩ = some (.bool false) ∧ w'.cell? ⟨w.heap.size, 2, none⟩ = some (.int .i64 0) ∧ w'.cell? ⟨w.heap.size + 1, 0, none⟩ = some (.slice (some ad) l.length c) ∧ Below wc.heap.size wc w')
        (first | exact ⟨c0, c1, c2, c4, kp0⟩ | exact ⟨b0, b1, b2, b4, kp2⟩)
        (first | (go_at_call 72; (with_reducible refine (HSE.out _ hrd').mono ?_); rintro e2 w2 ⟨rfl, hb2⟩; obtain ⟨b0, b1, b2, kp2⟩ := cfg_keep (W := wc) (W1 := wc.drew) ⟨c0, c1, c2⟩ kp0 hb2; have b4 := below_at kp2 c4; conv => whnf))
      have hg2 : Gr (w.heap.size + 2) w1 w2 := HH2.out.2.trans (Gr.of_below _ kp2)
      have HG := Lib.hid hg2
      have HB2 := Lib.hid (hHS.out w2 hg2).2.2.2.2.2.2.2
      clear c0 c1 c2 kp0 hb2 hrd' HSE hs1 b0 b1 b2 kp2 hg2 c4
      have hB := HB0.out
      cases hbe : be l 91 93 i 0 with
      | none =>
        rw [hbe] at hB
        simp only at hB
        subst hB
        have hr : sk S l 0 0 0 true = -1 := by rw [HH2.out.1, HQ.out, hbe]
        obtain rfl : -1 = z := hr.symm.trans HZ.out.1
        clear hr hbe b4
        go_wp2
        exact HRET.out _ (HB2.out)
      | some j =>
        rw [hbe] at hB
        obtain ⟨rfl, hij, hjl⟩ := hB
        have HN : Hid (SkRel S l (w.heap.size + 2) w1 w2 j (n : Int) (n : Int) lm) := Lib.hid ⟨by rw [HH2.out.1, HQ.out, hbe], HG.out⟩
        have hne : ((j : Int) - i == -1) = false := beq_eq_false_iff_ne.2 (by omega)
        have hjj : (i : Int) + ((j : Int) - i - 1) + 1 = j := by omega
        clear hbe b4 HH2 HG HQ
        go_wp2
        exact HGO.out (j) ((n : Int)) ((n : Int)) (lm) _ (hij) (by omega) ⟨hv0, by omega, by omega, by omega, by omega⟩ HN
    · have hx0 : gb (Kit.nums s) 0 = (s[0].toNat : Int) := nums_get s 0 hs0
      rw [hx0] at hsx
      have e91 : ((s[0].toNat : Int) == 91) = false := by simpa using hsx
      clear hx0 hsx
      obtain ⟨i5, hi5, hsz5⟩ : ∃ i, Tryd.prog.info? 5 = some i ∧ i.size = 1 := ⟨_, rfl, rfl⟩
      obtain ⟨A', hs1, hs2⟩ := print_cut (P := Tryd.prog) 57 5 .i64 Tryd.underlying57 hi5 hsz5 (some ad) l.length c i hci
      have HSE : Hid (∀ W : World, ReadsInt W .u8 (some ad) l.length l → Calls Tryd.prog 72 #[cfg, .slice A' (l.length - i) (c - i), .int .u8 91, .int .u8 93] W fun e w' => e = .returned (.int .i64 (beI (l.drop i) 91 93)) ∧ Below W.heap.size W w') :=
        Lib.hid (fun W hW => by
          have := be_arr A' (c - i) (l.drop i) W (by rw [List.length_drop]; exact hs2 W .u8 l hlc hW) (by rw [List.length_drop]; omega) (fun z hz => HBY.out z (List.mem_of_mem_drop hz)) (by rw [List.length_drop]; omega)
          rw [List.length_drop] at this
          exact this.mono (fun e w' h => ⟨h.1, h.2⟩))
      obtain ⟨se, hse⟩ : ∃ se, beI (l.drop i) 91 93 = se := ⟨_, rfl⟩
      rw [hse] at HSE
      have hB : match be l 91 93 i 0 with | some j => se = (j : Int) - i ∧ i < j ∧ j ≤ l.length | none => se = -1 := by
        rw [← hse, beI_drop]
        cases h : be l 91 93 i 0 with
        | none => rfl
        | some j =>
          have := be_le l _ _ _ _ _ _ (Nat.le_refl _) h
          exact ⟨rfl, by omega, by omega⟩
      have HB0 := Lib.hid hB
      clear hB
      unfold cfg at HSE
      have kp0 : Below wc.heap.size wc wc.drew := (Below.refl _ _).drew
      have hrd' : ReadsInt wc.drew .u8 (some ad) l.length l := HW.out.1
      clear hs2 hi5 hsz5 hse
      go_upto_region 85 with (fail)
      go_region_held3 (fun w' => w'.cell? ⟨w.heap.size, 0, none⟩ = some (.bool false) ∧ w'.cell? ⟨w.heap.size, 1, none⟩ = some (.bool false) ∧ w'.cell? ⟨w.heap.size, 2, none⟩ = some (.int .i64 0) ∧ w'.cell? ⟨w.heap.size + 1, 0, none⟩ = some (.slice (some ad) l.length c) ∧ Below wc.heap.size wc w')
        (first | exact ⟨c0, c1, c2, c4, kp0⟩ | exact ⟨b0, b1, b2, b4, kp2⟩)
        (first | (go_at_call 72; (with_reducible refine (HSE.out _ hrd').mono ?_); rintro e2 w2 ⟨rfl, hb2⟩; obtain ⟨b0, b1, b2, kp2⟩ := cfg_keep (W := wc) (W1 := wc.drew) ⟨c0, c1, c2⟩ kp0 hb2; have b4 := below_at kp2 c4; conv => whnf))
      have hg2 : Gr (w.heap.size + 2) w1 w2 := HH2.out.2.trans (Gr.of_below _ kp2)
      have HG := Lib.hid hg2
      have HB2 := Lib.hid (hHS.out w2 hg2).2.2.2.2.2.2.2
      clear c0 c1 c2 kp0 hb2 hrd' HSE hs1 b0 b1 b2 kp2 hg2 c4
      have hB := HB0.out
      cases hbe : be l 91 93 i 0 with
      | none =>
        rw [hbe] at hB
        simp only at hB
        subst hB
        have hr : sk S l 0 0 0 true = -1 := by rw [HH2.out.1, HQ.out, hbe]
        obtain rfl : -1 = z := hr.symm.trans HZ.out.1
        clear hr hbe b4
        go_wp2
        exact HRET.out _ (HB2.out)
      | some j =>
        rw [hbe] at hB
        obtain ⟨rfl, hij, hjl⟩ := hB
        have HN : Hid (SkRel S l (w.heap.size + 2) w1 w2 j (n : Int) (n : Int) lm) := Lib.hid ⟨by rw [HH2.out.1, HQ.out, hbe], HG.out⟩
        have hne : ((j : Int) - i == -1) = false := beq_eq_false_iff_ne.2 (by omega)
        have hjj : (i : Int) + ((j : Int) - i - 1) + 1 = j := by omega
        clear hbe b4 HH2 HG HQ
        go_wp2
        exact HGO.out (j) ((n : Int)) ((n : Int)) (lm) _ (hij) (by omega) ⟨hv0, by omega, by omega, by omega, by omega⟩ HN
  · have e1 : (kl == lv) = false := by simpa using hkv
    clear hnx hkv
    obtain ⟨i5, hi5, hsz5⟩ : ∃ i, Tryd.prog.info? 5 = some i ∧ i.size = 1 := ⟨_, rfl, rfl⟩
    obtain ⟨A', hs1, hs2⟩ := print_cut (P := Tryd.prog) 57 5 .i64 Tryd.underlying57 hi5 hsz5 (some ad) l.length c i hci
    have HSE : Hid (∀ W : World, ReadsInt W .u8 (some ad) l.length l → Calls Tryd.prog 72 #[cfg, .slice A' (l.length - i) (c - i), .int .u8 91, .int .u8 93] W fun e w' => e = .returned (.int .i64 (beI (l.drop i) 91 93)) ∧ Below W.heap.size W w') :=
      Lib.hid (fun W hW => by
        have := be_arr A' (c - i) (l.drop i) W (by rw [List.length_drop]; exact hs2 W .u8 l hlc hW) (by rw [List.length_drop]; omega) (fun z hz => HBY.out z (List.mem_of_mem_drop hz)) (by rw [List.length_drop]; omega)
        rw [List.length_drop] at this
        exact this.mono (fun e w' h => ⟨h.1, h.2⟩))
    obtain ⟨se, hse⟩ : ∃ se, beI (l.drop i) 91 93 = se := ⟨_, rfl⟩
    rw [hse] at HSE
    have hB : match be l 91 93 i 0 with | some j => se = (j : Int) - i ∧ i < j ∧ j ≤ l.length | none => se = -1 := by
      rw [← hse, beI_drop]
      cases h : be l 91 93 i 0 with
      | none => rfl
      | some j =>
        have := be_le l _ _ _ _ _ _ (Nat.le_refl _) h
        exact ⟨rfl, by omega, by omega⟩
    have HB0 := Lib.hid hB
    clear hB
    unfold cfg at HSE
    have kp0 : Below wc.heap.size wc wc.drew := (Below.refl _ _).drew
    have hrd' : ReadsInt wc.drew .u8 (some ad) l.length l := HW.out.1
    clear hs2 hi5 hsz5 hse
    go_upto_region 85 with (fail)
    go_region_held3 (fun w' => w'.cell? ⟨w.heap.size, 0, none⟩ = some (.bool false) ∧ w'.cell? ⟨w.heap.size, 1, none⟩ = some (.bool false) ∧ w'.cell? ⟨w.heap.size, 2, none⟩ = some (.int .i64 0) ∧ w'.cell? ⟨w.heap.size + 1, 0, none⟩ = some (.slice (some ad) l.length c) ∧ Below wc.heap.size wc w')
      (first | exact ⟨c0, c1, c2, c4, kp0⟩ | exact ⟨b0, b1, b2, b4, kp2⟩)
      (first | (go_at_call 72; (with_reducible refine (HSE.out _ hrd').mono ?_); rintro e2 w2 ⟨rfl, hb2⟩; obtain ⟨b0, b1, b2, kp2⟩ := cfg_keep (W := wc) (W1 := wc.drew) ⟨c0, c1, c2⟩ kp0 hb2; have b4 := below_at kp2 c4; conv => whnf))
    have hg2 : Gr (w.heap.size + 2) w1 w2 := HH2.out.2.trans (Gr.of_below _ kp2)
    have HG := Lib.hid hg2
    have HB2 := Lib.hid (hHS.out w2 hg2).2.2.2.2.2.2.2
    clear c0 c1 c2 kp0 hb2 hrd' HSE hs1 b0 b1 b2 kp2 hg2 c4
    have hB := HB0.out
    cases hbe : be l 91 93 i 0 with
    | none =>
      rw [hbe] at hB
      simp only at hB
      subst hB
      have hr : sk S l 0 0 0 true = -1 := by rw [HH2.out.1, HQ.out, hbe]
      obtain rfl : -1 = z := hr.symm.trans HZ.out.1
      clear hr hbe b4
      go_wp2
      exact HRET.out _ (HB2.out)
    | some j =>
      rw [hbe] at hB
      obtain ⟨rfl, hij, hjl⟩ := hB
      have HN : Hid (SkRel S l (w.heap.size + 2) w1 w2 j lv kl lm) := Lib.hid ⟨by rw [HH2.out.1, HQ.out, hbe], HG.out⟩
      have hne : ((j : Int) - i == -1) = false := beq_eq_false_iff_ne.2 (by omega)
      have hjj : (i : Int) + ((j : Int) - i - 1) + 1 = j := by omega
      clear hbe b4 HH2 HG HQ
      go_wp2
      exact HGO.out (j) (kl) (lv) (lm) _ (hij) (by omega) ⟨hv0, by omega, by omega, by omega, by omega⟩ HN
end Go.Proofs.YtgbliniamkpocaaDoor.Jp
