/- jsonparser.searchKeysConfig behind the fast skip: one lemma for each kind of byte (written by mk_find.py). -/
import Derived.Test.YtgbliniamkpocaaDoorG8
namespace Go.Proofs.YtgbliniamkpocaaDoor.Jp
open Go.RowKit Go.Proofs.YtgbliniamkpocaaDoorW.PrintWords Go.Proofs.YtgbliniamkpocaaDoor.Kit

/-- The first region of a code. -/
def skFirst : Code → Option Nat
  | .region n _ _ => some n
  | .seq a _ => skFirst a
  | _ => none
/-- The part of a code that begins with region n. -/
def skSuf (n : Nat) : Code → Option Code
  | .seq a b => if skFirst a = some n then some (.seq a b) else match skSuf n a with | some x => some x | none => skSuf n b
  | .block _ a => skSuf n a
  | .loop a => skSuf n a
  | _ => none
noncomputable def sk17 : Code := (Tryd.f60.body.bind (skSuf 17)).getD .skip
/-- What stands in every world of the search. -/
def HSt (ks : List ByteArray) (l : List Int) (ad : Addr) (K : Option Addr) (c : Nat) (w w1 : World) : Prop :=
  ∀ W, Gr (w.heap.size + 2) w1 W → ReadsInt W .u8 (some ad) l.length l ∧ CfgAt w.heap.size W ∧ W.cell? ⟨w.heap.size + 1, 0, none⟩ = some (.slice (some ad) l.length c) ∧ BO W (w.heap.size + 2) 64 [] ∧ KeysR W K ks ∧ Errs W ∧ Vars W ∧ Below w.heap.size w W
def HZt (ks : List ByteArray) (l : List Int) (z : Int) (at_ : Nat → Nat → Int) (S : Sk) : Prop :=
  sk S l 0 0 0 true = z ∧ z ≠ -7 ∧ S = skS (ks.map Kit.nums) l at_ ∧ (∀ i n, at_ i n ≠ -7 → Ixr (ks.map Kit.nums) l i n (at_ i n)) ∧ ∀ (n : Nat) (M : List Int) (z2 : Int), Fnd ((ks.map Kit.nums).drop (n + 1)) M z2 → F60 (ks.drop (n + 1)) M z2
/-- What the search is given. -/
def SkPre (ks : List ByteArray) (l : List Int) (z : Int) (at_ : Nat → Nat → Int) (ad : Addr) (K : Option Addr) (c ck : Nat) (w w1 : World) (S : Sk) : Prop :=
  l.length ≤ c ∧ l.length ≤ 140737488351232 ∧ ks.length ≤ ck ∧ S.lk = ks.length ∧ ks.length ≤ 9223372036854775807 ∧ Hid (HSt ks l ad K c w w1) ∧ Hid (HZt ks l z at_ S) ∧ Hid (∀ x ∈ l, 0 ≤ x ∧ x ≤ 255) ∧ ad.block < w.heap.size ∧ 4 < w.heap.size
theorem keys_get {ks : List ByteArray} {n : Nat} (h : n < ks.length) : (ks.map Kit.nums).getD n [] = Kit.nums (rdOf ByteArray.empty ks (n : Int)) := by
  have e : rdOf ByteArray.empty ks (n : Int) = ks[n] := by
    simp [rdOf, h]
  rw [e, List.getD, List.getElem?_map, List.getElem?_eq_getElem h]
  rfl
theorem eq_key {r : List Int} {s : ByteArray} (hr : ∀ x ∈ r, 0 ≤ x ∧ x ≤ 255) : decide ((strOfNums r).toList = s.toList) = decide (some r = some (Kit.nums s)) := by
  have h1 : (strOfNums r).toList = s.toList ↔ some r = some (Kit.nums s) := by
    rw [ByteArray.toList_eq, ByteArray.toList_eq, Option.some.injEq]
    have e : (strOfNums r).data.toList = r.map fun n => UInt8.ofNat n.toNat := by simp [strOfNums]
    rw [e]
    unfold Kit.nums
    constructor
    · intro h
      rw [← h, List.map_map]
      conv => lhs; rw [← List.map_id r]
      apply List.map_congr_left
      intro x hx
      have hx2 := hr x hx
      simp only [id_eq, Function.comp_apply, UInt8.toNat_ofNat']
      omega
    · intro h
      rw [h, List.map_map]
      conv => rhs; rw [← List.map_id s.data.toList]
      apply List.map_congr_left
      intro x _
      simp
  by_cases h : some r = some (Kit.nums s)
  · rw [decide_eq_true h, decide_eq_true (h1.2 h)]
  · rw [decide_eq_false h, decide_eq_false (fun h2 => h (h1.1 h2))]
set_option maxRecDepth 100000 in
/-- data[a:b] of bytes that are there. -/
theorem mid_in (ad : Addr) (n c a b : Nat) (hab : a ≤ b) (hb : b ≤ n) (hc : n ≤ c) : ∃ ad' : Addr, ad'.block = ad.block ∧ (∀ W : World, (Instr.slice 57 (.slice (some ad) n c) (some (.int .i64 (a : Int))) (some (.int .i64 (b : Int))) none).run Tryd.prog W = .ok (.slice (some ad') (b - a) (c - a)) W) ∧
    ∀ (W : World) (xs : List Int), ReadsInt W .u8 (some ad) n xs → ReadsInt W .u8 (some ad') (b - a) ((xs.take b).drop a) := by
  obtain ⟨i5, hi5, hz5, hsz5, hby5⟩ : ∃ i, Tryd.prog.info? 5 = some i ∧ i.zero = some (.int .u8 0) ∧ i.size = 1 ∧ i.bytes = 1 := ⟨_, rfl, rfl, rfl, rfl⟩
  have hel : Tryd.prog.elem 57 = 5 := by simp [Program.elem, Tryd.underlying57]
  have hu : Tryd.prog.underlying 57 = some (.slice (Tryd.prog.elem 57)) := by rw [hel]; exact Tryd.underlying57
  refine ⟨if c = a then ad else ad.add a, ?_, fun W => ?_, fun W xs h => ?_⟩
  · split
    · rfl
    · unfold Addr.add
      split <;> rfl
  · rw [run_slice_lh W 57 (some ad) n c hu .i64 .i64 (a : Int) (b : Int) (by omega) (by omega) (by omega), hel]
    simp only [sizeOf, typeInfo, sliced, Result.andThen]
    by_cases e : c = a
    · simp [e, hi5, hsz5, Result.andThen]
    · simp [e, hi5, hsz5, Result.andThen]
  · rw [List.drop_take]
    have := (h.drop_ a (by omega) hc).take_ (b - a) (by omega)
    by_cases e : c = a
    · rw [if_pos e] at this ⊢
      exact this
    · rw [if_neg e] at this ⊢
      exact this
theorem bsf_no {l : List Int} : ∀ {i : Nat}, bsf l i = false → ∀ k, k < i → gb l k ≠ 92
  | 0, _, k, hk => by omega
  | i + 1, h, k, hk => by
    simp only [bsf, Bool.or_eq_false_iff, decide_eq_false_iff_not] at h
    by_cases e : k = i
    · rw [e]
      exact h.2
    · exact bsf_no h.1 k (by omega)
theorem cutI_gb0 {L : List Int} {a b k : Nat} (h : a + k < b) : gb (cutI L a b) k = gb L (a + k) := by
  unfold cutI
  rw [gb_drop]
  unfold gb
  simp [List.getD, h]
theorem reads_set1 {w : World} {g : Nat} {v u : Value} {A : Option Addr} {n : Nat} {xs : List Int} (h : ReadsInt w .u8 A n xs) (hv : V1 w g v) (hu : ∀ x, v ≠ .int .u8 x) : ReadsInt (w.setCell ⟨g, 0, none⟩ u) .u8 A n xs := by
  refine ⟨h.1, h.2.1, fun hn => ?_⟩
  obtain ⟨ad, e, hc⟩ := h.2.2 hn
  have hno : ad.block ≠ g := by
    intro he
    obtain ⟨t, hh⟩ := hv
    have h0 := hc 0 hn
    have e0 : ad.add 0 = ad := by simp [Addr.add]
    rw [e0] at h0
    unfold World.cell? at h0
    rw [he, hh] at h0
    simp only at h0
    split at h0
    · cases h0
    · have hlt := (Array.getElem?_eq_some_iff.1 h0).1
      have ho : ad.off = 0 := by simpa using hlt
      rw [ho] at h0
      simp at h0
      exact hu _ h0
  refine ⟨ad, e, fun j hj => ?_⟩
  rw [← hc j hj]
  have hb : (ad.add j).block = ad.block := by unfold Addr.add; split <;> rfl
  exact World.cell?_of_block (by rw [hb]; exact set_heap w u hno)
theorem cfg_keep_gr {B g : Nat} {W W1 W2 : World} (h : CfgAt B W1) (hB : B ≠ g) (hk : Gr g W W1) (hb : Gr g W1 W2) :
    W2.cell? ⟨B, 0, none⟩ = some (.bool false) ∧ W2.cell? ⟨B, 1, none⟩ = some (.bool false) ∧ W2.cell? ⟨B, 2, none⟩ = some (.int .i64 0) ∧ Gr g W W2 := by
  have h2 := h.gr hb hB
  exact ⟨h2.1, h2.2.1, h2.2.2, hk.trans hb⟩
set_option maxRecDepth 100000 in
theorem buf_cut (a : Addr) (W : World) : (Instr.sliceAt 115 (.pointer (some a)) none none none).run Tryd.prog W = .ok (.slice (some a) 64 64) W := by
  have h1 : Tryd.prog.arrayLen 115 = 64 := by simp [Program.arrayLen, Tryd.underlying115]
  have h2 : Tryd.prog.elem 115 = 5 := by simp [Program.elem, Tryd.underlying115]
  have h3 : Tryd.prog.underlying 115 = some (.array (Tryd.prog.arrayLen 115) (Tryd.prog.elem 115)) := by rw [h1, h2]; exact Tryd.underlying115
  obtain ⟨i5, hi5, hsz5⟩ : ∃ i, Tryd.prog.info? 5 = some i ∧ i.size = 1 := ⟨_, rfl, rfl⟩
  have ha : a.add 0 = a := by simp [Addr.add]
  rw [run_sliceAt_array_all W 115 a h3, h1, h2]
  simp [Go.sizeOf, typeInfo, hi5, slicedAt, Result.andThen, ha]
theorem gr_set {g g2 : Nat} {w1 w5 : World} {v : Value} (h : Gr g w1 w5) (h1 : w1.heap.size ≤ g2) (h2 : g ≠ g2) : Gr g w1 (w5.setCell ⟨g2, 0, none⟩ v) :=
  ⟨⟨h.1.os, h.1.tape, h.1.output, by have := h.1.size; simpa [World.setCell] using this, fun k hk hn => (set_heap w5 v (by omega)).trans (h.1.block k hk hn)⟩, h.2.trans (Sm.same (set_heap w5 v h2))⟩
/-- Behind a byte the loop goes on. -/
def GoP (u5 : Value) (ks : List ByteArray) (l : List Int) (ad : Addr) (K : Option Addr) (c ck : Nat) (w w1 : World) (S : Sk) (i : Nat) (R : Exit → Act → World → Prop) : Prop :=
  ∀ (i' : Nat) (kl' lv' : Int) (lm' : Bool) (w' : World) {v6 v14 v15 v16 v17 v18 v19 v20 v21 v22 v23 v24 v25 v26 v27 v28 v29 v30 v31 v32 v33 v34 v41 v42 v43 v44 v45 v46 v47 v48 v49 v50 v51 v52 v53 v54 v55 v56 v57 v58 v59 v60 v61 v62 v63 v64 v65 v66 v67 v68 v69 v70 v71 v72 v73 v74 v75 v76 v77 v78 v79 v80 v81 v82 v83 v84 v85 v86 v87 v88 v89 v90 v91 v92 v93 v94 v95 v96 v97 v98 v99 v100 v101 v102 v103 v104 v105 v106 v107 v108 v109 v110 v111 v112 v113 v114 v115 v116 v117 v118 v119 v120 v121 v122 v123 v124 v125 v126 v127 v128 v129 v130 v131 v132 v133 v134 v135 v136 v137 v138 v139 v140 v141 v142 v143 v144 v145 v146 v147 v148 v149 v150 v151 v152 v153 v154 v155 v156 v157 v158 v159 v160 v161 v162 v163 v164 v165 v166 v167 v168 v169 v170 v171 v172 v173 v174 v175 v176 v177 v178 v179 v180 v181 v182 v183 v184 v185 v186 v187 v188 v189 v190 v191 v192 v193 v194 v195 v196 v197 v198 v199 v200 v201 v202 v203 v204 v205 v206 v207 v208 v209 v210 v211 v212 v213 v214 v215 v216 v217 v218 v219 v220 v221 v222 v223 v224 v225 v226 v227 v228 v229 v230 v231 v232 v233 v234 v235 v236 v237 v238 v239 v240 v241 v242 v243 v244 v245 v246 v247 v248 v249 v250 v251 v252 v253 v254 v255 v256 v257 v258 v259 v260 v261 v262 v263 v264 v265 v266 v267 v268 v269 v270 v271 v272 v273 v274 v275 v276 v277 v278 v279 v280 v281 v282 : Value}, i < i' → i' ≤ l.length → SkInv ks.length i' lv' kl' → Hid (SkRel S l (w.heap.size + 2) w1 w' i' lv' kl' lm') → R .normal ⟨#[.agg #[.bool false, .bool false, .int .i64 0], .slice (some ad) l.length c, .slice K ks.length ck, .pointer (some ⟨w.heap.size, 0, none⟩), .pointer (some ⟨w.heap.size + 1, 0, none⟩), u5, v6, .int .i64 kl', .int .i64 lv', .int .i64 (i' : Int), .int .i64 (l.length : Int), .int .i64 (ks.length : Int), .bool lm', .pointer (some ⟨w.heap.size + 1 + 1, 0, none⟩), v14, v15, v16, v17, v18, v19, v20, v21, v22, v23, v24, v25, v26, v27, v28, v29, v30, v31, v32, v33, v34, .slice (some ad) l.length c, .int .i64 (l.length : Int), .slice K ks.length ck, .int .i64 (ks.length : Int), .int .i64 (ks.length : Int), .bool false, v41, v42, v43, v44, v45, v46, v47, v48, v49, v50, v51, v52, v53, v54, v55, v56, v57, v58, v59, v60, v61, v62, v63, v64, v65, v66, v67, v68, v69, v70, v71, v72, v73, v74, v75, v76, v77, v78, v79, v80, v81, v82, v83, v84, v85, v86, v87, v88, v89, v90, v91, v92, v93, v94, v95, v96, v97, v98, v99, v100, v101, v102, v103, v104, v105, v106, v107, v108, v109, v110, v111, v112, v113, v114, v115, v116, v117, v118, v119, v120, v121, v122, v123, v124, v125, v126, v127, v128, v129, v130, v131, v132, v133, v134, v135, v136, v137, v138, v139, v140, v141, v142, v143, v144, v145, v146, v147, v148, v149, v150, v151, v152, v153, v154, v155, v156, v157, v158, v159, v160, v161, v162, v163, v164, v165, v166, v167, v168, v169, v170, v171, v172, v173, v174, v175, v176, v177, v178, v179, v180, v181, v182, v183, v184, v185, v186, v187, v188, v189, v190, v191, v192, v193, v194, v195, v196, v197, v198, v199, v200, v201, v202, v203, v204, v205, v206, v207, v208, v209, v210, v211, v212, v213, v214, v215, v216, v217, v218, v219, v220, v221, v222, v223, v224, v225, v226, v227, v228, v229, v230, v231, v232, v233, v234, v235, v236, v237, v238, v239, v240, v241, v242, v243, v244, v245, v246, v247, v248, v249, v250, v251, v252, v253, v254, v255, v256, v257, v258, v259, v260, v261, v262, v263, v264, v265, v266, v267, v268, v269, v270, v271, v272, v273, v274, v275, v276, v277, v278, v279, v280, v281, v282], []⟩ w'
/-- Behind a byte the search ends. -/
def RetP (z : Int) (w : World) (R : Exit → Act → World → Prop) : Prop :=
  ∀ (w' : World) {v0 v1 v2 v3 v4 v5 v7 v8 v9 v10 v11 v12 v13 v14 v15 v16 v17 v18 v19 v20 v21 v22 v23 v24 v25 v26 v27 v28 v29 v30 v31 v32 v33 v34 v35 v36 v37 v38 v39 v40 v41 v42 v43 v44 v45 v46 v47 v48 v49 v50 v51 v52 v53 v54 v55 v56 v57 v58 v59 v60 v61 v62 v63 v64 v65 v66 v67 v68 v69 v70 v71 v72 v73 v74 v75 v76 v77 v78 v79 v80 v81 v82 v83 v84 v85 v86 v87 v88 v89 v90 v91 v92 v93 v94 v95 v96 v97 v98 v99 v100 v101 v102 v103 v104 v105 v106 v107 v108 v109 v110 v111 v112 v113 v114 v115 v116 v117 v118 v119 v120 v121 v122 v123 v124 v125 v126 v127 v128 v129 v130 v131 v132 v133 v134 v135 v136 v137 v138 v139 v140 v141 v142 v143 v144 v145 v146 v147 v148 v149 v150 v151 v152 v153 v154 v155 v156 v157 v158 v159 v160 v161 v162 v163 v164 v165 v166 v167 v168 v169 v170 v171 v172 v173 v174 v175 v176 v177 v178 v179 v180 v181 v182 v183 v184 v185 v186 v187 v188 v189 v190 v191 v192 v193 v194 v195 v196 v197 v198 v199 v200 v201 v202 v203 v204 v205 v206 v207 v208 v209 v210 v211 v212 v213 v214 v215 v216 v217 v218 v219 v220 v221 v222 v223 v224 v225 v226 v227 v228 v229 v230 v231 v232 v233 v234 v235 v236 v237 v238 v239 v240 v241 v242 v243 v244 v245 v246 v247 v248 v249 v250 v251 v252 v253 v254 v255 v256 v257 v258 v259 v260 v261 v262 v263 v264 v265 v266 v267 v268 v269 v270 v271 v272 v273 v274 v275 v276 v277 v278 v279 v280 v281 v282 : Value}, Below w.heap.size w w' → R .ret ⟨#[v0, v1, v2, v3, v4, v5, .int .i64 z, v7, v8, v9, v10, v11, v12, v13, v14, v15, v16, v17, v18, v19, v20, v21, v22, v23, v24, v25, v26, v27, v28, v29, v30, v31, v32, v33, v34, v35, v36, v37, v38, v39, v40, v41, v42, v43, v44, v45, v46, v47, v48, v49, v50, v51, v52, v53, v54, v55, v56, v57, v58, v59, v60, v61, v62, v63, v64, v65, v66, v67, v68, v69, v70, v71, v72, v73, v74, v75, v76, v77, v78, v79, v80, v81, v82, v83, v84, v85, v86, v87, v88, v89, v90, v91, v92, v93, v94, v95, v96, v97, v98, v99, v100, v101, v102, v103, v104, v105, v106, v107, v108, v109, v110, v111, v112, v113, v114, v115, v116, v117, v118, v119, v120, v121, v122, v123, v124, v125, v126, v127, v128, v129, v130, v131, v132, v133, v134, v135, v136, v137, v138, v139, v140, v141, v142, v143, v144, v145, v146, v147, v148, v149, v150, v151, v152, v153, v154, v155, v156, v157, v158, v159, v160, v161, v162, v163, v164, v165, v166, v167, v168, v169, v170, v171, v172, v173, v174, v175, v176, v177, v178, v179, v180, v181, v182, v183, v184, v185, v186, v187, v188, v189, v190, v191, v192, v193, v194, v195, v196, v197, v198, v199, v200, v201, v202, v203, v204, v205, v206, v207, v208, v209, v210, v211, v212, v213, v214, v215, v216, v217, v218, v219, v220, v221, v222, v223, v224, v225, v226, v227, v228, v229, v230, v231, v232, v233, v234, v235, v236, v237, v238, v239, v240, v241, v242, v243, v244, v245, v246, v247, v248, v249, v250, v251, v252, v253, v254, v255, v256, v257, v258, v259, v260, v261, v262, v263, v264, v265, v266, v267, v268, v269, v270, v271, v272, v273, v274, v275, v276, v277, v278, v279, v280, v281, v282], []⟩ w'
end Go.Proofs.YtgbliniamkpocaaDoor.Jp
