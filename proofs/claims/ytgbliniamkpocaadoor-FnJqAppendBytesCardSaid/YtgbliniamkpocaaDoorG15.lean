/- Texts of this claim, laid together. -/
import Derived.Test.YtgbliniamkpocaaDoorJpFind6
/- jsonparser.searchKeysConfig behind the fast skip: all kinds of bytes, and the loop (written by mk_find.py). -/
namespace Go.Proofs.YtgbliniamkpocaaDoor.Jp
open Go.RowKit Go.Proofs.YtgbliniamkpocaaDoorW.PrintWords Go.Proofs.YtgbliniamkpocaaDoor.Kit

set_option maxHeartbeats 16000000 in
set_option maxRecDepth 1000000 in
theorem find_any {u5 : Value} {ks : List ByteArray} {l : List Int} {z : Int} {at_ : Nat → Nat → Int} {ad : Addr} {K : Option Addr} {c ck : Nat} {w w1 wc : World} {S : Sk} {i : Nat} {kl lv : Int} {lm : Bool} {R : Exit → Act → World → Prop} (HP : SkPre ks l z at_ ad K c ck w w1 S) (hlt : i < l.length) (hinv : SkInv ks.length i lv kl) (HH2 : Hid (SkRel S l (w.heap.size + 2) w1 wc i lv kl lm))
    (hgo : GoP u5 ks l ad K c ck w w1 S i R)
    (hret : RetP z w R)
    {u6 u14 u15 u16 u17 u18 u19 u20 u21 u22 u23 u24 u25 u26 u27 u28 u29 u30 u31 u32 u33 u34 u41 u42 u43 u44 u45 u46 u47 u48 u49 u50 u51 u52 u53 u54 u55 u56 u57 u58 u59 u60 u61 u62 u63 u64 u65 u66 u67 u68 u69 u70 u71 u72 u73 u74 u75 u76 u77 u78 u79 u80 u81 u82 u83 u84 u85 u86 u87 u88 u89 u90 u91 u92 u93 u94 u95 u96 u97 u98 u99 u100 u101 u102 u103 u104 u105 u106 u107 u108 u109 u110 u111 u112 u113 u114 u115 u116 u117 u118 u119 u120 u121 u122 u123 u124 u125 u126 u127 u128 u129 u130 u131 u132 u133 u134 u135 u136 u137 u138 u139 u140 u141 u142 u143 u144 u145 u146 u147 u148 u149 u150 u151 u152 u153 u154 u155 u156 u157 u158 u159 u160 u161 u162 u163 u164 u165 u166 u167 u168 u169 u170 u171 u172 u173 u174 u175 u176 u177 u178 u179 u180 u181 u182 u183 u184 u185 u186 u187 u188 u189 u190 u191 u192 u193 u194 u195 u196 u197 u198 u199 u200 u201 u202 u203 u204 u205 u206 u207 u208 u209 u210 u211 u212 u213 u214 u215 u216 u217 u218 u219 u220 u221 u222 u223 u224 u225 u226 u227 u228 u229 u230 u231 u232 u233 u234 u235 u236 u237 u238 u239 u240 u241 u242 u243 u244 u245 u246 u247 u248 u249 u250 u251 u252 u253 u254 u255 u256 u257 u258 u259 u260 u261 u262 u263 u264 u265 u266 u267 u268 u269 u270 u271 u272 u273 u274 u275 u276 u277 u278 u279 u280 u281 u282 : Value} :
    Code.wp Tryd.prog sk17 (Exit.inBlock 1 R) ⟨#[.agg #[.bool false, .bool false, .int .i64 0], .slice (some ad) l.length c, .slice K ks.length ck, .pointer (some ⟨w.heap.size, 0, none⟩), .pointer (some ⟨w.heap.size + 1, 0, none⟩), u5, u6, .int .i64 kl, .int .i64 lv, .int .i64 (i : Int), .int .i64 (l.length : Int), .int .i64 (ks.length : Int), .bool lm, .pointer (some ⟨w.heap.size + 1 + 1, 0, none⟩), u14, u15, u16, u17, u18, u19, u20, u21, u22, u23, u24, u25, u26, u27, u28, u29, u30, u31, u32, u33, u34, .slice (some ad) l.length c, .int .i64 (l.length : Int), .slice K ks.length ck, .int .i64 (ks.length : Int), .int .i64 (ks.length : Int), .bool false, u41, u42, u43, u44, u45, u46, u47, u48, u49, u50, u51, u52, u53, u54, u55, u56, u57, u58, u59, u60, u61, u62, u63, u64, u65, u66, u67, u68, u69, u70, u71, u72, u73, u74, u75, u76, u77, u78, u79, u80, u81, u82, u83, u84, u85, u86, u87, u88, u89, u90, u91, u92, u93, u94, u95, u96, u97, u98, u99, u100, u101, u102, u103, u104, u105, u106, u107, u108, u109, u110, u111, u112, u113, u114, u115, u116, u117, u118, u119, u120, u121, u122, u123, u124, u125, u126, u127, u128, u129, u130, u131, u132, u133, u134, u135, u136, u137, u138, u139, u140, u141, u142, u143, u144, u145, u146, u147, u148, u149, u150, u151, u152, u153, u154, u155, u156, u157, u158, u159, u160, u161, u162, u163, u164, u165, u166, u167, u168, u169, u170, u171, u172, u173, u174, u175, u176, u177, u178, u179, u180, u181, u182, u183, u184, u185, u186, u187, u188, u189, u190, u191, u192, u193, u194, u195, u196, u197, u198, u199, u200, u201, u202, u203, u204, u205, u206, u207, u208, u209, u210, u211, u212, u213, u214, u215, u216, u217, u218, u219, u220, u221, u222, u223, u224, u225, u226, u227, u228, u229, u230, u231, u232, u233, u234, u235, u236, u237, u238, u239, u240, u241, u242, u243, u244, u245, u246, u247, u248, u249, u250, u251, u252, u253, u254, u255, u256, u257, u258, u259, u260, u261, u262, u263, u264, u265, u266, u267, u268, u269, u270, u271, u272, u273, u274, u275, u276, u277, u278, u279, u280, u281, u282], []⟩ wc := by
  have hix0 : ∀ b : Bool, b = true ∨ b = false := fun b => by cases b <;> simp
  by_cases h34 : gb l i = 34
  · cases hq : qe l (i + 1) false with
    | none => exact find_quno HP hlt hinv HH2 h34 hq hgo hret
    | some j =>
      by_cases hb : bl l j < l.length
      · by_cases hc : gb l (bl l j) = 58
        · by_cases hlv : lv < 1
          · exact find_qlow HP hlt hinv HH2 h34 hq hb hc hlv hgo hret
          · rcases hix0 (bsf (l.drop (i + 1)) (j - (i + 1) - 1)) with hbf | hbf
            · exact find_qesc HP hlt hinv HH2 h34 hq hb hc hlv hbf hgo hret
            · exact find_qplain HP hlt hinv HH2 h34 hq hb hc hlv hbf hgo hret
        · exact find_qval HP hlt hinv HH2 h34 hq hb hc hgo hret
      · exact find_qend HP hlt hinv HH2 h34 hq (by omega) hgo hret
  by_cases h39 : gb l i = 39
  · exact find_single HP hlt hinv HH2 h39 hgo hret
  by_cases h123 : gb l i = 123
  · rcases hix0 lm with hl | hl
    · exact find_open HP hlt hinv HH2 hl h123 hgo hret
    · exact find_over HP hlt hinv HH2 hl h123 hgo hret
  by_cases h125 : gb l i = 125
  · exact find_close HP hlt hinv HH2 h125 hgo hret
  by_cases h91 : gb l i = 91
  · by_cases hx : kl = lv ∧ S.ix lv.toNat = true
    · exact find_index HP hlt hinv HH2 h91 hx.1 hx.2 hgo hret
    · exact find_noindex HP hlt hinv HH2 h91 hx hgo hret
  by_cases h58 : gb l i = 58
  · exact find_colon HP hlt hinv HH2 h58 hgo hret
  exact find_other HP hlt hinv HH2 rfl h34 h39 h123 h125 h91 h58 hgo hret
theorem heap_last (w : World) (o : Obj) {g : Nat} (h : g = w.heap.size) : (w.alloc o).heap[g]? = some o := by
  subst h
  exact Array.getElem?_push_size
def z64 : Array Value := #[.int .u8 0, .int .u8 0, .int .u8 0, .int .u8 0, .int .u8 0, .int .u8 0, .int .u8 0, .int .u8 0, .int .u8 0, .int .u8 0, .int .u8 0, .int .u8 0, .int .u8 0, .int .u8 0, .int .u8 0, .int .u8 0, .int .u8 0, .int .u8 0, .int .u8 0, .int .u8 0, .int .u8 0, .int .u8 0, .int .u8 0, .int .u8 0, .int .u8 0, .int .u8 0, .int .u8 0, .int .u8 0, .int .u8 0, .int .u8 0, .int .u8 0, .int .u8 0, .int .u8 0, .int .u8 0, .int .u8 0, .int .u8 0, .int .u8 0, .int .u8 0, .int .u8 0, .int .u8 0, .int .u8 0, .int .u8 0, .int .u8 0, .int .u8 0, .int .u8 0, .int .u8 0, .int .u8 0, .int .u8 0, .int .u8 0, .int .u8 0, .int .u8 0, .int .u8 0, .int .u8 0, .int .u8 0, .int .u8 0, .int .u8 0, .int .u8 0, .int .u8 0, .int .u8 0, .int .u8 0, .int .u8 0, .int .u8 0, .int .u8 0, .int .u8 0]
set_option pp.maxSteps 3000
set_option maxHeartbeats 64000000 in
set_option maxRecDepth 100000 in
theorem sks_c (ks : List ByteArray) (l : List Int) (z : Int) (at_ : Nat → Nat → Int) (hne : ks ≠ []) (hat : ∀ i n, at_ i n ≠ -7 → Ixr (ks.map Kit.nums) l i n (at_ i n)) (hsk : sk (skS (ks.map Kit.nums) l at_) l 0 0 0 true = z) (hz : z ≠ -7)
    (IH : ∀ (n : Nat) (M : List Int) (z2 : Int), Fnd ((ks.map Kit.nums).drop (n + 1)) M z2 → F60 (ks.drop (n + 1)) M z2) : F60 ks l z := by
  intro A K c ck w hr hlc hb hlm hK hkc hE hV
  have hlk : 0 < ks.length := by
    cases ks with
    | nil => exact absurd rfl hne
    | cons _ _ => simp
  obtain ⟨S, hS⟩ : ∃ S, S = skS (ks.map Kit.nums) l at_ := ⟨_, rfl⟩
  have hSlk : S.lk = ks.length := by rw [hS]; simp [skS]
  rw [← hS] at hsk
  have hll : l.length ≤ 9223372036854775807 := hr.2.1
  have hlb : (l.length : Int) ≤ 140737488351232 := by omega
  have hkl : ks.length ≤ 9223372036854775807 := hK.2.1
  -- the world ahead of the loop
  obtain ⟨w1, hw1⟩ : ∃ w1, w1 = ((w.alloc (.cells #[.bool false, .bool false, .int .i64 0] 80)).alloc (.cells #[.slice A l.length c] 57)).alloc (.cells z64 115) := ⟨_, rfl⟩
  have hbw1 : Below w.heap.size w w1 := by
    rw [hw1]
    exact (((Below.refl _ _).alloc (Nat.le_refl _) _).alloc (by simp) _).alloc (by simp; omega) _
  have hHS : Hid (∀ W, Gr (w.heap.size + 2) w1 W → ReadsInt W .u8 A l.length l ∧ CfgAt w.heap.size W ∧ W.cell? ⟨w.heap.size + 1, 0, none⟩ = some (.slice A l.length c) ∧ BO W (w.heap.size + 2) 64 [] ∧ KeysR W K ks ∧ Errs W ∧ Vars W ∧ Below w.heap.size w W) :=
    Lib.hid (fun W hg => by
      have hbW : Below w.heap.size w W := hbw1.trans (hg.below hbw1.size (by omega))
      refine ⟨hr.below hbW, CfgAt.gr ?_ hg (by omega), (hg.cell ?_ (by omega)).trans ?_, BO.gr0 (l := []) ?_ hg, hK.below hbW, hE.below hbW, hV.below hbW, hbW⟩
      · rw [hw1]
        exact ((CfgAt.box w).below ((Below.refl _ _).alloc (Nat.le_refl _) _)).below ((Below.refl _ _).alloc (Nat.le_refl _) _)
      · rw [hw1]
        simp
      · rw [hw1, World.cell?_alloc_past _ _ _ (by simp), World.cell?_alloc_at _ _ _ _ (by simp)]
        rfl
      · exact ⟨z64, 115, by rw [hw1]; exact heap_last _ _ (by simp), by decide, by simp, fun j hj => by simp at hj⟩)
  have HZ := Lib.hid (And.intro hsk (And.intro hz (And.intro hS (And.intro hat IH))))
  have HBY := Lib.hid hb
  have hadb : Hid (0 < l.length → ∀ a, A = some a → a.block < w.heap.size) := Lib.hid (fun h0 a e => by
    obtain ⟨ad, e2, hc⟩ := hr.2.2 h0
    rw [e] at e2
    injection e2 with e2
    subst e2
    have := World.block_lt_of_cell? w _ (hc 0 h0)
    simpa [Addr.add] using this)
  have h4lt : 4 < w.heap.size := World.block_lt_of_cell? w _ (hV.2.1 34 (.inl rfl))
  have hk0 : ((ks.length : Int) == 0) = false := beq_eq_false_iff_ne.2 (by omega)
  have HW1 := Lib.hid hw1
  clear hr hb hK hE hV hsk hz hS hat IH hne hbw1 hw1
  unfold cfg
  go_enter Tryd.func60, Tryd.ntmps60
  go_wp2
  go_loopw [7, 8, 9, 12] (fun vk vl vi vm wr => ∃ (i : Nat) (kl lv : Int) (lm : Bool), i ≤ l.length ∧ SkInv ks.length i lv kl ∧ vi = .int .i64 i ∧ vl = .int .i64 lv ∧ vk = .int .i64 kl ∧ vm = .bool lm ∧ Hid (SkRel S l (w.heap.size + 2) w1 wr i lv kl lm)) (fun _ _ vi _ _ => l.length - (intOf vi).toNat)
  case atStart => exact ⟨0, 0, 0, true, Nat.zero_le _, ⟨.inl ⟨by omega, by omega⟩, by omega, by omega, by omega, by omega⟩, rfl, rfl, rfl, rfl, Lib.hid ⟨rfl, by rw [HW1.out]; exact Gr.refl _ _⟩⟩
  case round =>
    obtain ⟨i0, kl, lv, lm, hi0, hinv, rfl, rfl, rfl, rfl, HH⟩ := hrel
    by_cases hlt0 : i0 < l.length
    · obtain ⟨ad, rfl⟩ : ∃ ad, A = some ad := by
        obtain ⟨ad, h, _⟩ := (hHS.out wr HH.out.2).1.2.2 (by omega)
        exact ⟨ad, h⟩
      have c4 := (hHS.out wr HH.out.2).2.2.1
      go_upto_block 2 with (fail)
      go_cut [9, 14] from 44 to 66 (fun vi _ wx => ∃ i : Nat, i0 ≤ i ∧ i ≤ l.length ∧ vi = .int .i64 i ∧ Hid (SkRel S l (w.heap.size + 2) w1 wx i lv kl lm))
      case first =>
        go_wp2
        go_loop [9] (fun vi => ∃ i : Nat, i0 ≤ i ∧ i ≤ l.length ∧ vi = .int .i64 i ∧ Hid (SkRel S l (w.heap.size + 2) w1 wr i lv kl lm)) (fun vi => l.length - (intOf vi).toNat)
        case atStart => exact ⟨i0, Nat.le_refl _, by omega, rfl, HH⟩
        case round =>
          clear HH
          obtain ⟨i, hii, hi, rfl, HH⟩ := hrel
          by_cases hlt : i < l.length
          · obtain ⟨ad', e', hcell⟩ := (hHS.out wr HH.out.2).1.at_ i (by omega) (by omega)
            injection e' with e'
            subst e'
            obtain ⟨x, hx⟩ : ∃ x, gb l i = x := ⟨_, rfl⟩
            have hcell' : wr.cell? (ad.add i) = some (.int .u8 x) := by rw [Int.toNat_natCast, rd_gb, hx] at hcell; exact hcell
            clear hcell
            have HN : Hid ((x ≠ 34 ∧ x ≠ 123 ∧ x ≠ 125 ∧ x ≠ 91 ∧ x ≠ 58) → SkRel S l (w.heap.size + 2) w1 wr (i + 1) lv kl lm) := Lib.hid (fun h => ⟨by rw [HH.out.1]; exact sk_plain hlt (by rw [hx]; exact h.1) (by rw [hx]; exact h.2.1) (by rw [hx]; exact h.2.2.1) (by rw [hx]; exact h.2.2.2.1) (by rw [hx]; exact h.2.2.2.2), HH.out.2⟩)
            clear hx
            by_cases h32 : x ≤ 32
            · have HN2 := Lib.hid (HN.out (by omega))
              clear HN
              go_wp2
              go_round
              case rel => exact ⟨i + 1, by omega, by omega, by go_num, HN2⟩
              case measure => simp [intOf]; omega
            by_cases hsk : 92 < x ∧ x ≠ 123 ∧ x ≠ 125
            · obtain ⟨hs1, hs2, hs3⟩ := hsk
              have HN2 := Lib.hid (HN.out (by omega))
              have e1 : (x != 123) = true := by simpa using hs2
              have e2 : (x != 125) = true := by simpa using hs3
              clear HN
              go_wp2
              go_round
              case rel => exact ⟨i + 1, by omega, by omega, by go_num, HN2⟩
              case measure => simp [intOf]; omega
            clear HN
            by_cases hgt : 92 < x
            · have hxx : x = 123 ∨ x = 125 := by omega
              rcases hxx with rfl | rfl
              all_goals first | omega | (go_wp2; go_meet; exact ⟨i, hii, hi, rfl, HH⟩)
            · go_wp2
              go_meet
              exact ⟨i, hii, hi, rfl, HH⟩
          · go_wp2
            go_meet
            exact ⟨i, hii, hi, rfl, HH⟩
      case rest =>
        obtain ⟨i, hii, hi, rfl, HH2⟩ := hcut
        clear HH c4
        rename_i hk_
        by_cases hlt : i < l.length
        · refine hk_ _ _ ?_
          obtain ⟨hv0, hv1, hv2, hv3, hv4⟩ := hinv
          refine find_any (R := _) ⟨hlc, hlm, hkc, hSlk, hkl, Lib.hid hHS.out, Lib.hid HZ.out, HBY, hadb.out (by omega) ad rfl, h4lt⟩ hlt ⟨hv0, by omega, by omega, by omega, by omega⟩ HH2 ?_ ?_
          · intro i' kl' lv' lm' w' _ _ _ _ _ _ _ _ _ _ _ _ _ _ _ _ _ _ _ _ _ _ _ _ _ _ _ _ _ _ _ _ _ _ _ _ _ _ _ _ _ _ _ _ _ _ _ _ _ _ _ _ _ _ _ _ _ _ _ _ _ _ _ _ _ _ _ _ _ _ _ _ _ _ _ _ _ _ _ _ _ _ _ _ _ _ _ _ _ _ _ _ _ _ _ _ _ _ _ _ _ _ _ _ _ _ _ _ _ _ _ _ _ _ _ _ _ _ _ _ _ _ _ _ _ _ _ _ _ _ _ _ _ _ _ _ _ _ _ _ _ _ _ _ _ _ _ _ _ _ _ _ _ _ _ _ _ _ _ _ _ _ _ _ _ _ _ _ _ _ _ _ _ _ _ _ _ _ _ _ _ _ _ _ _ _ _ _ _ _ _ _ _ _ _ _ _ _ _ _ _ _ _ _ _ _ _ _ _ _ _ _ _ _ _ _ _ _ _ _ _ _ _ _ _ _ _ _ _ _ _ _ _ _ _ _ _ _ _ _ _ _ _ _ _ _ _ _ _ _ _ _ _ _ _ _ _ _ _ _ _ _ _ _ hlt' hle' hinv' HR'
            dsimp only
            go_wp2
            go_round
            case rel => exact ⟨i', kl', lv', lm', hle', hinv', rfl, rfl, rfl, rfl, HR'⟩
            case measure => simp [intOf]; omega
          · intro w' _ _ _ _ _ _ _ _ _ _ _ _ _ _ _ _ _ _ _ _ _ _ _ _ _ _ _ _ _ _ _ _ _ _ _ _ _ _ _ _ _ _ _ _ _ _ _ _ _ _ _ _ _ _ _ _ _ _ _ _ _ _ _ _ _ _ _ _ _ _ _ _ _ _ _ _ _ _ _ _ _ _ _ _ _ _ _ _ _ _ _ _ _ _ _ _ _ _ _ _ _ _ _ _ _ _ _ _ _ _ _ _ _ _ _ _ _ _ _ _ _ _ _ _ _ _ _ _ _ _ _ _ _ _ _ _ _ _ _ _ _ _ _ _ _ _ _ _ _ _ _ _ _ _ _ _ _ _ _ _ _ _ _ _ _ _ _ _ _ _ _ _ _ _ _ _ _ _ _ _ _ _ _ _ _ _ _ _ _ _ _ _ _ _ _ _ _ _ _ _ _ _ _ _ _ _ _ _ _ _ _ _ _ _ _ _ _ _ _ _ _ _ _ _ _ _ _ _ _ _ _ _ _ _ _ _ _ _ _ _ _ _ _ _ _ _ _ _ _ _ _ _ _ _ _ _ _ _ _ _ _ _ _ _ _ _ _ _ _ _ _ _ _ _ _ _ _ _ _ _ _ _ hb'
            go_wp2
            go_ret
            exact ⟨rfl, hb'⟩
        · have hr : sk S l 0 0 0 true = -1 := by rw [HH2.out.1, sk_out (by omega)]
          have HR := Lib.hid (hr.symm.trans HZ.out.1)
          have HB := Lib.hid (hHS.out wc HH2.out.2).2.2.2.2.2.2.2
          clear hr
          have HK := Lib.hid hk_
          refine hk_ _ _ ?_
          clear hk_ HK
          go_wp2
          go_ret
          exact ⟨congrArg (fun x => Ending.returned (.int .i64 x)) HR.out, HB.out⟩
    · have hr : sk S l 0 0 0 true = -1 := by rw [HH.out.1, sk_out (by omega)]
      have HR := Lib.hid (hr.symm.trans HZ.out.1)
      have HB := Lib.hid (hHS.out wr HH.out.2).2.2.2.2.2.2.2
      clear hr
      go_wp2
      go_ret
      exact ⟨congrArg (fun x => Ending.returned (.int .i64 x)) HR.out, HB.out⟩
end Go.Proofs.YtgbliniamkpocaaDoor.Jp
/- jsonparser.searchKeysConfig gives what the search for keys in plain words gives. -/
namespace Go.Proofs.YtgbliniamkpocaaDoor.Jp
open Go.RowKit Go.Proofs.YtgbliniamkpocaaDoorW.PrintWords Go.Proofs.YtgbliniamkpocaaDoor.Kit

set_option maxHeartbeats 4000000 in
set_option maxRecDepth 100000 in
theorem sks_nil (l : List Int) : F60 [] l 0 := by
  intro A K c ck w _ _ _ _ _ _ _ _
  have hb : Below w.heap.size w ((w.alloc (.cells #[.bool false, .bool false, .int .i64 0] 80)).alloc (.cells #[.slice A l.length c] 57)) := ((Below.refl _ _).alloc (Nat.le_refl _) _).alloc (by simp) _
  have HB := Lib.hid hb
  clear hb
  unfold cfg
  show Calls Tryd.prog 60 #[_, _, .slice K 0 ck] w _
  go_enter Tryd.func60, Tryd.ntmps60
  go_wp2
  go_ret
  exact ⟨rfl, HB.out⟩
theorem f60_c : ∀ (d : Nat) (ks : List ByteArray) (l : List Int) (z : Int), ks.length ≤ d → Fnd (ks.map Kit.nums) l z → F60 ks l z := by
  intro d
  induction d with
  | zero =>
    intro ks l z hd h
    obtain rfl : ks = [] := List.eq_nil_of_length_eq_zero (by omega)
    generalize hk : ([] : List ByteArray).map Kit.nums = keys at h
    cases h with
    | nil => exact sks_nil l
    | mk _ _ _ at_ hne => exact absurd (by rw [← hk]; rfl) hne
  | succ d ih =>
    intro ks l z hd h
    generalize hk : ks.map Kit.nums = keys at h
    cases h with
    | nil =>
      obtain rfl : ks = [] := by simpa using hk
      exact sks_nil l
    | mk _ _ _ at_ hne hat hsk hz =>
      subst hk
      refine sks_c ks l z at_ (fun h => hne (by rw [h]; rfl)) hat hsk hz (fun n M z2 hM => ?_)
      rw [← List.map_drop] at hM
      have hks : ks ≠ [] := fun h => hne (by rw [h]; rfl)
      have : 0 < ks.length := List.length_pos_iff.2 hks
      exact ih _ M z2 (by rw [List.length_drop]; omega) hM
end Go.Proofs.YtgbliniamkpocaaDoor.Jp
