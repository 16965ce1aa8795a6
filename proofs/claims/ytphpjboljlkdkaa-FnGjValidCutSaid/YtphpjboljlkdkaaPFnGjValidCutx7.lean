/- Written by a program of this session (a turned copy of the print) out of the translation. -/
import Derived.Test.YtphpjboljlkdkaaPFnGjValidCutx0
namespace Go.Proofs.Ytphpjboljlkdkaa.PFnGjValidCut
open Go.RowKit Go.Proofs.YtphpjboljlkdkaaW.PrintWords Go.Proofs.YtphpjboljlkdkaaW.PrintLast Go.Proofs.YtphpjboljlkdkaaW.PrintMore
attribute [local go_sem] max2_int min2_int max_two min_two max_three min_three max_four min_four   -- for this text's walks alone
set_option linter.unusedVariables false
set_option linter.unusedSimpArgs false
/-! gjson.validnumber, walked by hand -/
def isD (c : Int) : Prop := 48 ≤ c ∧ c ≤ 57
instance (c : Int) : Decidable (isD c) := by unfold isD; infer_instance
def dEnd (l : List Int) : Nat → Nat → Nat
  | 0, i => i
  | n + 1, i => if i < l.length then (if isD (l.getD i 0) then dEnd l n (i + 1) else i) else i
theorem dEnd_ge (l : List Int) : ∀ n i, i ≤ dEnd l n i
  | 0, i => Nat.le_refl _
  | n + 1, i => by
    unfold dEnd
    split
    · split
      · exact Nat.le_trans (Nat.le_succ i) (dEnd_ge l n (i + 1))
      · exact Nat.le_refl _
    · exact Nat.le_refl _
theorem dEnd_le (l : List Int) : ∀ n i, i ≤ l.length → dEnd l n i ≤ l.length
  | 0, i, h => h
  | n + 1, i, h => by
    unfold dEnd
    split
    · split
      · exact dEnd_le l n (i + 1) (by omega)
      · exact h
    · exact h
theorem dEnd_dig (l : List Int) : ∀ n i j, i ≤ j → j < dEnd l n i → isD (l.getD j 0)
  | 0, i, j, h1, h2 => by simp [dEnd] at h2; omega
  | n + 1, i, j, h1, h2 => by
    unfold dEnd at h2
    split at h2
    · split at h2
      · rename_i hp
        by_cases e : i = j
        · rw [← e]; exact hp
        · exact dEnd_dig l n (i + 1) j (by omega) h2
      · omega
    · omega
theorem dEnd_stop (l : List Int) : ∀ n i, l.length ≤ i + n → dEnd l n i < l.length → ¬ isD (l.getD (dEnd l n i) 0)
  | 0, i, h1, h2 => by simp [dEnd] at h2; omega
  | n + 1, i, h1, h2 => by
    unfold dEnd at h2 ⊢
    by_cases h3 : i < l.length
    · rw [if_pos h3] at h2 ⊢
      by_cases h4 : isD (l.getD i 0)
      · rw [if_pos h4] at h2 ⊢
        exact dEnd_stop l n (i + 1) (by omega) h2
      · rw [if_neg h4]
        exact h4
    · rw [if_neg h3] at h2
      omega
def nSgn (l : List Int) (r : Nat) : Int × Bool := if r = l.length then ((r : Int), false) else if isD (l.getD r 0) then ((dEnd l l.length (r + 1) : Int), true) else ((r : Int), false)
def nExp (l : List Int) (q : Nat) : Int × Bool :=
  if q = l.length then ((q : Int), true) else if l.getD q 0 = 101 ∨ l.getD q 0 = 69 then
    (if q + 1 = l.length then (((q + 1 : Nat) : Int), false) else nSgn l (if l.getD (q + 1) 0 = 43 ∨ l.getD (q + 1) 0 = 45 then q + 2 else q + 1))
  else ((q : Int), true)
def nFrac (l : List Int) (p : Nat) : Int × Bool :=
  if p = l.length then ((p : Int), true) else if l.getD p 0 = 46 then
    (if p + 1 = l.length then (((p + 1 : Nat) : Int), false) else if isD (l.getD (p + 1) 0) then nExp l (dEnd l l.length (p + 2)) else (((p + 1 : Nat) : Int), false))
  else nExp l p
def nInt (l : List Int) (m : Nat) : Int × Bool := if l.getD m 0 = 48 then nFrac l (m + 1) else nFrac l (dEnd l l.length m)
def gjson_validnumber.f (l : List Int) (a1 : Int) : Option (Int × Bool) :=
  if 1 ≤ a1 ∧ a1 ≤ (l.length : Int) ∧ l.length ≤ 4611686018427387904 then
    some (if l.getD (a1.toNat - 1) 0 = 45 then (if a1.toNat = l.length then ((a1.toNat : Int), false) else if isD (l.getD a1.toNat 0) then nInt l a1.toNat else ((a1.toNat : Int), false)) else nInt l (a1.toNat - 1))
  else none
def vnFirst : Code → Option Nat
  | .region n _ _ => some n
  | .seq a _ => vnFirst a
  | _ => none
def vnSuf (n : Nat) : Code → Option Code
  | .seq a b => if vnFirst a = some n then some (.seq a b) else vnSuf n b
  | _ => none
noncomputable def vnCode (n : Nat) : Code := (Try.f30.body.bind (vnSuf n)).getD .skip
set_option maxHeartbeats 2000000 in
set_option maxRecDepth 1000000 in
theorem vn27_end {ad : Addr} {c0 : Nat} {l0 : List Int} {r1 : Int} {r2 : Bool} {w : World} (hn : l0.length ≤ 4611686018427387904) (HC : Hid (∀ j, j < l0.length → w.cell? (ad.add j) = some (.int .u8 (l0.getD j 0)))) {q : Nat} (hq : q = l0.length) (h : ((q : Int), true) = (r1, r2)) (u2 u3 u4 u5 u6 u7 u8 u9 u10 u11 u12 u13 u14 u15 u16 u17 u18 u19 u20 u21 u22 u23 u24 u25 u26 u27 u28 u29 u30 u31 u32 u33 u34 u35 u36 u37 u38 u39 u40 u41 u42 u43 u44 u45 u46 u47 u48 u49 u50 u51 u52 u53 u54 u55 u56 u57 u58 u59 u60 u61 u62 u63 u64 u65 u66 u67 u68 u69 u70 u71 u72 u73 u74 u75 u76 u77 u78 u79 u80 u81 u82 u83 u84 u85 u86 u87 u88 u89 u90 u91 u92 u93 u94 u95 u96 u97 u98 u99 u100 u101 u102 u103 u104 u105 u106 u107 u108 u109 u110 u111 u112 u113 u114 u115 u116 u117 u118 u119 u120 u121 u122 u123 u124 u125 u126 u127 u128 u129 u130 u131 u132 u133 u134 u135 u136 u137 u138 u139 u140 u141 u142 u143 u144 u145 u146 u147 u148 u149 u150 u151 u152 u153 u154 u155 u156 u157 u158 u159 u160 u161 u162 u163 u164 u165 u166 u167 u168 u169 u170 u171 u172 u173 u174 u175 u176 u177 u178 u179 u180 u181 u182 u183 u184 u185 u186 u187 u188 u189 : Value) :
    Code.wp Try.prog (vnCode 27) (bodyPost Try.prog Try.f30 fun e w' => e = .returned (.tuple #[.int .i64 r1, .bool r2]) ∧ Drawn0 w w') ⟨#[.slice (some ad) l0.length c0, .int .i64 (q : Int), u2, u3, u4, u5, u6, u7, u8, u9, u10, u11, u12, u13, u14, u15, u16, u17, u18, u19, u20, u21, u22, u23, u24, u25, u26, u27, u28, u29, u30, u31, u32, u33, u34, u35, u36, u37, u38, u39, u40, u41, u42, u43, u44, u45, u46, u47, u48, u49, u50, u51, u52, u53, u54, u55, u56, u57, u58, u59, u60, u61, u62, u63, u64, u65, u66, u67, u68, u69, u70, u71, u72, u73, u74, u75, u76, u77, u78, u79, u80, u81, u82, u83, u84, u85, u86, u87, u88, u89, u90, u91, u92, u93, u94, u95, u96, u97, u98, u99, u100, u101, u102, u103, u104, u105, u106, u107, u108, u109, u110, u111, u112, u113, u114, u115, u116, u117, u118, u119, u120, u121, u122, u123, u124, u125, u126, u127, u128, u129, u130, u131, u132, u133, u134, u135, u136, u137, u138, u139, u140, u141, u142, u143, u144, u145, u146, u147, u148, u149, u150, u151, u152, u153, u154, u155, u156, u157, u158, u159, u160, u161, u162, u163, u164, u165, u166, u167, u168, u169, u170, u171, u172, u173, u174, u175, u176, u177, u178, u179, u180, u181, u182, u183, u184, u185, u186, u187, u188, u189], []⟩ w := by
  conv => arg 2; whnf
  have HC1 : Hid (∀ j, j + 1 < l0.length → w.cell? ⟨ad.block, ad.off + (j + 1), none⟩ = some (.int .u8 (l0.getD (j + 1) 0))) := Lib.hid fun j hj => by
    have h := HC.out (j + 1) hj
    simpa [Addr.add] using h
  have HC2 : Hid (∀ j, j + 2 < l0.length → w.cell? ⟨ad.block, ad.off + (j + 2), none⟩ = some (.int .u8 (l0.getD (j + 2) 0))) := Lib.hid fun j hj => by
    have h := HC.out (j + 2) hj
    simpa [Addr.add] using h
  have hb : ((q : Int) == (l0.length : Int)) = true := by rw [beq_iff_eq]; omega
  clear hq HC HC1 HC2
  simp only [Prod.mk.injEq] at h
  obtain ⟨rfl, rfl⟩ := h
  go_wp2
  go_ret2
  exact ⟨by (first | (simp; done) | (simp; omega)), Drawn0.refl _⟩
set_option maxHeartbeats 2000000 in
set_option maxRecDepth 1000000 in
theorem vn27_no {ad : Addr} {c0 : Nat} {l0 : List Int} {r1 : Int} {r2 : Bool} {w : World} (hn : l0.length ≤ 4611686018427387904) (HC : Hid (∀ j, j < l0.length → w.cell? (ad.add j) = some (.int .u8 (l0.getD j 0)))) {q : Nat} {x : Int} (hq : q < l0.length) (hx1 : (x == 101) = false) (hx2 : (x == 69) = false) (hcq : w.cell? (ad.add q) = some (.int .u8 x)) (h : ((q : Int), true) = (r1, r2)) (u2 u3 u4 u5 u6 u7 u8 u9 u10 u11 u12 u13 u14 u15 u16 u17 u18 u19 u20 u21 u22 u23 u24 u25 u26 u27 u28 u29 u30 u31 u32 u33 u34 u35 u36 u37 u38 u39 u40 u41 u42 u43 u44 u45 u46 u47 u48 u49 u50 u51 u52 u53 u54 u55 u56 u57 u58 u59 u60 u61 u62 u63 u64 u65 u66 u67 u68 u69 u70 u71 u72 u73 u74 u75 u76 u77 u78 u79 u80 u81 u82 u83 u84 u85 u86 u87 u88 u89 u90 u91 u92 u93 u94 u95 u96 u97 u98 u99 u100 u101 u102 u103 u104 u105 u106 u107 u108 u109 u110 u111 u112 u113 u114 u115 u116 u117 u118 u119 u120 u121 u122 u123 u124 u125 u126 u127 u128 u129 u130 u131 u132 u133 u134 u135 u136 u137 u138 u139 u140 u141 u142 u143 u144 u145 u146 u147 u148 u149 u150 u151 u152 u153 u154 u155 u156 u157 u158 u159 u160 u161 u162 u163 u164 u165 u166 u167 u168 u169 u170 u171 u172 u173 u174 u175 u176 u177 u178 u179 u180 u181 u182 u183 u184 u185 u186 u187 u188 u189 : Value) :
    Code.wp Try.prog (vnCode 27) (bodyPost Try.prog Try.f30 fun e w' => e = .returned (.tuple #[.int .i64 r1, .bool r2]) ∧ Drawn0 w w') ⟨#[.slice (some ad) l0.length c0, .int .i64 (q : Int), u2, u3, u4, u5, u6, u7, u8, u9, u10, u11, u12, u13, u14, u15, u16, u17, u18, u19, u20, u21, u22, u23, u24, u25, u26, u27, u28, u29, u30, u31, u32, u33, u34, u35, u36, u37, u38, u39, u40, u41, u42, u43, u44, u45, u46, u47, u48, u49, u50, u51, u52, u53, u54, u55, u56, u57, u58, u59, u60, u61, u62, u63, u64, u65, u66, u67, u68, u69, u70, u71, u72, u73, u74, u75, u76, u77, u78, u79, u80, u81, u82, u83, u84, u85, u86, u87, u88, u89, u90, u91, u92, u93, u94, u95, u96, u97, u98, u99, u100, u101, u102, u103, u104, u105, u106, u107, u108, u109, u110, u111, u112, u113, u114, u115, u116, u117, u118, u119, u120, u121, u122, u123, u124, u125, u126, u127, u128, u129, u130, u131, u132, u133, u134, u135, u136, u137, u138, u139, u140, u141, u142, u143, u144, u145, u146, u147, u148, u149, u150, u151, u152, u153, u154, u155, u156, u157, u158, u159, u160, u161, u162, u163, u164, u165, u166, u167, u168, u169, u170, u171, u172, u173, u174, u175, u176, u177, u178, u179, u180, u181, u182, u183, u184, u185, u186, u187, u188, u189], []⟩ w := by
  conv => arg 2; whnf
  have HC1 : Hid (∀ j, j + 1 < l0.length → w.cell? ⟨ad.block, ad.off + (j + 1), none⟩ = some (.int .u8 (l0.getD (j + 1) 0))) := Lib.hid fun j hj => by
    have h := HC.out (j + 1) hj
    simpa [Addr.add] using h
  have HC2 : Hid (∀ j, j + 2 < l0.length → w.cell? ⟨ad.block, ad.off + (j + 2), none⟩ = some (.int .u8 (l0.getD (j + 2) 0))) := Lib.hid fun j hj => by
    have h := HC.out (j + 2) hj
    simpa [Addr.add] using h
  have hb : ((q : Int) == (l0.length : Int)) = false := by rw [beq_eq_false_iff_ne]; omega
  simp only [Prod.mk.injEq] at h
  obtain ⟨rfl, rfl⟩ := h
  go_wp2
  go_ret2
  exact ⟨by (first | (simp; done) | (simp; omega)), Drawn0.refl _⟩
set_option maxHeartbeats 2000000 in
set_option maxRecDepth 1000000 in
theorem vn27_101_end {ad : Addr} {c0 : Nat} {l0 : List Int} {r1 : Int} {r2 : Bool} {w : World} (hn : l0.length ≤ 4611686018427387904) (HC : Hid (∀ j, j < l0.length → w.cell? (ad.add j) = some (.int .u8 (l0.getD j 0)))) {q : Nat} (hq : q + 1 = l0.length) (hcq : w.cell? (ad.add q) = some (.int .u8 101)) (h : (((q + 1 : Nat) : Int), false) = (r1, r2)) (u2 u3 u4 u5 u6 u7 u8 u9 u10 u11 u12 u13 u14 u15 u16 u17 u18 u19 u20 u21 u22 u23 u24 u25 u26 u27 u28 u29 u30 u31 u32 u33 u34 u35 u36 u37 u38 u39 u40 u41 u42 u43 u44 u45 u46 u47 u48 u49 u50 u51 u52 u53 u54 u55 u56 u57 u58 u59 u60 u61 u62 u63 u64 u65 u66 u67 u68 u69 u70 u71 u72 u73 u74 u75 u76 u77 u78 u79 u80 u81 u82 u83 u84 u85 u86 u87 u88 u89 u90 u91 u92 u93 u94 u95 u96 u97 u98 u99 u100 u101 u102 u103 u104 u105 u106 u107 u108 u109 u110 u111 u112 u113 u114 u115 u116 u117 u118 u119 u120 u121 u122 u123 u124 u125 u126 u127 u128 u129 u130 u131 u132 u133 u134 u135 u136 u137 u138 u139 u140 u141 u142 u143 u144 u145 u146 u147 u148 u149 u150 u151 u152 u153 u154 u155 u156 u157 u158 u159 u160 u161 u162 u163 u164 u165 u166 u167 u168 u169 u170 u171 u172 u173 u174 u175 u176 u177 u178 u179 u180 u181 u182 u183 u184 u185 u186 u187 u188 u189 : Value) :
    Code.wp Try.prog (vnCode 27) (bodyPost Try.prog Try.f30 fun e w' => e = .returned (.tuple #[.int .i64 r1, .bool r2]) ∧ Drawn0 w w') ⟨#[.slice (some ad) l0.length c0, .int .i64 (q : Int), u2, u3, u4, u5, u6, u7, u8, u9, u10, u11, u12, u13, u14, u15, u16, u17, u18, u19, u20, u21, u22, u23, u24, u25, u26, u27, u28, u29, u30, u31, u32, u33, u34, u35, u36, u37, u38, u39, u40, u41, u42, u43, u44, u45, u46, u47, u48, u49, u50, u51, u52, u53, u54, u55, u56, u57, u58, u59, u60, u61, u62, u63, u64, u65, u66, u67, u68, u69, u70, u71, u72, u73, u74, u75, u76, u77, u78, u79, u80, u81, u82, u83, u84, u85, u86, u87, u88, u89, u90, u91, u92, u93, u94, u95, u96, u97, u98, u99, u100, u101, u102, u103, u104, u105, u106, u107, u108, u109, u110, u111, u112, u113, u114, u115, u116, u117, u118, u119, u120, u121, u122, u123, u124, u125, u126, u127, u128, u129, u130, u131, u132, u133, u134, u135, u136, u137, u138, u139, u140, u141, u142, u143, u144, u145, u146, u147, u148, u149, u150, u151, u152, u153, u154, u155, u156, u157, u158, u159, u160, u161, u162, u163, u164, u165, u166, u167, u168, u169, u170, u171, u172, u173, u174, u175, u176, u177, u178, u179, u180, u181, u182, u183, u184, u185, u186, u187, u188, u189], []⟩ w := by
  conv => arg 2; whnf
  have HC1 : Hid (∀ j, j + 1 < l0.length → w.cell? ⟨ad.block, ad.off + (j + 1), none⟩ = some (.int .u8 (l0.getD (j + 1) 0))) := Lib.hid fun j hj => by
    have h := HC.out (j + 1) hj
    simpa [Addr.add] using h
  have HC2 : Hid (∀ j, j + 2 < l0.length → w.cell? ⟨ad.block, ad.off + (j + 2), none⟩ = some (.int .u8 (l0.getD (j + 2) 0))) := Lib.hid fun j hj => by
    have h := HC.out (j + 2) hj
    simpa [Addr.add] using h
  have hb1 : ((q : Int) == (l0.length : Int)) = false := by rw [beq_eq_false_iff_ne]; omega
  have hb : ((q : Int) + 1 == (l0.length : Int)) = true := by rw [beq_iff_eq]; omega
  have hql : q < l0.length := by omega
  clear hq
  simp only [Prod.mk.injEq] at h
  obtain ⟨rfl, rfl⟩ := h
  go_wp2
  go_ret2
  exact ⟨by (first | (simp; done) | (simp; omega)), Drawn0.refl _⟩
set_option maxHeartbeats 2000000 in
set_option maxRecDepth 1000000 in
theorem vn27_101p_end {ad : Addr} {c0 : Nat} {l0 : List Int} {r1 : Int} {r2 : Bool} {w : World} (hn : l0.length ≤ 4611686018427387904) (HC : Hid (∀ j, j < l0.length → w.cell? (ad.add j) = some (.int .u8 (l0.getD j 0)))) {q : Nat} (hq : q + 1 < l0.length) (hcq : w.cell? (ad.add q) = some (.int .u8 101)) (hc2 : w.cell? ⟨ad.block, ad.off + (q + 1), none⟩ = some (.int .u8 43)) (hr : q + 2 = l0.length) (h : (((q + 2 : Nat) : Int), false) = (r1, r2)) (u2 u3 u4 u5 u6 u7 u8 u9 u10 u11 u12 u13 u14 u15 u16 u17 u18 u19 u20 u21 u22 u23 u24 u25 u26 u27 u28 u29 u30 u31 u32 u33 u34 u35 u36 u37 u38 u39 u40 u41 u42 u43 u44 u45 u46 u47 u48 u49 u50 u51 u52 u53 u54 u55 u56 u57 u58 u59 u60 u61 u62 u63 u64 u65 u66 u67 u68 u69 u70 u71 u72 u73 u74 u75 u76 u77 u78 u79 u80 u81 u82 u83 u84 u85 u86 u87 u88 u89 u90 u91 u92 u93 u94 u95 u96 u97 u98 u99 u100 u101 u102 u103 u104 u105 u106 u107 u108 u109 u110 u111 u112 u113 u114 u115 u116 u117 u118 u119 u120 u121 u122 u123 u124 u125 u126 u127 u128 u129 u130 u131 u132 u133 u134 u135 u136 u137 u138 u139 u140 u141 u142 u143 u144 u145 u146 u147 u148 u149 u150 u151 u152 u153 u154 u155 u156 u157 u158 u159 u160 u161 u162 u163 u164 u165 u166 u167 u168 u169 u170 u171 u172 u173 u174 u175 u176 u177 u178 u179 u180 u181 u182 u183 u184 u185 u186 u187 u188 u189 : Value) :
    Code.wp Try.prog (vnCode 27) (bodyPost Try.prog Try.f30 fun e w' => e = .returned (.tuple #[.int .i64 r1, .bool r2]) ∧ Drawn0 w w') ⟨#[.slice (some ad) l0.length c0, .int .i64 (q : Int), u2, u3, u4, u5, u6, u7, u8, u9, u10, u11, u12, u13, u14, u15, u16, u17, u18, u19, u20, u21, u22, u23, u24, u25, u26, u27, u28, u29, u30, u31, u32, u33, u34, u35, u36, u37, u38, u39, u40, u41, u42, u43, u44, u45, u46, u47, u48, u49, u50, u51, u52, u53, u54, u55, u56, u57, u58, u59, u60, u61, u62, u63, u64, u65, u66, u67, u68, u69, u70, u71, u72, u73, u74, u75, u76, u77, u78, u79, u80, u81, u82, u83, u84, u85, u86, u87, u88, u89, u90, u91, u92, u93, u94, u95, u96, u97, u98, u99, u100, u101, u102, u103, u104, u105, u106, u107, u108, u109, u110, u111, u112, u113, u114, u115, u116, u117, u118, u119, u120, u121, u122, u123, u124, u125, u126, u127, u128, u129, u130, u131, u132, u133, u134, u135, u136, u137, u138, u139, u140, u141, u142, u143, u144, u145, u146, u147, u148, u149, u150, u151, u152, u153, u154, u155, u156, u157, u158, u159, u160, u161, u162, u163, u164, u165, u166, u167, u168, u169, u170, u171, u172, u173, u174, u175, u176, u177, u178, u179, u180, u181, u182, u183, u184, u185, u186, u187, u188, u189], []⟩ w := by
  conv => arg 2; whnf
  have HC1 : Hid (∀ j, j + 1 < l0.length → w.cell? ⟨ad.block, ad.off + (j + 1), none⟩ = some (.int .u8 (l0.getD (j + 1) 0))) := Lib.hid fun j hj => by
    have h := HC.out (j + 1) hj
    simpa [Addr.add] using h
  have HC2 : Hid (∀ j, j + 2 < l0.length → w.cell? ⟨ad.block, ad.off + (j + 2), none⟩ = some (.int .u8 (l0.getD (j + 2) 0))) := Lib.hid fun j hj => by
    have h := HC.out (j + 2) hj
    simpa [Addr.add] using h
  have hb1 : ((q : Int) == (l0.length : Int)) = false := by rw [beq_eq_false_iff_ne]; omega
  have hb : ((q : Int) + 1 == (l0.length : Int)) = false := by rw [beq_eq_false_iff_ne]; omega
  have hb2 : ((q : Int) + 2 == (l0.length : Int)) = true := by rw [beq_iff_eq]; omega
  have hb3 : ((q : Int) + 1 + 1 == (l0.length : Int)) = true := by rw [beq_iff_eq]; omega
  clear hr
  simp only [Prod.mk.injEq] at h
  obtain ⟨rfl, rfl⟩ := h
  go_wp2
  go_ret2
  exact ⟨by (first | (simp; done) | (simp; omega)), Drawn0.refl _⟩
set_option maxHeartbeats 2000000 in
set_option maxRecDepth 1000000 in
theorem vn27_101p_no {ad : Addr} {c0 : Nat} {l0 : List Int} {r1 : Int} {r2 : Bool} {w : World} (hn : l0.length ≤ 4611686018427387904) (HC : Hid (∀ j, j < l0.length → w.cell? (ad.add j) = some (.int .u8 (l0.getD j 0)))) {q : Nat} (hq : q + 1 < l0.length) (hcq : w.cell? (ad.add q) = some (.int .u8 101)) (hc2 : w.cell? ⟨ad.block, ad.off + (q + 1), none⟩ = some (.int .u8 43)) {x : Int} (hr : q + 2 < l0.length) (hd : x < 48 ∨ (48 ≤ x ∧ 57 < x)) (hc3 : w.cell? ⟨ad.block, ad.off + (q + 2), none⟩ = some (.int .u8 x)) (h : (((q + 2 : Nat) : Int), false) = (r1, r2)) (u2 u3 u4 u5 u6 u7 u8 u9 u10 u11 u12 u13 u14 u15 u16 u17 u18 u19 u20 u21 u22 u23 u24 u25 u26 u27 u28 u29 u30 u31 u32 u33 u34 u35 u36 u37 u38 u39 u40 u41 u42 u43 u44 u45 u46 u47 u48 u49 u50 u51 u52 u53 u54 u55 u56 u57 u58 u59 u60 u61 u62 u63 u64 u65 u66 u67 u68 u69 u70 u71 u72 u73 u74 u75 u76 u77 u78 u79 u80 u81 u82 u83 u84 u85 u86 u87 u88 u89 u90 u91 u92 u93 u94 u95 u96 u97 u98 u99 u100 u101 u102 u103 u104 u105 u106 u107 u108 u109 u110 u111 u112 u113 u114 u115 u116 u117 u118 u119 u120 u121 u122 u123 u124 u125 u126 u127 u128 u129 u130 u131 u132 u133 u134 u135 u136 u137 u138 u139 u140 u141 u142 u143 u144 u145 u146 u147 u148 u149 u150 u151 u152 u153 u154 u155 u156 u157 u158 u159 u160 u161 u162 u163 u164 u165 u166 u167 u168 u169 u170 u171 u172 u173 u174 u175 u176 u177 u178 u179 u180 u181 u182 u183 u184 u185 u186 u187 u188 u189 : Value) :
    Code.wp Try.prog (vnCode 27) (bodyPost Try.prog Try.f30 fun e w' => e = .returned (.tuple #[.int .i64 r1, .bool r2]) ∧ Drawn0 w w') ⟨#[.slice (some ad) l0.length c0, .int .i64 (q : Int), u2, u3, u4, u5, u6, u7, u8, u9, u10, u11, u12, u13, u14, u15, u16, u17, u18, u19, u20, u21, u22, u23, u24, u25, u26, u27, u28, u29, u30, u31, u32, u33, u34, u35, u36, u37, u38, u39, u40, u41, u42, u43, u44, u45, u46, u47, u48, u49, u50, u51, u52, u53, u54, u55, u56, u57, u58, u59, u60, u61, u62, u63, u64, u65, u66, u67, u68, u69, u70, u71, u72, u73, u74, u75, u76, u77, u78, u79, u80, u81, u82, u83, u84, u85, u86, u87, u88, u89, u90, u91, u92, u93, u94, u95, u96, u97, u98, u99, u100, u101, u102, u103, u104, u105, u106, u107, u108, u109, u110, u111, u112, u113, u114, u115, u116, u117, u118, u119, u120, u121, u122, u123, u124, u125, u126, u127, u128, u129, u130, u131, u132, u133, u134, u135, u136, u137, u138, u139, u140, u141, u142, u143, u144, u145, u146, u147, u148, u149, u150, u151, u152, u153, u154, u155, u156, u157, u158, u159, u160, u161, u162, u163, u164, u165, u166, u167, u168, u169, u170, u171, u172, u173, u174, u175, u176, u177, u178, u179, u180, u181, u182, u183, u184, u185, u186, u187, u188, u189], []⟩ w := by
  conv => arg 2; whnf
  have HC1 : Hid (∀ j, j + 1 < l0.length → w.cell? ⟨ad.block, ad.off + (j + 1), none⟩ = some (.int .u8 (l0.getD (j + 1) 0))) := Lib.hid fun j hj => by
    have h := HC.out (j + 1) hj
    simpa [Addr.add] using h
  have HC2 : Hid (∀ j, j + 2 < l0.length → w.cell? ⟨ad.block, ad.off + (j + 2), none⟩ = some (.int .u8 (l0.getD (j + 2) 0))) := Lib.hid fun j hj => by
    have h := HC.out (j + 2) hj
    simpa [Addr.add] using h
  have hb1 : ((q : Int) == (l0.length : Int)) = false := by rw [beq_eq_false_iff_ne]; omega
  have hb : ((q : Int) + 1 == (l0.length : Int)) = false := by rw [beq_eq_false_iff_ne]; omega
  have hb2 : ((q : Int) + 2 == (l0.length : Int)) = false := by rw [beq_eq_false_iff_ne]; omega
  have hb3 : ((q : Int) + 1 + 1 == (l0.length : Int)) = false := by rw [beq_eq_false_iff_ne]; omega
  simp only [Prod.mk.injEq] at h
  obtain ⟨rfl, rfl⟩ := h
  rcases hd with d1 | ⟨d1, d2⟩
  · go_wp2
    go_ret2
    exact ⟨by (first | (simp; done) | (simp; omega)), Drawn0.refl _⟩
  · go_wp2
    go_ret2
    exact ⟨by (first | (simp; done) | (simp; omega)), Drawn0.refl _⟩
set_option maxHeartbeats 2000000 in
set_option maxRecDepth 1000000 in
theorem vn27_101p_yes {ad : Addr} {c0 : Nat} {l0 : List Int} {r1 : Int} {r2 : Bool} {w : World} (hn : l0.length ≤ 4611686018427387904) (HC : Hid (∀ j, j < l0.length → w.cell? (ad.add j) = some (.int .u8 (l0.getD j 0)))) {q : Nat} (hq : q + 1 < l0.length) (hcq : w.cell? (ad.add q) = some (.int .u8 101)) (hc2 : w.cell? ⟨ad.block, ad.off + (q + 1), none⟩ = some (.int .u8 43)) {x : Int} (hr : q + 2 < l0.length) (d1 : 48 ≤ x) (d2 : x ≤ 57) (hc3 : w.cell? ⟨ad.block, ad.off + (q + 2), none⟩ = some (.int .u8 x)) (h : ((dEnd l0 l0.length (q + 3) : Int), true) = (r1, r2)) (u2 u3 u4 u5 u6 u7 u8 u9 u10 u11 u12 u13 u14 u15 u16 u17 u18 u19 u20 u21 u22 u23 u24 u25 u26 u27 u28 u29 u30 u31 u32 u33 u34 u35 u36 u37 u38 u39 u40 u41 u42 u43 u44 u45 u46 u47 u48 u49 u50 u51 u52 u53 u54 u55 u56 u57 u58 u59 u60 u61 u62 u63 u64 u65 u66 u67 u68 u69 u70 u71 u72 u73 u74 u75 u76 u77 u78 u79 u80 u81 u82 u83 u84 u85 u86 u87 u88 u89 u90 u91 u92 u93 u94 u95 u96 u97 u98 u99 u100 u101 u102 u103 u104 u105 u106 u107 u108 u109 u110 u111 u112 u113 u114 u115 u116 u117 u118 u119 u120 u121 u122 u123 u124 u125 u126 u127 u128 u129 u130 u131 u132 u133 u134 u135 u136 u137 u138 u139 u140 u141 u142 u143 u144 u145 u146 u147 u148 u149 u150 u151 u152 u153 u154 u155 u156 u157 u158 u159 u160 u161 u162 u163 u164 u165 u166 u167 u168 u169 u170 u171 u172 u173 u174 u175 u176 u177 u178 u179 u180 u181 u182 u183 u184 u185 u186 u187 u188 u189 : Value) :
    Code.wp Try.prog (vnCode 27) (bodyPost Try.prog Try.f30 fun e w' => e = .returned (.tuple #[.int .i64 r1, .bool r2]) ∧ Drawn0 w w') ⟨#[.slice (some ad) l0.length c0, .int .i64 (q : Int), u2, u3, u4, u5, u6, u7, u8, u9, u10, u11, u12, u13, u14, u15, u16, u17, u18, u19, u20, u21, u22, u23, u24, u25, u26, u27, u28, u29, u30, u31, u32, u33, u34, u35, u36, u37, u38, u39, u40, u41, u42, u43, u44, u45, u46, u47, u48, u49, u50, u51, u52, u53, u54, u55, u56, u57, u58, u59, u60, u61, u62, u63, u64, u65, u66, u67, u68, u69, u70, u71, u72, u73, u74, u75, u76, u77, u78, u79, u80, u81, u82, u83, u84, u85, u86, u87, u88, u89, u90, u91, u92, u93, u94, u95, u96, u97, u98, u99, u100, u101, u102, u103, u104, u105, u106, u107, u108, u109, u110, u111, u112, u113, u114, u115, u116, u117, u118, u119, u120, u121, u122, u123, u124, u125, u126, u127, u128, u129, u130, u131, u132, u133, u134, u135, u136, u137, u138, u139, u140, u141, u142, u143, u144, u145, u146, u147, u148, u149, u150, u151, u152, u153, u154, u155, u156, u157, u158, u159, u160, u161, u162, u163, u164, u165, u166, u167, u168, u169, u170, u171, u172, u173, u174, u175, u176, u177, u178, u179, u180, u181, u182, u183, u184, u185, u186, u187, u188, u189], []⟩ w := by
  conv => arg 2; whnf
  have HC1 : Hid (∀ j, j + 1 < l0.length → w.cell? ⟨ad.block, ad.off + (j + 1), none⟩ = some (.int .u8 (l0.getD (j + 1) 0))) := Lib.hid fun j hj => by
    have h := HC.out (j + 1) hj
    simpa [Addr.add] using h
  have HC2 : Hid (∀ j, j + 2 < l0.length → w.cell? ⟨ad.block, ad.off + (j + 2), none⟩ = some (.int .u8 (l0.getD (j + 2) 0))) := Lib.hid fun j hj => by
    have h := HC.out (j + 2) hj
    simpa [Addr.add] using h
  have hb1 : ((q : Int) == (l0.length : Int)) = false := by rw [beq_eq_false_iff_ne]; omega
  have hb : ((q : Int) + 1 == (l0.length : Int)) = false := by rw [beq_eq_false_iff_ne]; omega
  have hb2 : ((q : Int) + 2 == (l0.length : Int)) = false := by rw [beq_eq_false_iff_ne]; omega
  have hb3 : ((q : Int) + 1 + 1 == (l0.length : Int)) = false := by rw [beq_eq_false_iff_ne]; omega
  have hge := dEnd_ge l0 l0.length (q + 3)
  have hle := dEnd_le l0 l0.length (q + 3) (by omega)
  have hbl := dEnd_dig l0 l0.length (q + 3)
  have hst := dEnd_stop l0 l0.length (q + 3) (by omega)
  generalize dEnd l0 l0.length (q + 3) = e at h hge hle hbl hst
  have HP := Lib.hid hbl
  have HS := Lib.hid hst
  have HE := Aside0.mk h
  clear hbl hst h
  go_wp2
  go_loop [1] (fun v => ∃ j : Nat, q + 3 ≤ j ∧ j ≤ e ∧ v = .int .i64 j) (fun v => e - (intOf v).toNat)
  case atStart => exact ⟨q + 3, Nat.le_refl _, hge, by (first | (simp; done) | (simp; omega))⟩
  case round =>
    obtain ⟨j, h1, h2, rfl⟩ := hrel
    by_cases hlt : j < e
    · have hcj := HC.out j (by omega)
      obtain ⟨p1, p2⟩ := HP.out j h1 hlt
      generalize l0.getD j 0 = x at hcj p1 p2
      go_wp2
      go_round
      case rel => exact ⟨j + 1, by omega, by omega, by go_num⟩
      case measure => simp [intOf]; omega
    · obtain rfl : j = e := by omega
      clear hlt
      by_cases hlt : j < l0.length
      · have hcj := HC.out j hlt
        have hns := HS.out hlt
        generalize l0.getD j 0 = x at hcj hns
        by_cases p1 : 48 ≤ x
        · have p2 : 57 < x := by
            rcases Int.lt_or_le 57 x with h | h
            · exact h
            · exact absurd ⟨p1, h⟩ hns
          clear hns
          have hh := HE.out
          simp only [Prod.mk.injEq] at hh
          obtain ⟨rfl, rfl⟩ := hh
          go_wp2
          go_ret2
          exact ⟨rfl, Drawn0.refl _⟩
        · have p2 : x < 48 := by omega
          clear hns p1
          have hh := HE.out
          simp only [Prod.mk.injEq] at hh
          obtain ⟨rfl, rfl⟩ := hh
          go_wp2
          go_ret2
          exact ⟨rfl, Drawn0.refl _⟩
      · have hje : l0.length ≤ j := by omega
        clear hlt
        have hh := HE.out
        simp only [Prod.mk.injEq] at hh
        obtain ⟨rfl, rfl⟩ := hh
        go_wp2
        go_ret2
        exact ⟨rfl, Drawn0.refl _⟩
set_option maxHeartbeats 2000000 in
set_option maxRecDepth 1000000 in
theorem vn27_101m_end {ad : Addr} {c0 : Nat} {l0 : List Int} {r1 : Int} {r2 : Bool} {w : World} (hn : l0.length ≤ 4611686018427387904) (HC : Hid (∀ j, j < l0.length → w.cell? (ad.add j) = some (.int .u8 (l0.getD j 0)))) {q : Nat} (hq : q + 1 < l0.length) (hcq : w.cell? (ad.add q) = some (.int .u8 101)) (hc2 : w.cell? ⟨ad.block, ad.off + (q + 1), none⟩ = some (.int .u8 45)) (hr : q + 2 = l0.length) (h : (((q + 2 : Nat) : Int), false) = (r1, r2)) (u2 u3 u4 u5 u6 u7 u8 u9 u10 u11 u12 u13 u14 u15 u16 u17 u18 u19 u20 u21 u22 u23 u24 u25 u26 u27 u28 u29 u30 u31 u32 u33 u34 u35 u36 u37 u38 u39 u40 u41 u42 u43 u44 u45 u46 u47 u48 u49 u50 u51 u52 u53 u54 u55 u56 u57 u58 u59 u60 u61 u62 u63 u64 u65 u66 u67 u68 u69 u70 u71 u72 u73 u74 u75 u76 u77 u78 u79 u80 u81 u82 u83 u84 u85 u86 u87 u88 u89 u90 u91 u92 u93 u94 u95 u96 u97 u98 u99 u100 u101 u102 u103 u104 u105 u106 u107 u108 u109 u110 u111 u112 u113 u114 u115 u116 u117 u118 u119 u120 u121 u122 u123 u124 u125 u126 u127 u128 u129 u130 u131 u132 u133 u134 u135 u136 u137 u138 u139 u140 u141 u142 u143 u144 u145 u146 u147 u148 u149 u150 u151 u152 u153 u154 u155 u156 u157 u158 u159 u160 u161 u162 u163 u164 u165 u166 u167 u168 u169 u170 u171 u172 u173 u174 u175 u176 u177 u178 u179 u180 u181 u182 u183 u184 u185 u186 u187 u188 u189 : Value) :
    Code.wp Try.prog (vnCode 27) (bodyPost Try.prog Try.f30 fun e w' => e = .returned (.tuple #[.int .i64 r1, .bool r2]) ∧ Drawn0 w w') ⟨#[.slice (some ad) l0.length c0, .int .i64 (q : Int), u2, u3, u4, u5, u6, u7, u8, u9, u10, u11, u12, u13, u14, u15, u16, u17, u18, u19, u20, u21, u22, u23, u24, u25, u26, u27, u28, u29, u30, u31, u32, u33, u34, u35, u36, u37, u38, u39, u40, u41, u42, u43, u44, u45, u46, u47, u48, u49, u50, u51, u52, u53, u54, u55, u56, u57, u58, u59, u60, u61, u62, u63, u64, u65, u66, u67, u68, u69, u70, u71, u72, u73, u74, u75, u76, u77, u78, u79, u80, u81, u82, u83, u84, u85, u86, u87, u88, u89, u90, u91, u92, u93, u94, u95, u96, u97, u98, u99, u100, u101, u102, u103, u104, u105, u106, u107, u108, u109, u110, u111, u112, u113, u114, u115, u116, u117, u118, u119, u120, u121, u122, u123, u124, u125, u126, u127, u128, u129, u130, u131, u132, u133, u134, u135, u136, u137, u138, u139, u140, u141, u142, u143, u144, u145, u146, u147, u148, u149, u150, u151, u152, u153, u154, u155, u156, u157, u158, u159, u160, u161, u162, u163, u164, u165, u166, u167, u168, u169, u170, u171, u172, u173, u174, u175, u176, u177, u178, u179, u180, u181, u182, u183, u184, u185, u186, u187, u188, u189], []⟩ w := by
  conv => arg 2; whnf
  have HC1 : Hid (∀ j, j + 1 < l0.length → w.cell? ⟨ad.block, ad.off + (j + 1), none⟩ = some (.int .u8 (l0.getD (j + 1) 0))) := Lib.hid fun j hj => by
    have h := HC.out (j + 1) hj
    simpa [Addr.add] using h
  have HC2 : Hid (∀ j, j + 2 < l0.length → w.cell? ⟨ad.block, ad.off + (j + 2), none⟩ = some (.int .u8 (l0.getD (j + 2) 0))) := Lib.hid fun j hj => by
    have h := HC.out (j + 2) hj
    simpa [Addr.add] using h
  have hb1 : ((q : Int) == (l0.length : Int)) = false := by rw [beq_eq_false_iff_ne]; omega
  have hb : ((q : Int) + 1 == (l0.length : Int)) = false := by rw [beq_eq_false_iff_ne]; omega
  have hb2 : ((q : Int) + 2 == (l0.length : Int)) = true := by rw [beq_iff_eq]; omega
  have hb3 : ((q : Int) + 1 + 1 == (l0.length : Int)) = true := by rw [beq_iff_eq]; omega
  clear hr
  simp only [Prod.mk.injEq] at h
  obtain ⟨rfl, rfl⟩ := h
  go_wp2
  go_ret2
  exact ⟨by (first | (simp; done) | (simp; omega)), Drawn0.refl _⟩
set_option maxHeartbeats 2000000 in
set_option maxRecDepth 1000000 in
theorem vn27_101m_no {ad : Addr} {c0 : Nat} {l0 : List Int} {r1 : Int} {r2 : Bool} {w : World} (hn : l0.length ≤ 4611686018427387904) (HC : Hid (∀ j, j < l0.length → w.cell? (ad.add j) = some (.int .u8 (l0.getD j 0)))) {q : Nat} (hq : q + 1 < l0.length) (hcq : w.cell? (ad.add q) = some (.int .u8 101)) (hc2 : w.cell? ⟨ad.block, ad.off + (q + 1), none⟩ = some (.int .u8 45)) {x : Int} (hr : q + 2 < l0.length) (hd : x < 48 ∨ (48 ≤ x ∧ 57 < x)) (hc3 : w.cell? ⟨ad.block, ad.off + (q + 2), none⟩ = some (.int .u8 x)) (h : (((q + 2 : Nat) : Int), false) = (r1, r2)) (u2 u3 u4 u5 u6 u7 u8 u9 u10 u11 u12 u13 u14 u15 u16 u17 u18 u19 u20 u21 u22 u23 u24 u25 u26 u27 u28 u29 u30 u31 u32 u33 u34 u35 u36 u37 u38 u39 u40 u41 u42 u43 u44 u45 u46 u47 u48 u49 u50 u51 u52 u53 u54 u55 u56 u57 u58 u59 u60 u61 u62 u63 u64 u65 u66 u67 u68 u69 u70 u71 u72 u73 u74 u75 u76 u77 u78 u79 u80 u81 u82 u83 u84 u85 u86 u87 u88 u89 u90 u91 u92 u93 u94 u95 u96 u97 u98 u99 u100 u101 u102 u103 u104 u105 u106 u107 u108 u109 u110 u111 u112 u113 u114 u115 u116 u117 u118 u119 u120 u121 u122 u123 u124 u125 u126 u127 u128 u129 u130 u131 u132 u133 u134 u135 u136 u137 u138 u139 u140 u141 u142 u143 u144 u145 u146 u147 u148 u149 u150 u151 u152 u153 u154 u155 u156 u157 u158 u159 u160 u161 u162 u163 u164 u165 u166 u167 u168 u169 u170 u171 u172 u173 u174 u175 u176 u177 u178 u179 u180 u181 u182 u183 u184 u185 u186 u187 u188 u189 : Value) :
    Code.wp Try.prog (vnCode 27) (bodyPost Try.prog Try.f30 fun e w' => e = .returned (.tuple #[.int .i64 r1, .bool r2]) ∧ Drawn0 w w') ⟨#[.slice (some ad) l0.length c0, .int .i64 (q : Int), u2, u3, u4, u5, u6, u7, u8, u9, u10, u11, u12, u13, u14, u15, u16, u17, u18, u19, u20, u21, u22, u23, u24, u25, u26, u27, u28, u29, u30, u31, u32, u33, u34, u35, u36, u37, u38, u39, u40, u41, u42, u43, u44, u45, u46, u47, u48, u49, u50, u51, u52, u53, u54, u55, u56, u57, u58, u59, u60, u61, u62, u63, u64, u65, u66, u67, u68, u69, u70, u71, u72, u73, u74, u75, u76, u77, u78, u79, u80, u81, u82, u83, u84, u85, u86, u87, u88, u89, u90, u91, u92, u93, u94, u95, u96, u97, u98, u99, u100, u101, u102, u103, u104, u105, u106, u107, u108, u109, u110, u111, u112, u113, u114, u115, u116, u117, u118, u119, u120, u121, u122, u123, u124, u125, u126, u127, u128, u129, u130, u131, u132, u133, u134, u135, u136, u137, u138, u139, u140, u141, u142, u143, u144, u145, u146, u147, u148, u149, u150, u151, u152, u153, u154, u155, u156, u157, u158, u159, u160, u161, u162, u163, u164, u165, u166, u167, u168, u169, u170, u171, u172, u173, u174, u175, u176, u177, u178, u179, u180, u181, u182, u183, u184, u185, u186, u187, u188, u189], []⟩ w := by
  conv => arg 2; whnf
  have HC1 : Hid (∀ j, j + 1 < l0.length → w.cell? ⟨ad.block, ad.off + (j + 1), none⟩ = some (.int .u8 (l0.getD (j + 1) 0))) := Lib.hid fun j hj => by
    have h := HC.out (j + 1) hj
    simpa [Addr.add] using h
  have HC2 : Hid (∀ j, j + 2 < l0.length → w.cell? ⟨ad.block, ad.off + (j + 2), none⟩ = some (.int .u8 (l0.getD (j + 2) 0))) := Lib.hid fun j hj => by
    have h := HC.out (j + 2) hj
    simpa [Addr.add] using h
  have hb1 : ((q : Int) == (l0.length : Int)) = false := by rw [beq_eq_false_iff_ne]; omega
  have hb : ((q : Int) + 1 == (l0.length : Int)) = false := by rw [beq_eq_false_iff_ne]; omega
  have hb2 : ((q : Int) + 2 == (l0.length : Int)) = false := by rw [beq_eq_false_iff_ne]; omega
  have hb3 : ((q : Int) + 1 + 1 == (l0.length : Int)) = false := by rw [beq_eq_false_iff_ne]; omega
  simp only [Prod.mk.injEq] at h
  obtain ⟨rfl, rfl⟩ := h
  rcases hd with d1 | ⟨d1, d2⟩
  · go_wp2
    go_ret2
    exact ⟨by (first | (simp; done) | (simp; omega)), Drawn0.refl _⟩
  · go_wp2
    go_ret2
    exact ⟨by (first | (simp; done) | (simp; omega)), Drawn0.refl _⟩
set_option maxHeartbeats 2000000 in
set_option maxRecDepth 1000000 in
theorem vn27_101m_yes {ad : Addr} {c0 : Nat} {l0 : List Int} {r1 : Int} {r2 : Bool} {w : World} (hn : l0.length ≤ 4611686018427387904) (HC : Hid (∀ j, j < l0.length → w.cell? (ad.add j) = some (.int .u8 (l0.getD j 0)))) {q : Nat} (hq : q + 1 < l0.length) (hcq : w.cell? (ad.add q) = some (.int .u8 101)) (hc2 : w.cell? ⟨ad.block, ad.off + (q + 1), none⟩ = some (.int .u8 45)) {x : Int} (hr : q + 2 < l0.length) (d1 : 48 ≤ x) (d2 : x ≤ 57) (hc3 : w.cell? ⟨ad.block, ad.off + (q + 2), none⟩ = some (.int .u8 x)) (h : ((dEnd l0 l0.length (q + 3) : Int), true) = (r1, r2)) (u2 u3 u4 u5 u6 u7 u8 u9 u10 u11 u12 u13 u14 u15 u16 u17 u18 u19 u20 u21 u22 u23 u24 u25 u26 u27 u28 u29 u30 u31 u32 u33 u34 u35 u36 u37 u38 u39 u40 u41 u42 u43 u44 u45 u46 u47 u48 u49 u50 u51 u52 u53 u54 u55 u56 u57 u58 u59 u60 u61 u62 u63 u64 u65 u66 u67 u68 u69 u70 u71 u72 u73 u74 u75 u76 u77 u78 u79 u80 u81 u82 u83 u84 u85 u86 u87 u88 u89 u90 u91 u92 u93 u94 u95 u96 u97 u98 u99 u100 u101 u102 u103 u104 u105 u106 u107 u108 u109 u110 u111 u112 u113 u114 u115 u116 u117 u118 u119 u120 u121 u122 u123 u124 u125 u126 u127 u128 u129 u130 u131 u132 u133 u134 u135 u136 u137 u138 u139 u140 u141 u142 u143 u144 u145 u146 u147 u148 u149 u150 u151 u152 u153 u154 u155 u156 u157 u158 u159 u160 u161 u162 u163 u164 u165 u166 u167 u168 u169 u170 u171 u172 u173 u174 u175 u176 u177 u178 u179 u180 u181 u182 u183 u184 u185 u186 u187 u188 u189 : Value) :
    Code.wp Try.prog (vnCode 27) (bodyPost Try.prog Try.f30 fun e w' => e = .returned (.tuple #[.int .i64 r1, .bool r2]) ∧ Drawn0 w w') ⟨#[.slice (some ad) l0.length c0, .int .i64 (q : Int), u2, u3, u4, u5, u6, u7, u8, u9, u10, u11, u12, u13, u14, u15, u16, u17, u18, u19, u20, u21, u22, u23, u24, u25, u26, u27, u28, u29, u30, u31, u32, u33, u34, u35, u36, u37, u38, u39, u40, u41, u42, u43, u44, u45, u46, u47, u48, u49, u50, u51, u52, u53, u54, u55, u56, u57, u58, u59, u60, u61, u62, u63, u64, u65, u66, u67, u68, u69, u70, u71, u72, u73, u74, u75, u76, u77, u78, u79, u80, u81, u82, u83, u84, u85, u86, u87, u88, u89, u90, u91, u92, u93, u94, u95, u96, u97, u98, u99, u100, u101, u102, u103, u104, u105, u106, u107, u108, u109, u110, u111, u112, u113, u114, u115, u116, u117, u118, u119, u120, u121, u122, u123, u124, u125, u126, u127, u128, u129, u130, u131, u132, u133, u134, u135, u136, u137, u138, u139, u140, u141, u142, u143, u144, u145, u146, u147, u148, u149, u150, u151, u152, u153, u154, u155, u156, u157, u158, u159, u160, u161, u162, u163, u164, u165, u166, u167, u168, u169, u170, u171, u172, u173, u174, u175, u176, u177, u178, u179, u180, u181, u182, u183, u184, u185, u186, u187, u188, u189], []⟩ w := by
  conv => arg 2; whnf
  have HC1 : Hid (∀ j, j + 1 < l0.length → w.cell? ⟨ad.block, ad.off + (j + 1), none⟩ = some (.int .u8 (l0.getD (j + 1) 0))) := Lib.hid fun j hj => by
    have h := HC.out (j + 1) hj
    simpa [Addr.add] using h
  have HC2 : Hid (∀ j, j + 2 < l0.length → w.cell? ⟨ad.block, ad.off + (j + 2), none⟩ = some (.int .u8 (l0.getD (j + 2) 0))) := Lib.hid fun j hj => by
    have h := HC.out (j + 2) hj
    simpa [Addr.add] using h
  have hb1 : ((q : Int) == (l0.length : Int)) = false := by rw [beq_eq_false_iff_ne]; omega
  have hb : ((q : Int) + 1 == (l0.length : Int)) = false := by rw [beq_eq_false_iff_ne]; omega
  have hb2 : ((q : Int) + 2 == (l0.length : Int)) = false := by rw [beq_eq_false_iff_ne]; omega
  have hb3 : ((q : Int) + 1 + 1 == (l0.length : Int)) = false := by rw [beq_eq_false_iff_ne]; omega
  have hge := dEnd_ge l0 l0.length (q + 3)
  have hle := dEnd_le l0 l0.length (q + 3) (by omega)
  have hbl := dEnd_dig l0 l0.length (q + 3)
  have hst := dEnd_stop l0 l0.length (q + 3) (by omega)
  generalize dEnd l0 l0.length (q + 3) = e at h hge hle hbl hst
  have HP := Lib.hid hbl
  have HS := Lib.hid hst
  have HE := Aside0.mk h
  clear hbl hst h
  go_wp2
  go_loop [1] (fun v => ∃ j : Nat, q + 3 ≤ j ∧ j ≤ e ∧ v = .int .i64 j) (fun v => e - (intOf v).toNat)
  case atStart => exact ⟨q + 3, Nat.le_refl _, hge, by (first | (simp; done) | (simp; omega))⟩
  case round =>
    obtain ⟨j, h1, h2, rfl⟩ := hrel
    by_cases hlt : j < e
    · have hcj := HC.out j (by omega)
      obtain ⟨p1, p2⟩ := HP.out j h1 hlt
      generalize l0.getD j 0 = x at hcj p1 p2
      go_wp2
      go_round
      case rel => exact ⟨j + 1, by omega, by omega, by go_num⟩
      case measure => simp [intOf]; omega
    · obtain rfl : j = e := by omega
      clear hlt
      by_cases hlt : j < l0.length
      · have hcj := HC.out j hlt
        have hns := HS.out hlt
        generalize l0.getD j 0 = x at hcj hns
        by_cases p1 : 48 ≤ x
        · have p2 : 57 < x := by
            rcases Int.lt_or_le 57 x with h | h
            · exact h
            · exact absurd ⟨p1, h⟩ hns
          clear hns
          have hh := HE.out
          simp only [Prod.mk.injEq] at hh
          obtain ⟨rfl, rfl⟩ := hh
          go_wp2
          go_ret2
          exact ⟨rfl, Drawn0.refl _⟩
        · have p2 : x < 48 := by omega
          clear hns p1
          have hh := HE.out
          simp only [Prod.mk.injEq] at hh
          obtain ⟨rfl, rfl⟩ := hh
          go_wp2
          go_ret2
          exact ⟨rfl, Drawn0.refl _⟩
      · have hje : l0.length ≤ j := by omega
        clear hlt
        have hh := HE.out
        simp only [Prod.mk.injEq] at hh
        obtain ⟨rfl, rfl⟩ := hh
        go_wp2
        go_ret2
        exact ⟨rfl, Drawn0.refl _⟩
set_option maxHeartbeats 2000000 in
set_option maxRecDepth 1000000 in
theorem vn27_101_no {ad : Addr} {c0 : Nat} {l0 : List Int} {r1 : Int} {r2 : Bool} {w : World} (hn : l0.length ≤ 4611686018427387904) (HC : Hid (∀ j, j < l0.length → w.cell? (ad.add j) = some (.int .u8 (l0.getD j 0)))) {q : Nat} {x : Int} (hq : q + 1 < l0.length) (hcq : w.cell? (ad.add q) = some (.int .u8 101)) (hc2 : w.cell? ⟨ad.block, ad.off + (q + 1), none⟩ = some (.int .u8 x)) (hx1 : (x == 43) = false) (hx2 : (x == 45) = false) (hd : x < 48 ∨ (48 ≤ x ∧ 57 < x)) (h : (((q + 1 : Nat) : Int), false) = (r1, r2)) (u2 u3 u4 u5 u6 u7 u8 u9 u10 u11 u12 u13 u14 u15 u16 u17 u18 u19 u20 u21 u22 u23 u24 u25 u26 u27 u28 u29 u30 u31 u32 u33 u34 u35 u36 u37 u38 u39 u40 u41 u42 u43 u44 u45 u46 u47 u48 u49 u50 u51 u52 u53 u54 u55 u56 u57 u58 u59 u60 u61 u62 u63 u64 u65 u66 u67 u68 u69 u70 u71 u72 u73 u74 u75 u76 u77 u78 u79 u80 u81 u82 u83 u84 u85 u86 u87 u88 u89 u90 u91 u92 u93 u94 u95 u96 u97 u98 u99 u100 u101 u102 u103 u104 u105 u106 u107 u108 u109 u110 u111 u112 u113 u114 u115 u116 u117 u118 u119 u120 u121 u122 u123 u124 u125 u126 u127 u128 u129 u130 u131 u132 u133 u134 u135 u136 u137 u138 u139 u140 u141 u142 u143 u144 u145 u146 u147 u148 u149 u150 u151 u152 u153 u154 u155 u156 u157 u158 u159 u160 u161 u162 u163 u164 u165 u166 u167 u168 u169 u170 u171 u172 u173 u174 u175 u176 u177 u178 u179 u180 u181 u182 u183 u184 u185 u186 u187 u188 u189 : Value) :
    Code.wp Try.prog (vnCode 27) (bodyPost Try.prog Try.f30 fun e w' => e = .returned (.tuple #[.int .i64 r1, .bool r2]) ∧ Drawn0 w w') ⟨#[.slice (some ad) l0.length c0, .int .i64 (q : Int), u2, u3, u4, u5, u6, u7, u8, u9, u10, u11, u12, u13, u14, u15, u16, u17, u18, u19, u20, u21, u22, u23, u24, u25, u26, u27, u28, u29, u30, u31, u32, u33, u34, u35, u36, u37, u38, u39, u40, u41, u42, u43, u44, u45, u46, u47, u48, u49, u50, u51, u52, u53, u54, u55, u56, u57, u58, u59, u60, u61, u62, u63, u64, u65, u66, u67, u68, u69, u70, u71, u72, u73, u74, u75, u76, u77, u78, u79, u80, u81, u82, u83, u84, u85, u86, u87, u88, u89, u90, u91, u92, u93, u94, u95, u96, u97, u98, u99, u100, u101, u102, u103, u104, u105, u106, u107, u108, u109, u110, u111, u112, u113, u114, u115, u116, u117, u118, u119, u120, u121, u122, u123, u124, u125, u126, u127, u128, u129, u130, u131, u132, u133, u134, u135, u136, u137, u138, u139, u140, u141, u142, u143, u144, u145, u146, u147, u148, u149, u150, u151, u152, u153, u154, u155, u156, u157, u158, u159, u160, u161, u162, u163, u164, u165, u166, u167, u168, u169, u170, u171, u172, u173, u174, u175, u176, u177, u178, u179, u180, u181, u182, u183, u184, u185, u186, u187, u188, u189], []⟩ w := by
  conv => arg 2; whnf
  have HC1 : Hid (∀ j, j + 1 < l0.length → w.cell? ⟨ad.block, ad.off + (j + 1), none⟩ = some (.int .u8 (l0.getD (j + 1) 0))) := Lib.hid fun j hj => by
    have h := HC.out (j + 1) hj
    simpa [Addr.add] using h
  have HC2 : Hid (∀ j, j + 2 < l0.length → w.cell? ⟨ad.block, ad.off + (j + 2), none⟩ = some (.int .u8 (l0.getD (j + 2) 0))) := Lib.hid fun j hj => by
    have h := HC.out (j + 2) hj
    simpa [Addr.add] using h
  have hb1 : ((q : Int) == (l0.length : Int)) = false := by rw [beq_eq_false_iff_ne]; omega
  have hb : ((q : Int) + 1 == (l0.length : Int)) = false := by rw [beq_eq_false_iff_ne]; omega
  simp only [Prod.mk.injEq] at h
  obtain ⟨rfl, rfl⟩ := h
  rcases hd with d1 | ⟨d1, d2⟩
  · go_wp2
    go_ret2
    exact ⟨by (first | (simp; done) | (simp; omega)), Drawn0.refl _⟩
  · go_wp2
    go_ret2
    exact ⟨by (first | (simp; done) | (simp; omega)), Drawn0.refl _⟩
set_option maxHeartbeats 2000000 in
set_option maxRecDepth 1000000 in
theorem vn27_101_yes {ad : Addr} {c0 : Nat} {l0 : List Int} {r1 : Int} {r2 : Bool} {w : World} (hn : l0.length ≤ 4611686018427387904) (HC : Hid (∀ j, j < l0.length → w.cell? (ad.add j) = some (.int .u8 (l0.getD j 0)))) {q : Nat} {x : Int} (hq : q + 1 < l0.length) (hcq : w.cell? (ad.add q) = some (.int .u8 101)) (hc2 : w.cell? ⟨ad.block, ad.off + (q + 1), none⟩ = some (.int .u8 x)) (hx1 : (x == 43) = false) (hx2 : (x == 45) = false) (d1 : 48 ≤ x) (d2 : x ≤ 57) (h : ((dEnd l0 l0.length (q + 2) : Int), true) = (r1, r2)) (u2 u3 u4 u5 u6 u7 u8 u9 u10 u11 u12 u13 u14 u15 u16 u17 u18 u19 u20 u21 u22 u23 u24 u25 u26 u27 u28 u29 u30 u31 u32 u33 u34 u35 u36 u37 u38 u39 u40 u41 u42 u43 u44 u45 u46 u47 u48 u49 u50 u51 u52 u53 u54 u55 u56 u57 u58 u59 u60 u61 u62 u63 u64 u65 u66 u67 u68 u69 u70 u71 u72 u73 u74 u75 u76 u77 u78 u79 u80 u81 u82 u83 u84 u85 u86 u87 u88 u89 u90 u91 u92 u93 u94 u95 u96 u97 u98 u99 u100 u101 u102 u103 u104 u105 u106 u107 u108 u109 u110 u111 u112 u113 u114 u115 u116 u117 u118 u119 u120 u121 u122 u123 u124 u125 u126 u127 u128 u129 u130 u131 u132 u133 u134 u135 u136 u137 u138 u139 u140 u141 u142 u143 u144 u145 u146 u147 u148 u149 u150 u151 u152 u153 u154 u155 u156 u157 u158 u159 u160 u161 u162 u163 u164 u165 u166 u167 u168 u169 u170 u171 u172 u173 u174 u175 u176 u177 u178 u179 u180 u181 u182 u183 u184 u185 u186 u187 u188 u189 : Value) :
    Code.wp Try.prog (vnCode 27) (bodyPost Try.prog Try.f30 fun e w' => e = .returned (.tuple #[.int .i64 r1, .bool r2]) ∧ Drawn0 w w') ⟨#[.slice (some ad) l0.length c0, .int .i64 (q : Int), u2, u3, u4, u5, u6, u7, u8, u9, u10, u11, u12, u13, u14, u15, u16, u17, u18, u19, u20, u21, u22, u23, u24, u25, u26, u27, u28, u29, u30, u31, u32, u33, u34, u35, u36, u37, u38, u39, u40, u41, u42, u43, u44, u45, u46, u47, u48, u49, u50, u51, u52, u53, u54, u55, u56, u57, u58, u59, u60, u61, u62, u63, u64, u65, u66, u67, u68, u69, u70, u71, u72, u73, u74, u75, u76, u77, u78, u79, u80, u81, u82, u83, u84, u85, u86, u87, u88, u89, u90, u91, u92, u93, u94, u95, u96, u97, u98, u99, u100, u101, u102, u103, u104, u105, u106, u107, u108, u109, u110, u111, u112, u113, u114, u115, u116, u117, u118, u119, u120, u121, u122, u123, u124, u125, u126, u127, u128, u129, u130, u131, u132, u133, u134, u135, u136, u137, u138, u139, u140, u141, u142, u143, u144, u145, u146, u147, u148, u149, u150, u151, u152, u153, u154, u155, u156, u157, u158, u159, u160, u161, u162, u163, u164, u165, u166, u167, u168, u169, u170, u171, u172, u173, u174, u175, u176, u177, u178, u179, u180, u181, u182, u183, u184, u185, u186, u187, u188, u189], []⟩ w := by
  conv => arg 2; whnf
  have HC1 : Hid (∀ j, j + 1 < l0.length → w.cell? ⟨ad.block, ad.off + (j + 1), none⟩ = some (.int .u8 (l0.getD (j + 1) 0))) := Lib.hid fun j hj => by
    have h := HC.out (j + 1) hj
    simpa [Addr.add] using h
  have HC2 : Hid (∀ j, j + 2 < l0.length → w.cell? ⟨ad.block, ad.off + (j + 2), none⟩ = some (.int .u8 (l0.getD (j + 2) 0))) := Lib.hid fun j hj => by
    have h := HC.out (j + 2) hj
    simpa [Addr.add] using h
  have hb1 : ((q : Int) == (l0.length : Int)) = false := by rw [beq_eq_false_iff_ne]; omega
  have hb : ((q : Int) + 1 == (l0.length : Int)) = false := by rw [beq_eq_false_iff_ne]; omega
  have hge := dEnd_ge l0 l0.length (q + 2)
  have hle := dEnd_le l0 l0.length (q + 2) (by omega)
  have hbl := dEnd_dig l0 l0.length (q + 2)
  have hst := dEnd_stop l0 l0.length (q + 2) (by omega)
  generalize dEnd l0 l0.length (q + 2) = e at h hge hle hbl hst
  have HP := Lib.hid hbl
  have HS := Lib.hid hst
  have HE := Aside0.mk h
  clear hbl hst h
  go_wp2
  go_loop [1] (fun v => ∃ j : Nat, q + 2 ≤ j ∧ j ≤ e ∧ v = .int .i64 j) (fun v => e - (intOf v).toNat)
  case atStart => exact ⟨q + 2, Nat.le_refl _, hge, by (first | (simp; done) | (simp; omega))⟩
  case round =>
    obtain ⟨j, h1, h2, rfl⟩ := hrel
    by_cases hlt : j < e
    · have hcj := HC.out j (by omega)
      obtain ⟨p1, p2⟩ := HP.out j h1 hlt
      generalize l0.getD j 0 = x at hcj p1 p2
      go_wp2
      go_round
      case rel => exact ⟨j + 1, by omega, by omega, by go_num⟩
      case measure => simp [intOf]; omega
    · obtain rfl : j = e := by omega
      clear hlt
      by_cases hlt : j < l0.length
      · have hcj := HC.out j hlt
        have hns := HS.out hlt
        generalize l0.getD j 0 = x at hcj hns
        by_cases p1 : 48 ≤ x
        · have p2 : 57 < x := by
            rcases Int.lt_or_le 57 x with h | h
            · exact h
            · exact absurd ⟨p1, h⟩ hns
          clear hns
          have hh := HE.out
          simp only [Prod.mk.injEq] at hh
          obtain ⟨rfl, rfl⟩ := hh
          go_wp2
          go_ret2
          exact ⟨rfl, Drawn0.refl _⟩
        · have p2 : x < 48 := by omega
          clear hns p1
          have hh := HE.out
          simp only [Prod.mk.injEq] at hh
          obtain ⟨rfl, rfl⟩ := hh
          go_wp2
          go_ret2
          exact ⟨rfl, Drawn0.refl _⟩
      · have hje : l0.length ≤ j := by omega
        clear hlt
        have hh := HE.out
        simp only [Prod.mk.injEq] at hh
        obtain ⟨rfl, rfl⟩ := hh
        go_wp2
        go_ret2
        exact ⟨rfl, Drawn0.refl _⟩
set_option maxHeartbeats 2000000 in
set_option maxRecDepth 1000000 in
theorem vn27_69_end {ad : Addr} {c0 : Nat} {l0 : List Int} {r1 : Int} {r2 : Bool} {w : World} (hn : l0.length ≤ 4611686018427387904) (HC : Hid (∀ j, j < l0.length → w.cell? (ad.add j) = some (.int .u8 (l0.getD j 0)))) {q : Nat} (hq : q + 1 = l0.length) (hcq : w.cell? (ad.add q) = some (.int .u8 69)) (h : (((q + 1 : Nat) : Int), false) = (r1, r2)) (u2 u3 u4 u5 u6 u7 u8 u9 u10 u11 u12 u13 u14 u15 u16 u17 u18 u19 u20 u21 u22 u23 u24 u25 u26 u27 u28 u29 u30 u31 u32 u33 u34 u35 u36 u37 u38 u39 u40 u41 u42 u43 u44 u45 u46 u47 u48 u49 u50 u51 u52 u53 u54 u55 u56 u57 u58 u59 u60 u61 u62 u63 u64 u65 u66 u67 u68 u69 u70 u71 u72 u73 u74 u75 u76 u77 u78 u79 u80 u81 u82 u83 u84 u85 u86 u87 u88 u89 u90 u91 u92 u93 u94 u95 u96 u97 u98 u99 u100 u101 u102 u103 u104 u105 u106 u107 u108 u109 u110 u111 u112 u113 u114 u115 u116 u117 u118 u119 u120 u121 u122 u123 u124 u125 u126 u127 u128 u129 u130 u131 u132 u133 u134 u135 u136 u137 u138 u139 u140 u141 u142 u143 u144 u145 u146 u147 u148 u149 u150 u151 u152 u153 u154 u155 u156 u157 u158 u159 u160 u161 u162 u163 u164 u165 u166 u167 u168 u169 u170 u171 u172 u173 u174 u175 u176 u177 u178 u179 u180 u181 u182 u183 u184 u185 u186 u187 u188 u189 : Value) :
    Code.wp Try.prog (vnCode 27) (bodyPost Try.prog Try.f30 fun e w' => e = .returned (.tuple #[.int .i64 r1, .bool r2]) ∧ Drawn0 w w') ⟨#[.slice (some ad) l0.length c0, .int .i64 (q : Int), u2, u3, u4, u5, u6, u7, u8, u9, u10, u11, u12, u13, u14, u15, u16, u17, u18, u19, u20, u21, u22, u23, u24, u25, u26, u27, u28, u29, u30, u31, u32, u33, u34, u35, u36, u37, u38, u39, u40, u41, u42, u43, u44, u45, u46, u47, u48, u49, u50, u51, u52, u53, u54, u55, u56, u57, u58, u59, u60, u61, u62, u63, u64, u65, u66, u67, u68, u69, u70, u71, u72, u73, u74, u75, u76, u77, u78, u79, u80, u81, u82, u83, u84, u85, u86, u87, u88, u89, u90, u91, u92, u93, u94, u95, u96, u97, u98, u99, u100, u101, u102, u103, u104, u105, u106, u107, u108, u109, u110, u111, u112, u113, u114, u115, u116, u117, u118, u119, u120, u121, u122, u123, u124, u125, u126, u127, u128, u129, u130, u131, u132, u133, u134, u135, u136, u137, u138, u139, u140, u141, u142, u143, u144, u145, u146, u147, u148, u149, u150, u151, u152, u153, u154, u155, u156, u157, u158, u159, u160, u161, u162, u163, u164, u165, u166, u167, u168, u169, u170, u171, u172, u173, u174, u175, u176, u177, u178, u179, u180, u181, u182, u183, u184, u185, u186, u187, u188, u189], []⟩ w := by
  conv => arg 2; whnf
  have HC1 : Hid (∀ j, j + 1 < l0.length → w.cell? ⟨ad.block, ad.off + (j + 1), none⟩ = some (.int .u8 (l0.getD (j + 1) 0))) := Lib.hid fun j hj => by
    have h := HC.out (j + 1) hj
    simpa [Addr.add] using h
  have HC2 : Hid (∀ j, j + 2 < l0.length → w.cell? ⟨ad.block, ad.off + (j + 2), none⟩ = some (.int .u8 (l0.getD (j + 2) 0))) := Lib.hid fun j hj => by
    have h := HC.out (j + 2) hj
    simpa [Addr.add] using h
  have hb1 : ((q : Int) == (l0.length : Int)) = false := by rw [beq_eq_false_iff_ne]; omega
  have hb : ((q : Int) + 1 == (l0.length : Int)) = true := by rw [beq_iff_eq]; omega
  have hql : q < l0.length := by omega
  clear hq
  simp only [Prod.mk.injEq] at h
  obtain ⟨rfl, rfl⟩ := h
  go_wp2
  go_ret2
  exact ⟨by (first | (simp; done) | (simp; omega)), Drawn0.refl _⟩
set_option maxHeartbeats 2000000 in
set_option maxRecDepth 1000000 in
theorem vn27_69p_end {ad : Addr} {c0 : Nat} {l0 : List Int} {r1 : Int} {r2 : Bool} {w : World} (hn : l0.length ≤ 4611686018427387904) (HC : Hid (∀ j, j < l0.length → w.cell? (ad.add j) = some (.int .u8 (l0.getD j 0)))) {q : Nat} (hq : q + 1 < l0.length) (hcq : w.cell? (ad.add q) = some (.int .u8 69)) (hc2 : w.cell? ⟨ad.block, ad.off + (q + 1), none⟩ = some (.int .u8 43)) (hr : q + 2 = l0.length) (h : (((q + 2 : Nat) : Int), false) = (r1, r2)) (u2 u3 u4 u5 u6 u7 u8 u9 u10 u11 u12 u13 u14 u15 u16 u17 u18 u19 u20 u21 u22 u23 u24 u25 u26 u27 u28 u29 u30 u31 u32 u33 u34 u35 u36 u37 u38 u39 u40 u41 u42 u43 u44 u45 u46 u47 u48 u49 u50 u51 u52 u53 u54 u55 u56 u57 u58 u59 u60 u61 u62 u63 u64 u65 u66 u67 u68 u69 u70 u71 u72 u73 u74 u75 u76 u77 u78 u79 u80 u81 u82 u83 u84 u85 u86 u87 u88 u89 u90 u91 u92 u93 u94 u95 u96 u97 u98 u99 u100 u101 u102 u103 u104 u105 u106 u107 u108 u109 u110 u111 u112 u113 u114 u115 u116 u117 u118 u119 u120 u121 u122 u123 u124 u125 u126 u127 u128 u129 u130 u131 u132 u133 u134 u135 u136 u137 u138 u139 u140 u141 u142 u143 u144 u145 u146 u147 u148 u149 u150 u151 u152 u153 u154 u155 u156 u157 u158 u159 u160 u161 u162 u163 u164 u165 u166 u167 u168 u169 u170 u171 u172 u173 u174 u175 u176 u177 u178 u179 u180 u181 u182 u183 u184 u185 u186 u187 u188 u189 : Value) :
    Code.wp Try.prog (vnCode 27) (bodyPost Try.prog Try.f30 fun e w' => e = .returned (.tuple #[.int .i64 r1, .bool r2]) ∧ Drawn0 w w') ⟨#[.slice (some ad) l0.length c0, .int .i64 (q : Int), u2, u3, u4, u5, u6, u7, u8, u9, u10, u11, u12, u13, u14, u15, u16, u17, u18, u19, u20, u21, u22, u23, u24, u25, u26, u27, u28, u29, u30, u31, u32, u33, u34, u35, u36, u37, u38, u39, u40, u41, u42, u43, u44, u45, u46, u47, u48, u49, u50, u51, u52, u53, u54, u55, u56, u57, u58, u59, u60, u61, u62, u63, u64, u65, u66, u67, u68, u69, u70, u71, u72, u73, u74, u75, u76, u77, u78, u79, u80, u81, u82, u83, u84, u85, u86, u87, u88, u89, u90, u91, u92, u93, u94, u95, u96, u97, u98, u99, u100, u101, u102, u103, u104, u105, u106, u107, u108, u109, u110, u111, u112, u113, u114, u115, u116, u117, u118, u119, u120, u121, u122, u123, u124, u125, u126, u127, u128, u129, u130, u131, u132, u133, u134, u135, u136, u137, u138, u139, u140, u141, u142, u143, u144, u145, u146, u147, u148, u149, u150, u151, u152, u153, u154, u155, u156, u157, u158, u159, u160, u161, u162, u163, u164, u165, u166, u167, u168, u169, u170, u171, u172, u173, u174, u175, u176, u177, u178, u179, u180, u181, u182, u183, u184, u185, u186, u187, u188, u189], []⟩ w := by
  conv => arg 2; whnf
  have HC1 : Hid (∀ j, j + 1 < l0.length → w.cell? ⟨ad.block, ad.off + (j + 1), none⟩ = some (.int .u8 (l0.getD (j + 1) 0))) := Lib.hid fun j hj => by
    have h := HC.out (j + 1) hj
    simpa [Addr.add] using h
  have HC2 : Hid (∀ j, j + 2 < l0.length → w.cell? ⟨ad.block, ad.off + (j + 2), none⟩ = some (.int .u8 (l0.getD (j + 2) 0))) := Lib.hid fun j hj => by
    have h := HC.out (j + 2) hj
    simpa [Addr.add] using h
  have hb1 : ((q : Int) == (l0.length : Int)) = false := by rw [beq_eq_false_iff_ne]; omega
  have hb : ((q : Int) + 1 == (l0.length : Int)) = false := by rw [beq_eq_false_iff_ne]; omega
  have hb2 : ((q : Int) + 2 == (l0.length : Int)) = true := by rw [beq_iff_eq]; omega
  have hb3 : ((q : Int) + 1 + 1 == (l0.length : Int)) = true := by rw [beq_iff_eq]; omega
  clear hr
  simp only [Prod.mk.injEq] at h
  obtain ⟨rfl, rfl⟩ := h
  go_wp2
  go_ret2
  exact ⟨by (first | (simp; done) | (simp; omega)), Drawn0.refl _⟩
set_option maxHeartbeats 2000000 in
set_option maxRecDepth 1000000 in
theorem vn27_69p_no {ad : Addr} {c0 : Nat} {l0 : List Int} {r1 : Int} {r2 : Bool} {w : World} (hn : l0.length ≤ 4611686018427387904) (HC : Hid (∀ j, j < l0.length → w.cell? (ad.add j) = some (.int .u8 (l0.getD j 0)))) {q : Nat} (hq : q + 1 < l0.length) (hcq : w.cell? (ad.add q) = some (.int .u8 69)) (hc2 : w.cell? ⟨ad.block, ad.off + (q + 1), none⟩ = some (.int .u8 43)) {x : Int} (hr : q + 2 < l0.length) (hd : x < 48 ∨ (48 ≤ x ∧ 57 < x)) (hc3 : w.cell? ⟨ad.block, ad.off + (q + 2), none⟩ = some (.int .u8 x)) (h : (((q + 2 : Nat) : Int), false) = (r1, r2)) (u2 u3 u4 u5 u6 u7 u8 u9 u10 u11 u12 u13 u14 u15 u16 u17 u18 u19 u20 u21 u22 u23 u24 u25 u26 u27 u28 u29 u30 u31 u32 u33 u34 u35 u36 u37 u38 u39 u40 u41 u42 u43 u44 u45 u46 u47 u48 u49 u50 u51 u52 u53 u54 u55 u56 u57 u58 u59 u60 u61 u62 u63 u64 u65 u66 u67 u68 u69 u70 u71 u72 u73 u74 u75 u76 u77 u78 u79 u80 u81 u82 u83 u84 u85 u86 u87 u88 u89 u90 u91 u92 u93 u94 u95 u96 u97 u98 u99 u100 u101 u102 u103 u104 u105 u106 u107 u108 u109 u110 u111 u112 u113 u114 u115 u116 u117 u118 u119 u120 u121 u122 u123 u124 u125 u126 u127 u128 u129 u130 u131 u132 u133 u134 u135 u136 u137 u138 u139 u140 u141 u142 u143 u144 u145 u146 u147 u148 u149 u150 u151 u152 u153 u154 u155 u156 u157 u158 u159 u160 u161 u162 u163 u164 u165 u166 u167 u168 u169 u170 u171 u172 u173 u174 u175 u176 u177 u178 u179 u180 u181 u182 u183 u184 u185 u186 u187 u188 u189 : Value) :
    Code.wp Try.prog (vnCode 27) (bodyPost Try.prog Try.f30 fun e w' => e = .returned (.tuple #[.int .i64 r1, .bool r2]) ∧ Drawn0 w w') ⟨#[.slice (some ad) l0.length c0, .int .i64 (q : Int), u2, u3, u4, u5, u6, u7, u8, u9, u10, u11, u12, u13, u14, u15, u16, u17, u18, u19, u20, u21, u22, u23, u24, u25, u26, u27, u28, u29, u30, u31, u32, u33, u34, u35, u36, u37, u38, u39, u40, u41, u42, u43, u44, u45, u46, u47, u48, u49, u50, u51, u52, u53, u54, u55, u56, u57, u58, u59, u60, u61, u62, u63, u64, u65, u66, u67, u68, u69, u70, u71, u72, u73, u74, u75, u76, u77, u78, u79, u80, u81, u82, u83, u84, u85, u86, u87, u88, u89, u90, u91, u92, u93, u94, u95, u96, u97, u98, u99, u100, u101, u102, u103, u104, u105, u106, u107, u108, u109, u110, u111, u112, u113, u114, u115, u116, u117, u118, u119, u120, u121, u122, u123, u124, u125, u126, u127, u128, u129, u130, u131, u132, u133, u134, u135, u136, u137, u138, u139, u140, u141, u142, u143, u144, u145, u146, u147, u148, u149, u150, u151, u152, u153, u154, u155, u156, u157, u158, u159, u160, u161, u162, u163, u164, u165, u166, u167, u168, u169, u170, u171, u172, u173, u174, u175, u176, u177, u178, u179, u180, u181, u182, u183, u184, u185, u186, u187, u188, u189], []⟩ w := by
  conv => arg 2; whnf
  have HC1 : Hid (∀ j, j + 1 < l0.length → w.cell? ⟨ad.block, ad.off + (j + 1), none⟩ = some (.int .u8 (l0.getD (j + 1) 0))) := Lib.hid fun j hj => by
    have h := HC.out (j + 1) hj
    simpa [Addr.add] using h
  have HC2 : Hid (∀ j, j + 2 < l0.length → w.cell? ⟨ad.block, ad.off + (j + 2), none⟩ = some (.int .u8 (l0.getD (j + 2) 0))) := Lib.hid fun j hj => by
    have h := HC.out (j + 2) hj
    simpa [Addr.add] using h
  have hb1 : ((q : Int) == (l0.length : Int)) = false := by rw [beq_eq_false_iff_ne]; omega
  have hb : ((q : Int) + 1 == (l0.length : Int)) = false := by rw [beq_eq_false_iff_ne]; omega
  have hb2 : ((q : Int) + 2 == (l0.length : Int)) = false := by rw [beq_eq_false_iff_ne]; omega
  have hb3 : ((q : Int) + 1 + 1 == (l0.length : Int)) = false := by rw [beq_eq_false_iff_ne]; omega
  simp only [Prod.mk.injEq] at h
  obtain ⟨rfl, rfl⟩ := h
  rcases hd with d1 | ⟨d1, d2⟩
  · go_wp2
    go_ret2
    exact ⟨by (first | (simp; done) | (simp; omega)), Drawn0.refl _⟩
  · go_wp2
    go_ret2
    exact ⟨by (first | (simp; done) | (simp; omega)), Drawn0.refl _⟩
set_option maxHeartbeats 2000000 in
set_option maxRecDepth 1000000 in
theorem vn27_69p_yes {ad : Addr} {c0 : Nat} {l0 : List Int} {r1 : Int} {r2 : Bool} {w : World} (hn : l0.length ≤ 4611686018427387904) (HC : Hid (∀ j, j < l0.length → w.cell? (ad.add j) = some (.int .u8 (l0.getD j 0)))) {q : Nat} (hq : q + 1 < l0.length) (hcq : w.cell? (ad.add q) = some (.int .u8 69)) (hc2 : w.cell? ⟨ad.block, ad.off + (q + 1), none⟩ = some (.int .u8 43)) {x : Int} (hr : q + 2 < l0.length) (d1 : 48 ≤ x) (d2 : x ≤ 57) (hc3 : w.cell? ⟨ad.block, ad.off + (q + 2), none⟩ = some (.int .u8 x)) (h : ((dEnd l0 l0.length (q + 3) : Int), true) = (r1, r2)) (u2 u3 u4 u5 u6 u7 u8 u9 u10 u11 u12 u13 u14 u15 u16 u17 u18 u19 u20 u21 u22 u23 u24 u25 u26 u27 u28 u29 u30 u31 u32 u33 u34 u35 u36 u37 u38 u39 u40 u41 u42 u43 u44 u45 u46 u47 u48 u49 u50 u51 u52 u53 u54 u55 u56 u57 u58 u59 u60 u61 u62 u63 u64 u65 u66 u67 u68 u69 u70 u71 u72 u73 u74 u75 u76 u77 u78 u79 u80 u81 u82 u83 u84 u85 u86 u87 u88 u89 u90 u91 u92 u93 u94 u95 u96 u97 u98 u99 u100 u101 u102 u103 u104 u105 u106 u107 u108 u109 u110 u111 u112 u113 u114 u115 u116 u117 u118 u119 u120 u121 u122 u123 u124 u125 u126 u127 u128 u129 u130 u131 u132 u133 u134 u135 u136 u137 u138 u139 u140 u141 u142 u143 u144 u145 u146 u147 u148 u149 u150 u151 u152 u153 u154 u155 u156 u157 u158 u159 u160 u161 u162 u163 u164 u165 u166 u167 u168 u169 u170 u171 u172 u173 u174 u175 u176 u177 u178 u179 u180 u181 u182 u183 u184 u185 u186 u187 u188 u189 : Value) :
    Code.wp Try.prog (vnCode 27) (bodyPost Try.prog Try.f30 fun e w' => e = .returned (.tuple #[.int .i64 r1, .bool r2]) ∧ Drawn0 w w') ⟨#[.slice (some ad) l0.length c0, .int .i64 (q : Int), u2, u3, u4, u5, u6, u7, u8, u9, u10, u11, u12, u13, u14, u15, u16, u17, u18, u19, u20, u21, u22, u23, u24, u25, u26, u27, u28, u29, u30, u31, u32, u33, u34, u35, u36, u37, u38, u39, u40, u41, u42, u43, u44, u45, u46, u47, u48, u49, u50, u51, u52, u53, u54, u55, u56, u57, u58, u59, u60, u61, u62, u63, u64, u65, u66, u67, u68, u69, u70, u71, u72, u73, u74, u75, u76, u77, u78, u79, u80, u81, u82, u83, u84, u85, u86, u87, u88, u89, u90, u91, u92, u93, u94, u95, u96, u97, u98, u99, u100, u101, u102, u103, u104, u105, u106, u107, u108, u109, u110, u111, u112, u113, u114, u115, u116, u117, u118, u119, u120, u121, u122, u123, u124, u125, u126, u127, u128, u129, u130, u131, u132, u133, u134, u135, u136, u137, u138, u139, u140, u141, u142, u143, u144, u145, u146, u147, u148, u149, u150, u151, u152, u153, u154, u155, u156, u157, u158, u159, u160, u161, u162, u163, u164, u165, u166, u167, u168, u169, u170, u171, u172, u173, u174, u175, u176, u177, u178, u179, u180, u181, u182, u183, u184, u185, u186, u187, u188, u189], []⟩ w := by
  conv => arg 2; whnf
  have HC1 : Hid (∀ j, j + 1 < l0.length → w.cell? ⟨ad.block, ad.off + (j + 1), none⟩ = some (.int .u8 (l0.getD (j + 1) 0))) := Lib.hid fun j hj => by
    have h := HC.out (j + 1) hj
    simpa [Addr.add] using h
  have HC2 : Hid (∀ j, j + 2 < l0.length → w.cell? ⟨ad.block, ad.off + (j + 2), none⟩ = some (.int .u8 (l0.getD (j + 2) 0))) := Lib.hid fun j hj => by
    have h := HC.out (j + 2) hj
    simpa [Addr.add] using h
  have hb1 : ((q : Int) == (l0.length : Int)) = false := by rw [beq_eq_false_iff_ne]; omega
  have hb : ((q : Int) + 1 == (l0.length : Int)) = false := by rw [beq_eq_false_iff_ne]; omega
  have hb2 : ((q : Int) + 2 == (l0.length : Int)) = false := by rw [beq_eq_false_iff_ne]; omega
  have hb3 : ((q : Int) + 1 + 1 == (l0.length : Int)) = false := by rw [beq_eq_false_iff_ne]; omega
  have hge := dEnd_ge l0 l0.length (q + 3)
  have hle := dEnd_le l0 l0.length (q + 3) (by omega)
  have hbl := dEnd_dig l0 l0.length (q + 3)
  have hst := dEnd_stop l0 l0.length (q + 3) (by omega)
  generalize dEnd l0 l0.length (q + 3) = e at h hge hle hbl hst
  have HP := Lib.hid hbl
  have HS := Lib.hid hst
  have HE := Aside0.mk h
  clear hbl hst h
  go_wp2
  go_loop [1] (fun v => ∃ j : Nat, q + 3 ≤ j ∧ j ≤ e ∧ v = .int .i64 j) (fun v => e - (intOf v).toNat)
  case atStart => exact ⟨q + 3, Nat.le_refl _, hge, by (first | (simp; done) | (simp; omega))⟩
  case round =>
    obtain ⟨j, h1, h2, rfl⟩ := hrel
    by_cases hlt : j < e
    · have hcj := HC.out j (by omega)
      obtain ⟨p1, p2⟩ := HP.out j h1 hlt
      generalize l0.getD j 0 = x at hcj p1 p2
      go_wp2
      go_round
      case rel => exact ⟨j + 1, by omega, by omega, by go_num⟩
      case measure => simp [intOf]; omega
    · obtain rfl : j = e := by omega
      clear hlt
      by_cases hlt : j < l0.length
      · have hcj := HC.out j hlt
        have hns := HS.out hlt
        generalize l0.getD j 0 = x at hcj hns
        by_cases p1 : 48 ≤ x
        · have p2 : 57 < x := by
            rcases Int.lt_or_le 57 x with h | h
            · exact h
            · exact absurd ⟨p1, h⟩ hns
          clear hns
          have hh := HE.out
          simp only [Prod.mk.injEq] at hh
          obtain ⟨rfl, rfl⟩ := hh
          go_wp2
          go_ret2
          exact ⟨rfl, Drawn0.refl _⟩
        · have p2 : x < 48 := by omega
          clear hns p1
          have hh := HE.out
          simp only [Prod.mk.injEq] at hh
          obtain ⟨rfl, rfl⟩ := hh
          go_wp2
          go_ret2
          exact ⟨rfl, Drawn0.refl _⟩
      · have hje : l0.length ≤ j := by omega
        clear hlt
        have hh := HE.out
        simp only [Prod.mk.injEq] at hh
        obtain ⟨rfl, rfl⟩ := hh
        go_wp2
        go_ret2
        exact ⟨rfl, Drawn0.refl _⟩
set_option maxHeartbeats 2000000 in
set_option maxRecDepth 1000000 in
theorem vn27_69m_end {ad : Addr} {c0 : Nat} {l0 : List Int} {r1 : Int} {r2 : Bool} {w : World} (hn : l0.length ≤ 4611686018427387904) (HC : Hid (∀ j, j < l0.length → w.cell? (ad.add j) = some (.int .u8 (l0.getD j 0)))) {q : Nat} (hq : q + 1 < l0.length) (hcq : w.cell? (ad.add q) = some (.int .u8 69)) (hc2 : w.cell? ⟨ad.block, ad.off + (q + 1), none⟩ = some (.int .u8 45)) (hr : q + 2 = l0.length) (h : (((q + 2 : Nat) : Int), false) = (r1, r2)) (u2 u3 u4 u5 u6 u7 u8 u9 u10 u11 u12 u13 u14 u15 u16 u17 u18 u19 u20 u21 u22 u23 u24 u25 u26 u27 u28 u29 u30 u31 u32 u33 u34 u35 u36 u37 u38 u39 u40 u41 u42 u43 u44 u45 u46 u47 u48 u49 u50 u51 u52 u53 u54 u55 u56 u57 u58 u59 u60 u61 u62 u63 u64 u65 u66 u67 u68 u69 u70 u71 u72 u73 u74 u75 u76 u77 u78 u79 u80 u81 u82 u83 u84 u85 u86 u87 u88 u89 u90 u91 u92 u93 u94 u95 u96 u97 u98 u99 u100 u101 u102 u103 u104 u105 u106 u107 u108 u109 u110 u111 u112 u113 u114 u115 u116 u117 u118 u119 u120 u121 u122 u123 u124 u125 u126 u127 u128 u129 u130 u131 u132 u133 u134 u135 u136 u137 u138 u139 u140 u141 u142 u143 u144 u145 u146 u147 u148 u149 u150 u151 u152 u153 u154 u155 u156 u157 u158 u159 u160 u161 u162 u163 u164 u165 u166 u167 u168 u169 u170 u171 u172 u173 u174 u175 u176 u177 u178 u179 u180 u181 u182 u183 u184 u185 u186 u187 u188 u189 : Value) :
    Code.wp Try.prog (vnCode 27) (bodyPost Try.prog Try.f30 fun e w' => e = .returned (.tuple #[.int .i64 r1, .bool r2]) ∧ Drawn0 w w') ⟨#[.slice (some ad) l0.length c0, .int .i64 (q : Int), u2, u3, u4, u5, u6, u7, u8, u9, u10, u11, u12, u13, u14, u15, u16, u17, u18, u19, u20, u21, u22, u23, u24, u25, u26, u27, u28, u29, u30, u31, u32, u33, u34, u35, u36, u37, u38, u39, u40, u41, u42, u43, u44, u45, u46, u47, u48, u49, u50, u51, u52, u53, u54, u55, u56, u57, u58, u59, u60, u61, u62, u63, u64, u65, u66, u67, u68, u69, u70, u71, u72, u73, u74, u75, u76, u77, u78, u79, u80, u81, u82, u83, u84, u85, u86, u87, u88, u89, u90, u91, u92, u93, u94, u95, u96, u97, u98, u99, u100, u101, u102, u103, u104, u105, u106, u107, u108, u109, u110, u111, u112, u113, u114, u115, u116, u117, u118, u119, u120, u121, u122, u123, u124, u125, u126, u127, u128, u129, u130, u131, u132, u133, u134, u135, u136, u137, u138, u139, u140, u141, u142, u143, u144, u145, u146, u147, u148, u149, u150, u151, u152, u153, u154, u155, u156, u157, u158, u159, u160, u161, u162, u163, u164, u165, u166, u167, u168, u169, u170, u171, u172, u173, u174, u175, u176, u177, u178, u179, u180, u181, u182, u183, u184, u185, u186, u187, u188, u189], []⟩ w := by
  conv => arg 2; whnf
  have HC1 : Hid (∀ j, j + 1 < l0.length → w.cell? ⟨ad.block, ad.off + (j + 1), none⟩ = some (.int .u8 (l0.getD (j + 1) 0))) := Lib.hid fun j hj => by
    have h := HC.out (j + 1) hj
    simpa [Addr.add] using h
  have HC2 : Hid (∀ j, j + 2 < l0.length → w.cell? ⟨ad.block, ad.off + (j + 2), none⟩ = some (.int .u8 (l0.getD (j + 2) 0))) := Lib.hid fun j hj => by
    have h := HC.out (j + 2) hj
    simpa [Addr.add] using h
  have hb1 : ((q : Int) == (l0.length : Int)) = false := by rw [beq_eq_false_iff_ne]; omega
  have hb : ((q : Int) + 1 == (l0.length : Int)) = false := by rw [beq_eq_false_iff_ne]; omega
  have hb2 : ((q : Int) + 2 == (l0.length : Int)) = true := by rw [beq_iff_eq]; omega
  have hb3 : ((q : Int) + 1 + 1 == (l0.length : Int)) = true := by rw [beq_iff_eq]; omega
  clear hr
  simp only [Prod.mk.injEq] at h
  obtain ⟨rfl, rfl⟩ := h
  go_wp2
  go_ret2
  exact ⟨by (first | (simp; done) | (simp; omega)), Drawn0.refl _⟩
set_option maxHeartbeats 2000000 in
set_option maxRecDepth 1000000 in
theorem vn27_69m_no {ad : Addr} {c0 : Nat} {l0 : List Int} {r1 : Int} {r2 : Bool} {w : World} (hn : l0.length ≤ 4611686018427387904) (HC : Hid (∀ j, j < l0.length → w.cell? (ad.add j) = some (.int .u8 (l0.getD j 0)))) {q : Nat} (hq : q + 1 < l0.length) (hcq : w.cell? (ad.add q) = some (.int .u8 69)) (hc2 : w.cell? ⟨ad.block, ad.off + (q + 1), none⟩ = some (.int .u8 45)) {x : Int} (hr : q + 2 < l0.length) (hd : x < 48 ∨ (48 ≤ x ∧ 57 < x)) (hc3 : w.cell? ⟨ad.block, ad.off + (q + 2), none⟩ = some (.int .u8 x)) (h : (((q + 2 : Nat) : Int), false) = (r1, r2)) (u2 u3 u4 u5 u6 u7 u8 u9 u10 u11 u12 u13 u14 u15 u16 u17 u18 u19 u20 u21 u22 u23 u24 u25 u26 u27 u28 u29 u30 u31 u32 u33 u34 u35 u36 u37 u38 u39 u40 u41 u42 u43 u44 u45 u46 u47 u48 u49 u50 u51 u52 u53 u54 u55 u56 u57 u58 u59 u60 u61 u62 u63 u64 u65 u66 u67 u68 u69 u70 u71 u72 u73 u74 u75 u76 u77 u78 u79 u80 u81 u82 u83 u84 u85 u86 u87 u88 u89 u90 u91 u92 u93 u94 u95 u96 u97 u98 u99 u100 u101 u102 u103 u104 u105 u106 u107 u108 u109 u110 u111 u112 u113 u114 u115 u116 u117 u118 u119 u120 u121 u122 u123 u124 u125 u126 u127 u128 u129 u130 u131 u132 u133 u134 u135 u136 u137 u138 u139 u140 u141 u142 u143 u144 u145 u146 u147 u148 u149 u150 u151 u152 u153 u154 u155 u156 u157 u158 u159 u160 u161 u162 u163 u164 u165 u166 u167 u168 u169 u170 u171 u172 u173 u174 u175 u176 u177 u178 u179 u180 u181 u182 u183 u184 u185 u186 u187 u188 u189 : Value) :
    Code.wp Try.prog (vnCode 27) (bodyPost Try.prog Try.f30 fun e w' => e = .returned (.tuple #[.int .i64 r1, .bool r2]) ∧ Drawn0 w w') ⟨#[.slice (some ad) l0.length c0, .int .i64 (q : Int), u2, u3, u4, u5, u6, u7, u8, u9, u10, u11, u12, u13, u14, u15, u16, u17, u18, u19, u20, u21, u22, u23, u24, u25, u26, u27, u28, u29, u30, u31, u32, u33, u34, u35, u36, u37, u38, u39, u40, u41, u42, u43, u44, u45, u46, u47, u48, u49, u50, u51, u52, u53, u54, u55, u56, u57, u58, u59, u60, u61, u62, u63, u64, u65, u66, u67, u68, u69, u70, u71, u72, u73, u74, u75, u76, u77, u78, u79, u80, u81, u82, u83, u84, u85, u86, u87, u88, u89, u90, u91, u92, u93, u94, u95, u96, u97, u98, u99, u100, u101, u102, u103, u104, u105, u106, u107, u108, u109, u110, u111, u112, u113, u114, u115, u116, u117, u118, u119, u120, u121, u122, u123, u124, u125, u126, u127, u128, u129, u130, u131, u132, u133, u134, u135, u136, u137, u138, u139, u140, u141, u142, u143, u144, u145, u146, u147, u148, u149, u150, u151, u152, u153, u154, u155, u156, u157, u158, u159, u160, u161, u162, u163, u164, u165, u166, u167, u168, u169, u170, u171, u172, u173, u174, u175, u176, u177, u178, u179, u180, u181, u182, u183, u184, u185, u186, u187, u188, u189], []⟩ w := by
  conv => arg 2; whnf
  have HC1 : Hid (∀ j, j + 1 < l0.length → w.cell? ⟨ad.block, ad.off + (j + 1), none⟩ = some (.int .u8 (l0.getD (j + 1) 0))) := Lib.hid fun j hj => by
    have h := HC.out (j + 1) hj
    simpa [Addr.add] using h
  have HC2 : Hid (∀ j, j + 2 < l0.length → w.cell? ⟨ad.block, ad.off + (j + 2), none⟩ = some (.int .u8 (l0.getD (j + 2) 0))) := Lib.hid fun j hj => by
    have h := HC.out (j + 2) hj
    simpa [Addr.add] using h
  have hb1 : ((q : Int) == (l0.length : Int)) = false := by rw [beq_eq_false_iff_ne]; omega
  have hb : ((q : Int) + 1 == (l0.length : Int)) = false := by rw [beq_eq_false_iff_ne]; omega
  have hb2 : ((q : Int) + 2 == (l0.length : Int)) = false := by rw [beq_eq_false_iff_ne]; omega
  have hb3 : ((q : Int) + 1 + 1 == (l0.length : Int)) = false := by rw [beq_eq_false_iff_ne]; omega
  simp only [Prod.mk.injEq] at h
  obtain ⟨rfl, rfl⟩ := h
  rcases hd with d1 | ⟨d1, d2⟩
  · go_wp2
    go_ret2
    exact ⟨by (first | (simp; done) | (simp; omega)), Drawn0.refl _⟩
  · go_wp2
    go_ret2
    exact ⟨by (first | (simp; done) | (simp; omega)), Drawn0.refl _⟩
set_option maxHeartbeats 2000000 in
set_option maxRecDepth 1000000 in
theorem vn27_69m_yes {ad : Addr} {c0 : Nat} {l0 : List Int} {r1 : Int} {r2 : Bool} {w : World} (hn : l0.length ≤ 4611686018427387904) (HC : Hid (∀ j, j < l0.length → w.cell? (ad.add j) = some (.int .u8 (l0.getD j 0)))) {q : Nat} (hq : q + 1 < l0.length) (hcq : w.cell? (ad.add q) = some (.int .u8 69)) (hc2 : w.cell? ⟨ad.block, ad.off + (q + 1), none⟩ = some (.int .u8 45)) {x : Int} (hr : q + 2 < l0.length) (d1 : 48 ≤ x) (d2 : x ≤ 57) (hc3 : w.cell? ⟨ad.block, ad.off + (q + 2), none⟩ = some (.int .u8 x)) (h : ((dEnd l0 l0.length (q + 3) : Int), true) = (r1, r2)) (u2 u3 u4 u5 u6 u7 u8 u9 u10 u11 u12 u13 u14 u15 u16 u17 u18 u19 u20 u21 u22 u23 u24 u25 u26 u27 u28 u29 u30 u31 u32 u33 u34 u35 u36 u37 u38 u39 u40 u41 u42 u43 u44 u45 u46 u47 u48 u49 u50 u51 u52 u53 u54 u55 u56 u57 u58 u59 u60 u61 u62 u63 u64 u65 u66 u67 u68 u69 u70 u71 u72 u73 u74 u75 u76 u77 u78 u79 u80 u81 u82 u83 u84 u85 u86 u87 u88 u89 u90 u91 u92 u93 u94 u95 u96 u97 u98 u99 u100 u101 u102 u103 u104 u105 u106 u107 u108 u109 u110 u111 u112 u113 u114 u115 u116 u117 u118 u119 u120 u121 u122 u123 u124 u125 u126 u127 u128 u129 u130 u131 u132 u133 u134 u135 u136 u137 u138 u139 u140 u141 u142 u143 u144 u145 u146 u147 u148 u149 u150 u151 u152 u153 u154 u155 u156 u157 u158 u159 u160 u161 u162 u163 u164 u165 u166 u167 u168 u169 u170 u171 u172 u173 u174 u175 u176 u177 u178 u179 u180 u181 u182 u183 u184 u185 u186 u187 u188 u189 : Value) :
    Code.wp Try.prog (vnCode 27) (bodyPost Try.prog Try.f30 fun e w' => e = .returned (.tuple #[.int .i64 r1, .bool r2]) ∧ Drawn0 w w') ⟨#[.slice (some ad) l0.length c0, .int .i64 (q : Int), u2, u3, u4, u5, u6, u7, u8, u9, u10, u11, u12, u13, u14, u15, u16, u17, u18, u19, u20, u21, u22, u23, u24, u25, u26, u27, u28, u29, u30, u31, u32, u33, u34, u35, u36, u37, u38, u39, u40, u41, u42, u43, u44, u45, u46, u47, u48, u49, u50, u51, u52, u53, u54, u55, u56, u57, u58, u59, u60, u61, u62, u63, u64, u65, u66, u67, u68, u69, u70, u71, u72, u73, u74, u75, u76, u77, u78, u79, u80, u81, u82, u83, u84, u85, u86, u87, u88, u89, u90, u91, u92, u93, u94, u95, u96, u97, u98, u99, u100, u101, u102, u103, u104, u105, u106, u107, u108, u109, u110, u111, u112, u113, u114, u115, u116, u117, u118, u119, u120, u121, u122, u123, u124, u125, u126, u127, u128, u129, u130, u131, u132, u133, u134, u135, u136, u137, u138, u139, u140, u141, u142, u143, u144, u145, u146, u147, u148, u149, u150, u151, u152, u153, u154, u155, u156, u157, u158, u159, u160, u161, u162, u163, u164, u165, u166, u167, u168, u169, u170, u171, u172, u173, u174, u175, u176, u177, u178, u179, u180, u181, u182, u183, u184, u185, u186, u187, u188, u189], []⟩ w := by
  conv => arg 2; whnf
  have HC1 : Hid (∀ j, j + 1 < l0.length → w.cell? ⟨ad.block, ad.off + (j + 1), none⟩ = some (.int .u8 (l0.getD (j + 1) 0))) := Lib.hid fun j hj => by
    have h := HC.out (j + 1) hj
    simpa [Addr.add] using h
  have HC2 : Hid (∀ j, j + 2 < l0.length → w.cell? ⟨ad.block, ad.off + (j + 2), none⟩ = some (.int .u8 (l0.getD (j + 2) 0))) := Lib.hid fun j hj => by
    have h := HC.out (j + 2) hj
    simpa [Addr.add] using h
  have hb1 : ((q : Int) == (l0.length : Int)) = false := by rw [beq_eq_false_iff_ne]; omega
  have hb : ((q : Int) + 1 == (l0.length : Int)) = false := by rw [beq_eq_false_iff_ne]; omega
  have hb2 : ((q : Int) + 2 == (l0.length : Int)) = false := by rw [beq_eq_false_iff_ne]; omega
  have hb3 : ((q : Int) + 1 + 1 == (l0.length : Int)) = false := by rw [beq_eq_false_iff_ne]; omega
  have hge := dEnd_ge l0 l0.length (q + 3)
  have hle := dEnd_le l0 l0.length (q + 3) (by omega)
  have hbl := dEnd_dig l0 l0.length (q + 3)
  have hst := dEnd_stop l0 l0.length (q + 3) (by omega)
  generalize dEnd l0 l0.length (q + 3) = e at h hge hle hbl hst
  have HP := Lib.hid hbl
  have HS := Lib.hid hst
  have HE := Aside0.mk h
  clear hbl hst h
  go_wp2
  go_loop [1] (fun v => ∃ j : Nat, q + 3 ≤ j ∧ j ≤ e ∧ v = .int .i64 j) (fun v => e - (intOf v).toNat)
  case atStart => exact ⟨q + 3, Nat.le_refl _, hge, by (first | (simp; done) | (simp; omega))⟩
  case round =>
    obtain ⟨j, h1, h2, rfl⟩ := hrel
    by_cases hlt : j < e
    · have hcj := HC.out j (by omega)
      obtain ⟨p1, p2⟩ := HP.out j h1 hlt
      generalize l0.getD j 0 = x at hcj p1 p2
      go_wp2
      go_round
      case rel => exact ⟨j + 1, by omega, by omega, by go_num⟩
      case measure => simp [intOf]; omega
    · obtain rfl : j = e := by omega
      clear hlt
      by_cases hlt : j < l0.length
      · have hcj := HC.out j hlt
        have hns := HS.out hlt
        generalize l0.getD j 0 = x at hcj hns
        by_cases p1 : 48 ≤ x
        · have p2 : 57 < x := by
            rcases Int.lt_or_le 57 x with h | h
            · exact h
            · exact absurd ⟨p1, h⟩ hns
          clear hns
          have hh := HE.out
          simp only [Prod.mk.injEq] at hh
          obtain ⟨rfl, rfl⟩ := hh
          go_wp2
          go_ret2
          exact ⟨rfl, Drawn0.refl _⟩
        · have p2 : x < 48 := by omega
          clear hns p1
          have hh := HE.out
          simp only [Prod.mk.injEq] at hh
          obtain ⟨rfl, rfl⟩ := hh
          go_wp2
          go_ret2
          exact ⟨rfl, Drawn0.refl _⟩
      · have hje : l0.length ≤ j := by omega
        clear hlt
        have hh := HE.out
        simp only [Prod.mk.injEq] at hh
        obtain ⟨rfl, rfl⟩ := hh
        go_wp2
        go_ret2
        exact ⟨rfl, Drawn0.refl _⟩
set_option maxHeartbeats 2000000 in
set_option maxRecDepth 1000000 in
theorem vn27_69_no {ad : Addr} {c0 : Nat} {l0 : List Int} {r1 : Int} {r2 : Bool} {w : World} (hn : l0.length ≤ 4611686018427387904) (HC : Hid (∀ j, j < l0.length → w.cell? (ad.add j) = some (.int .u8 (l0.getD j 0)))) {q : Nat} {x : Int} (hq : q + 1 < l0.length) (hcq : w.cell? (ad.add q) = some (.int .u8 69)) (hc2 : w.cell? ⟨ad.block, ad.off + (q + 1), none⟩ = some (.int .u8 x)) (hx1 : (x == 43) = false) (hx2 : (x == 45) = false) (hd : x < 48 ∨ (48 ≤ x ∧ 57 < x)) (h : (((q + 1 : Nat) : Int), false) = (r1, r2)) (u2 u3 u4 u5 u6 u7 u8 u9 u10 u11 u12 u13 u14 u15 u16 u17 u18 u19 u20 u21 u22 u23 u24 u25 u26 u27 u28 u29 u30 u31 u32 u33 u34 u35 u36 u37 u38 u39 u40 u41 u42 u43 u44 u45 u46 u47 u48 u49 u50 u51 u52 u53 u54 u55 u56 u57 u58 u59 u60 u61 u62 u63 u64 u65 u66 u67 u68 u69 u70 u71 u72 u73 u74 u75 u76 u77 u78 u79 u80 u81 u82 u83 u84 u85 u86 u87 u88 u89 u90 u91 u92 u93 u94 u95 u96 u97 u98 u99 u100 u101 u102 u103 u104 u105 u106 u107 u108 u109 u110 u111 u112 u113 u114 u115 u116 u117 u118 u119 u120 u121 u122 u123 u124 u125 u126 u127 u128 u129 u130 u131 u132 u133 u134 u135 u136 u137 u138 u139 u140 u141 u142 u143 u144 u145 u146 u147 u148 u149 u150 u151 u152 u153 u154 u155 u156 u157 u158 u159 u160 u161 u162 u163 u164 u165 u166 u167 u168 u169 u170 u171 u172 u173 u174 u175 u176 u177 u178 u179 u180 u181 u182 u183 u184 u185 u186 u187 u188 u189 : Value) :
    Code.wp Try.prog (vnCode 27) (bodyPost Try.prog Try.f30 fun e w' => e = .returned (.tuple #[.int .i64 r1, .bool r2]) ∧ Drawn0 w w') ⟨#[.slice (some ad) l0.length c0, .int .i64 (q : Int), u2, u3, u4, u5, u6, u7, u8, u9, u10, u11, u12, u13, u14, u15, u16, u17, u18, u19, u20, u21, u22, u23, u24, u25, u26, u27, u28, u29, u30, u31, u32, u33, u34, u35, u36, u37, u38, u39, u40, u41, u42, u43, u44, u45, u46, u47, u48, u49, u50, u51, u52, u53, u54, u55, u56, u57, u58, u59, u60, u61, u62, u63, u64, u65, u66, u67, u68, u69, u70, u71, u72, u73, u74, u75, u76, u77, u78, u79, u80, u81, u82, u83, u84, u85, u86, u87, u88, u89, u90, u91, u92, u93, u94, u95, u96, u97, u98, u99, u100, u101, u102, u103, u104, u105, u106, u107, u108, u109, u110, u111, u112, u113, u114, u115, u116, u117, u118, u119, u120, u121, u122, u123, u124, u125, u126, u127, u128, u129, u130, u131, u132, u133, u134, u135, u136, u137, u138, u139, u140, u141, u142, u143, u144, u145, u146, u147, u148, u149, u150, u151, u152, u153, u154, u155, u156, u157, u158, u159, u160, u161, u162, u163, u164, u165, u166, u167, u168, u169, u170, u171, u172, u173, u174, u175, u176, u177, u178, u179, u180, u181, u182, u183, u184, u185, u186, u187, u188, u189], []⟩ w := by
  conv => arg 2; whnf
  have HC1 : Hid (∀ j, j + 1 < l0.length → w.cell? ⟨ad.block, ad.off + (j + 1), none⟩ = some (.int .u8 (l0.getD (j + 1) 0))) := Lib.hid fun j hj => by
    have h := HC.out (j + 1) hj
    simpa [Addr.add] using h
  have HC2 : Hid (∀ j, j + 2 < l0.length → w.cell? ⟨ad.block, ad.off + (j + 2), none⟩ = some (.int .u8 (l0.getD (j + 2) 0))) := Lib.hid fun j hj => by
    have h := HC.out (j + 2) hj
    simpa [Addr.add] using h
  have hb1 : ((q : Int) == (l0.length : Int)) = false := by rw [beq_eq_false_iff_ne]; omega
  have hb : ((q : Int) + 1 == (l0.length : Int)) = false := by rw [beq_eq_false_iff_ne]; omega
  simp only [Prod.mk.injEq] at h
  obtain ⟨rfl, rfl⟩ := h
  rcases hd with d1 | ⟨d1, d2⟩
  · go_wp2
    go_ret2
    exact ⟨by (first | (simp; done) | (simp; omega)), Drawn0.refl _⟩
  · go_wp2
    go_ret2
    exact ⟨by (first | (simp; done) | (simp; omega)), Drawn0.refl _⟩
set_option maxHeartbeats 2000000 in
set_option maxRecDepth 1000000 in
theorem vn27_69_yes {ad : Addr} {c0 : Nat} {l0 : List Int} {r1 : Int} {r2 : Bool} {w : World} (hn : l0.length ≤ 4611686018427387904) (HC : Hid (∀ j, j < l0.length → w.cell? (ad.add j) = some (.int .u8 (l0.getD j 0)))) {q : Nat} {x : Int} (hq : q + 1 < l0.length) (hcq : w.cell? (ad.add q) = some (.int .u8 69)) (hc2 : w.cell? ⟨ad.block, ad.off + (q + 1), none⟩ = some (.int .u8 x)) (hx1 : (x == 43) = false) (hx2 : (x == 45) = false) (d1 : 48 ≤ x) (d2 : x ≤ 57) (h : ((dEnd l0 l0.length (q + 2) : Int), true) = (r1, r2)) (u2 u3 u4 u5 u6 u7 u8 u9 u10 u11 u12 u13 u14 u15 u16 u17 u18 u19 u20 u21 u22 u23 u24 u25 u26 u27 u28 u29 u30 u31 u32 u33 u34 u35 u36 u37 u38 u39 u40 u41 u42 u43 u44 u45 u46 u47 u48 u49 u50 u51 u52 u53 u54 u55 u56 u57 u58 u59 u60 u61 u62 u63 u64 u65 u66 u67 u68 u69 u70 u71 u72 u73 u74 u75 u76 u77 u78 u79 u80 u81 u82 u83 u84 u85 u86 u87 u88 u89 u90 u91 u92 u93 u94 u95 u96 u97 u98 u99 u100 u101 u102 u103 u104 u105 u106 u107 u108 u109 u110 u111 u112 u113 u114 u115 u116 u117 u118 u119 u120 u121 u122 u123 u124 u125 u126 u127 u128 u129 u130 u131 u132 u133 u134 u135 u136 u137 u138 u139 u140 u141 u142 u143 u144 u145 u146 u147 u148 u149 u150 u151 u152 u153 u154 u155 u156 u157 u158 u159 u160 u161 u162 u163 u164 u165 u166 u167 u168 u169 u170 u171 u172 u173 u174 u175 u176 u177 u178 u179 u180 u181 u182 u183 u184 u185 u186 u187 u188 u189 : Value) :
    Code.wp Try.prog (vnCode 27) (bodyPost Try.prog Try.f30 fun e w' => e = .returned (.tuple #[.int .i64 r1, .bool r2]) ∧ Drawn0 w w') ⟨#[.slice (some ad) l0.length c0, .int .i64 (q : Int), u2, u3, u4, u5, u6, u7, u8, u9, u10, u11, u12, u13, u14, u15, u16, u17, u18, u19, u20, u21, u22, u23, u24, u25, u26, u27, u28, u29, u30, u31, u32, u33, u34, u35, u36, u37, u38, u39, u40, u41, u42, u43, u44, u45, u46, u47, u48, u49, u50, u51, u52, u53, u54, u55, u56, u57, u58, u59, u60, u61, u62, u63, u64, u65, u66, u67, u68, u69, u70, u71, u72, u73, u74, u75, u76, u77, u78, u79, u80, u81, u82, u83, u84, u85, u86, u87, u88, u89, u90, u91, u92, u93, u94, u95, u96, u97, u98, u99, u100, u101, u102, u103, u104, u105, u106, u107, u108, u109, u110, u111, u112, u113, u114, u115, u116, u117, u118, u119, u120, u121, u122, u123, u124, u125, u126, u127, u128, u129, u130, u131, u132, u133, u134, u135, u136, u137, u138, u139, u140, u141, u142, u143, u144, u145, u146, u147, u148, u149, u150, u151, u152, u153, u154, u155, u156, u157, u158, u159, u160, u161, u162, u163, u164, u165, u166, u167, u168, u169, u170, u171, u172, u173, u174, u175, u176, u177, u178, u179, u180, u181, u182, u183, u184, u185, u186, u187, u188, u189], []⟩ w := by
  conv => arg 2; whnf
  have HC1 : Hid (∀ j, j + 1 < l0.length → w.cell? ⟨ad.block, ad.off + (j + 1), none⟩ = some (.int .u8 (l0.getD (j + 1) 0))) := Lib.hid fun j hj => by
    have h := HC.out (j + 1) hj
    simpa [Addr.add] using h
  have HC2 : Hid (∀ j, j + 2 < l0.length → w.cell? ⟨ad.block, ad.off + (j + 2), none⟩ = some (.int .u8 (l0.getD (j + 2) 0))) := Lib.hid fun j hj => by
    have h := HC.out (j + 2) hj
    simpa [Addr.add] using h
  have hb1 : ((q : Int) == (l0.length : Int)) = false := by rw [beq_eq_false_iff_ne]; omega
  have hb : ((q : Int) + 1 == (l0.length : Int)) = false := by rw [beq_eq_false_iff_ne]; omega
  have hge := dEnd_ge l0 l0.length (q + 2)
  have hle := dEnd_le l0 l0.length (q + 2) (by omega)
  have hbl := dEnd_dig l0 l0.length (q + 2)
  have hst := dEnd_stop l0 l0.length (q + 2) (by omega)
  generalize dEnd l0 l0.length (q + 2) = e at h hge hle hbl hst
  have HP := Lib.hid hbl
  have HS := Lib.hid hst
  have HE := Aside0.mk h
  clear hbl hst h
  go_wp2
  go_loop [1] (fun v => ∃ j : Nat, q + 2 ≤ j ∧ j ≤ e ∧ v = .int .i64 j) (fun v => e - (intOf v).toNat)
  case atStart => exact ⟨q + 2, Nat.le_refl _, hge, by (first | (simp; done) | (simp; omega))⟩
  case round =>
    obtain ⟨j, h1, h2, rfl⟩ := hrel
    by_cases hlt : j < e
    · have hcj := HC.out j (by omega)
      obtain ⟨p1, p2⟩ := HP.out j h1 hlt
      generalize l0.getD j 0 = x at hcj p1 p2
      go_wp2
      go_round
      case rel => exact ⟨j + 1, by omega, by omega, by go_num⟩
      case measure => simp [intOf]; omega
    · obtain rfl : j = e := by omega
      clear hlt
      by_cases hlt : j < l0.length
      · have hcj := HC.out j hlt
        have hns := HS.out hlt
        generalize l0.getD j 0 = x at hcj hns
        by_cases p1 : 48 ≤ x
        · have p2 : 57 < x := by
            rcases Int.lt_or_le 57 x with h | h
            · exact h
            · exact absurd ⟨p1, h⟩ hns
          clear hns
          have hh := HE.out
          simp only [Prod.mk.injEq] at hh
          obtain ⟨rfl, rfl⟩ := hh
          go_wp2
          go_ret2
          exact ⟨rfl, Drawn0.refl _⟩
        · have p2 : x < 48 := by omega
          clear hns p1
          have hh := HE.out
          simp only [Prod.mk.injEq] at hh
          obtain ⟨rfl, rfl⟩ := hh
          go_wp2
          go_ret2
          exact ⟨rfl, Drawn0.refl _⟩
      · have hje : l0.length ≤ j := by omega
        clear hlt
        have hh := HE.out
        simp only [Prod.mk.injEq] at hh
        obtain ⟨rfl, rfl⟩ := hh
        go_wp2
        go_ret2
        exact ⟨rfl, Drawn0.refl _⟩
theorem vn_not {x : Int} (h : ¬ isD x) : x < 48 ∨ (48 ≤ x ∧ 57 < x) := by
  unfold isD at h
  omega
theorem vn_bq {x c : Int} (h : ¬ x = c) : (x == c) = false := beq_eq_false_iff_ne.mpr h
set_option maxRecDepth 1000000 in
theorem vn27 {ad : Addr} {c0 : Nat} {l0 : List Int} {r1 : Int} {r2 : Bool} {w : World} (hn : l0.length ≤ 4611686018427387904) (HC : Hid (∀ j, j < l0.length → w.cell? (ad.add j) = some (.int .u8 (l0.getD j 0)))) {q : Nat} (hq : q ≤ l0.length) (h : nExp l0 q = (r1, r2)) (u2 u3 u4 u5 u6 u7 u8 u9 u10 u11 u12 u13 u14 u15 u16 u17 u18 u19 u20 u21 u22 u23 u24 u25 u26 u27 u28 u29 u30 u31 u32 u33 u34 u35 u36 u37 u38 u39 u40 u41 u42 u43 u44 u45 u46 u47 u48 u49 u50 u51 u52 u53 u54 u55 u56 u57 u58 u59 u60 u61 u62 u63 u64 u65 u66 u67 u68 u69 u70 u71 u72 u73 u74 u75 u76 u77 u78 u79 u80 u81 u82 u83 u84 u85 u86 u87 u88 u89 u90 u91 u92 u93 u94 u95 u96 u97 u98 u99 u100 u101 u102 u103 u104 u105 u106 u107 u108 u109 u110 u111 u112 u113 u114 u115 u116 u117 u118 u119 u120 u121 u122 u123 u124 u125 u126 u127 u128 u129 u130 u131 u132 u133 u134 u135 u136 u137 u138 u139 u140 u141 u142 u143 u144 u145 u146 u147 u148 u149 u150 u151 u152 u153 u154 u155 u156 u157 u158 u159 u160 u161 u162 u163 u164 u165 u166 u167 u168 u169 u170 u171 u172 u173 u174 u175 u176 u177 u178 u179 u180 u181 u182 u183 u184 u185 u186 u187 u188 u189 : Value) :
    Code.wp Try.prog (vnCode 27) (bodyPost Try.prog Try.f30 fun e w' => e = .returned (.tuple #[.int .i64 r1, .bool r2]) ∧ Drawn0 w w') ⟨#[.slice (some ad) l0.length c0, .int .i64 (q : Int), u2, u3, u4, u5, u6, u7, u8, u9, u10, u11, u12, u13, u14, u15, u16, u17, u18, u19, u20, u21, u22, u23, u24, u25, u26, u27, u28, u29, u30, u31, u32, u33, u34, u35, u36, u37, u38, u39, u40, u41, u42, u43, u44, u45, u46, u47, u48, u49, u50, u51, u52, u53, u54, u55, u56, u57, u58, u59, u60, u61, u62, u63, u64, u65, u66, u67, u68, u69, u70, u71, u72, u73, u74, u75, u76, u77, u78, u79, u80, u81, u82, u83, u84, u85, u86, u87, u88, u89, u90, u91, u92, u93, u94, u95, u96, u97, u98, u99, u100, u101, u102, u103, u104, u105, u106, u107, u108, u109, u110, u111, u112, u113, u114, u115, u116, u117, u118, u119, u120, u121, u122, u123, u124, u125, u126, u127, u128, u129, u130, u131, u132, u133, u134, u135, u136, u137, u138, u139, u140, u141, u142, u143, u144, u145, u146, u147, u148, u149, u150, u151, u152, u153, u154, u155, u156, u157, u158, u159, u160, u161, u162, u163, u164, u165, u166, u167, u168, u169, u170, u171, u172, u173, u174, u175, u176, u177, u178, u179, u180, u181, u182, u183, u184, u185, u186, u187, u188, u189], []⟩ w := by
  have HC1 : ∀ j, j + 1 < l0.length → w.cell? ⟨ad.block, ad.off + (j + 1), none⟩ = some (.int .u8 (l0.getD (j + 1) 0)) := fun j hj => by
    have h := HC.out (j + 1) hj
    simpa [Addr.add] using h
  have HC2 : ∀ j, j + 2 < l0.length → w.cell? ⟨ad.block, ad.off + (j + 2), none⟩ = some (.int .u8 (l0.getD (j + 2) 0)) := fun j hj => by
    have h := HC.out (j + 2) hj
    simpa [Addr.add] using h
  unfold nExp at h
  by_cases hqe : q = l0.length
  · rw [if_pos hqe] at h
    exact vn27_end hn HC hqe h _ _ _ _ _ _ _ _ _ _ _ _ _ _ _ _ _ _ _ _ _ _ _ _ _ _ _ _ _ _ _ _ _ _ _ _ _ _ _ _ _ _ _ _ _ _ _ _ _ _ _ _ _ _ _ _ _ _ _ _ _ _ _ _ _ _ _ _ _ _ _ _ _ _ _ _ _ _ _ _ _ _ _ _ _ _ _ _ _ _ _ _ _ _ _ _ _ _ _ _ _ _ _ _ _ _ _ _ _ _ _ _ _ _ _ _ _ _ _ _ _ _ _ _ _ _ _ _ _ _ _ _ _ _ _ _ _ _ _ _ _ _ _ _ _ _ _ _ _ _ _ _ _ _ _ _ _ _ _ _ _ _ _ _ _ _ _ _ _ _ _ _ _ _ _ _ _ _ _ _ _ _ _ _ _ _ _ _
  rw [if_neg hqe] at h
  have hql : q < l0.length := by omega
  have hcq := HC.out q hql
  by_cases hE : l0.getD q 0 = 101 ∨ l0.getD q 0 = 69
  case neg =>
    rw [if_neg hE] at h
    exact vn27_no hn HC hql (vn_bq fun e => hE (.inl e)) (vn_bq fun e => hE (.inr e)) hcq h _ _ _ _ _ _ _ _ _ _ _ _ _ _ _ _ _ _ _ _ _ _ _ _ _ _ _ _ _ _ _ _ _ _ _ _ _ _ _ _ _ _ _ _ _ _ _ _ _ _ _ _ _ _ _ _ _ _ _ _ _ _ _ _ _ _ _ _ _ _ _ _ _ _ _ _ _ _ _ _ _ _ _ _ _ _ _ _ _ _ _ _ _ _ _ _ _ _ _ _ _ _ _ _ _ _ _ _ _ _ _ _ _ _ _ _ _ _ _ _ _ _ _ _ _ _ _ _ _ _ _ _ _ _ _ _ _ _ _ _ _ _ _ _ _ _ _ _ _ _ _ _ _ _ _ _ _ _ _ _ _ _ _ _ _ _ _ _ _ _ _ _ _ _ _ _ _ _ _ _ _ _ _ _ _ _ _ _
  rw [if_pos hE] at h
  rcases hE with hE | hE
  · rw [hE] at hcq
    by_cases hl : q + 1 = l0.length
    · rw [if_pos hl] at h
      exact vn27_101_end hn HC hl hcq h _ _ _ _ _ _ _ _ _ _ _ _ _ _ _ _ _ _ _ _ _ _ _ _ _ _ _ _ _ _ _ _ _ _ _ _ _ _ _ _ _ _ _ _ _ _ _ _ _ _ _ _ _ _ _ _ _ _ _ _ _ _ _ _ _ _ _ _ _ _ _ _ _ _ _ _ _ _ _ _ _ _ _ _ _ _ _ _ _ _ _ _ _ _ _ _ _ _ _ _ _ _ _ _ _ _ _ _ _ _ _ _ _ _ _ _ _ _ _ _ _ _ _ _ _ _ _ _ _ _ _ _ _ _ _ _ _ _ _ _ _ _ _ _ _ _ _ _ _ _ _ _ _ _ _ _ _ _ _ _ _ _ _ _ _ _ _ _ _ _ _ _ _ _ _ _ _ _ _ _ _ _ _ _ _ _ _ _
    rw [if_neg hl] at h
    have hlt : q + 1 < l0.length := by omega
    have hc2 := HC1 q hlt
    by_cases hs1 : l0.getD (q + 1) 0 = 43
    · rw [if_pos (.inl hs1)] at h
      rw [hs1] at hc2
      unfold nSgn at h
      by_cases hr : q + 2 = l0.length
      · rw [if_pos hr] at h
        exact vn27_101p_end hn HC hlt hcq hc2 hr h _ _ _ _ _ _ _ _ _ _ _ _ _ _ _ _ _ _ _ _ _ _ _ _ _ _ _ _ _ _ _ _ _ _ _ _ _ _ _ _ _ _ _ _ _ _ _ _ _ _ _ _ _ _ _ _ _ _ _ _ _ _ _ _ _ _ _ _ _ _ _ _ _ _ _ _ _ _ _ _ _ _ _ _ _ _ _ _ _ _ _ _ _ _ _ _ _ _ _ _ _ _ _ _ _ _ _ _ _ _ _ _ _ _ _ _ _ _ _ _ _ _ _ _ _ _ _ _ _ _ _ _ _ _ _ _ _ _ _ _ _ _ _ _ _ _ _ _ _ _ _ _ _ _ _ _ _ _ _ _ _ _ _ _ _ _ _ _ _ _ _ _ _ _ _ _ _ _ _ _ _ _ _ _ _ _ _ _
      rw [if_neg hr] at h
      have hrl : q + 2 < l0.length := by omega
      by_cases hd : isD (l0.getD (q + 2) 0)
      · rw [if_pos hd] at h
        exact vn27_101p_yes hn HC hlt hcq hc2 hrl hd.1 hd.2 (HC2 q hrl) h _ _ _ _ _ _ _ _ _ _ _ _ _ _ _ _ _ _ _ _ _ _ _ _ _ _ _ _ _ _ _ _ _ _ _ _ _ _ _ _ _ _ _ _ _ _ _ _ _ _ _ _ _ _ _ _ _ _ _ _ _ _ _ _ _ _ _ _ _ _ _ _ _ _ _ _ _ _ _ _ _ _ _ _ _ _ _ _ _ _ _ _ _ _ _ _ _ _ _ _ _ _ _ _ _ _ _ _ _ _ _ _ _ _ _ _ _ _ _ _ _ _ _ _ _ _ _ _ _ _ _ _ _ _ _ _ _ _ _ _ _ _ _ _ _ _ _ _ _ _ _ _ _ _ _ _ _ _ _ _ _ _ _ _ _ _ _ _ _ _ _ _ _ _ _ _ _ _ _ _ _ _ _ _ _ _ _ _
      · rw [if_neg hd] at h
        exact vn27_101p_no hn HC hlt hcq hc2 hrl (vn_not hd) (HC2 q hrl) h _ _ _ _ _ _ _ _ _ _ _ _ _ _ _ _ _ _ _ _ _ _ _ _ _ _ _ _ _ _ _ _ _ _ _ _ _ _ _ _ _ _ _ _ _ _ _ _ _ _ _ _ _ _ _ _ _ _ _ _ _ _ _ _ _ _ _ _ _ _ _ _ _ _ _ _ _ _ _ _ _ _ _ _ _ _ _ _ _ _ _ _ _ _ _ _ _ _ _ _ _ _ _ _ _ _ _ _ _ _ _ _ _ _ _ _ _ _ _ _ _ _ _ _ _ _ _ _ _ _ _ _ _ _ _ _ _ _ _ _ _ _ _ _ _ _ _ _ _ _ _ _ _ _ _ _ _ _ _ _ _ _ _ _ _ _ _ _ _ _ _ _ _ _ _ _ _ _ _ _ _ _ _ _ _ _ _ _
    by_cases hs2 : l0.getD (q + 1) 0 = 45
    · rw [if_pos (.inr hs2)] at h
      rw [hs2] at hc2
      unfold nSgn at h
      by_cases hr : q + 2 = l0.length
      · rw [if_pos hr] at h
        exact vn27_101m_end hn HC hlt hcq hc2 hr h _ _ _ _ _ _ _ _ _ _ _ _ _ _ _ _ _ _ _ _ _ _ _ _ _ _ _ _ _ _ _ _ _ _ _ _ _ _ _ _ _ _ _ _ _ _ _ _ _ _ _ _ _ _ _ _ _ _ _ _ _ _ _ _ _ _ _ _ _ _ _ _ _ _ _ _ _ _ _ _ _ _ _ _ _ _ _ _ _ _ _ _ _ _ _ _ _ _ _ _ _ _ _ _ _ _ _ _ _ _ _ _ _ _ _ _ _ _ _ _ _ _ _ _ _ _ _ _ _ _ _ _ _ _ _ _ _ _ _ _ _ _ _ _ _ _ _ _ _ _ _ _ _ _ _ _ _ _ _ _ _ _ _ _ _ _ _ _ _ _ _ _ _ _ _ _ _ _ _ _ _ _ _ _ _ _ _ _
      rw [if_neg hr] at h
      have hrl : q + 2 < l0.length := by omega
      by_cases hd : isD (l0.getD (q + 2) 0)
      · rw [if_pos hd] at h
        exact vn27_101m_yes hn HC hlt hcq hc2 hrl hd.1 hd.2 (HC2 q hrl) h _ _ _ _ _ _ _ _ _ _ _ _ _ _ _ _ _ _ _ _ _ _ _ _ _ _ _ _ _ _ _ _ _ _ _ _ _ _ _ _ _ _ _ _ _ _ _ _ _ _ _ _ _ _ _ _ _ _ _ _ _ _ _ _ _ _ _ _ _ _ _ _ _ _ _ _ _ _ _ _ _ _ _ _ _ _ _ _ _ _ _ _ _ _ _ _ _ _ _ _ _ _ _ _ _ _ _ _ _ _ _ _ _ _ _ _ _ _ _ _ _ _ _ _ _ _ _ _ _ _ _ _ _ _ _ _ _ _ _ _ _ _ _ _ _ _ _ _ _ _ _ _ _ _ _ _ _ _ _ _ _ _ _ _ _ _ _ _ _ _ _ _ _ _ _ _ _ _ _ _ _ _ _ _ _ _ _ _
      · rw [if_neg hd] at h
        exact vn27_101m_no hn HC hlt hcq hc2 hrl (vn_not hd) (HC2 q hrl) h _ _ _ _ _ _ _ _ _ _ _ _ _ _ _ _ _ _ _ _ _ _ _ _ _ _ _ _ _ _ _ _ _ _ _ _ _ _ _ _ _ _ _ _ _ _ _ _ _ _ _ _ _ _ _ _ _ _ _ _ _ _ _ _ _ _ _ _ _ _ _ _ _ _ _ _ _ _ _ _ _ _ _ _ _ _ _ _ _ _ _ _ _ _ _ _ _ _ _ _ _ _ _ _ _ _ _ _ _ _ _ _ _ _ _ _ _ _ _ _ _ _ _ _ _ _ _ _ _ _ _ _ _ _ _ _ _ _ _ _ _ _ _ _ _ _ _ _ _ _ _ _ _ _ _ _ _ _ _ _ _ _ _ _ _ _ _ _ _ _ _ _ _ _ _ _ _ _ _ _ _ _ _ _ _ _ _ _
    · rw [if_neg (fun e => e.elim hs1 hs2)] at h
      unfold nSgn at h
      rw [if_neg hl] at h
      by_cases hd : isD (l0.getD (q + 1) 0)
      · rw [if_pos hd] at h
        exact vn27_101_yes hn HC hlt hcq hc2 (vn_bq hs1) (vn_bq hs2) hd.1 hd.2 h _ _ _ _ _ _ _ _ _ _ _ _ _ _ _ _ _ _ _ _ _ _ _ _ _ _ _ _ _ _ _ _ _ _ _ _ _ _ _ _ _ _ _ _ _ _ _ _ _ _ _ _ _ _ _ _ _ _ _ _ _ _ _ _ _ _ _ _ _ _ _ _ _ _ _ _ _ _ _ _ _ _ _ _ _ _ _ _ _ _ _ _ _ _ _ _ _ _ _ _ _ _ _ _ _ _ _ _ _ _ _ _ _ _ _ _ _ _ _ _ _ _ _ _ _ _ _ _ _ _ _ _ _ _ _ _ _ _ _ _ _ _ _ _ _ _ _ _ _ _ _ _ _ _ _ _ _ _ _ _ _ _ _ _ _ _ _ _ _ _ _ _ _ _ _ _ _ _ _ _ _ _ _ _ _ _ _ _
      · rw [if_neg hd] at h
        exact vn27_101_no hn HC hlt hcq hc2 (vn_bq hs1) (vn_bq hs2) (vn_not hd) h _ _ _ _ _ _ _ _ _ _ _ _ _ _ _ _ _ _ _ _ _ _ _ _ _ _ _ _ _ _ _ _ _ _ _ _ _ _ _ _ _ _ _ _ _ _ _ _ _ _ _ _ _ _ _ _ _ _ _ _ _ _ _ _ _ _ _ _ _ _ _ _ _ _ _ _ _ _ _ _ _ _ _ _ _ _ _ _ _ _ _ _ _ _ _ _ _ _ _ _ _ _ _ _ _ _ _ _ _ _ _ _ _ _ _ _ _ _ _ _ _ _ _ _ _ _ _ _ _ _ _ _ _ _ _ _ _ _ _ _ _ _ _ _ _ _ _ _ _ _ _ _ _ _ _ _ _ _ _ _ _ _ _ _ _ _ _ _ _ _ _ _ _ _ _ _ _ _ _ _ _ _ _ _ _ _ _ _
  · rw [hE] at hcq
    by_cases hl : q + 1 = l0.length
    · rw [if_pos hl] at h
      exact vn27_69_end hn HC hl hcq h _ _ _ _ _ _ _ _ _ _ _ _ _ _ _ _ _ _ _ _ _ _ _ _ _ _ _ _ _ _ _ _ _ _ _ _ _ _ _ _ _ _ _ _ _ _ _ _ _ _ _ _ _ _ _ _ _ _ _ _ _ _ _ _ _ _ _ _ _ _ _ _ _ _ _ _ _ _ _ _ _ _ _ _ _ _ _ _ _ _ _ _ _ _ _ _ _ _ _ _ _ _ _ _ _ _ _ _ _ _ _ _ _ _ _ _ _ _ _ _ _ _ _ _ _ _ _ _ _ _ _ _ _ _ _ _ _ _ _ _ _ _ _ _ _ _ _ _ _ _ _ _ _ _ _ _ _ _ _ _ _ _ _ _ _ _ _ _ _ _ _ _ _ _ _ _ _ _ _ _ _ _ _ _ _ _ _ _
    rw [if_neg hl] at h
    have hlt : q + 1 < l0.length := by omega
    have hc2 := HC1 q hlt
    by_cases hs1 : l0.getD (q + 1) 0 = 43
    · rw [if_pos (.inl hs1)] at h
      rw [hs1] at hc2
      unfold nSgn at h
      by_cases hr : q + 2 = l0.length
      · rw [if_pos hr] at h
        exact vn27_69p_end hn HC hlt hcq hc2 hr h _ _ _ _ _ _ _ _ _ _ _ _ _ _ _ _ _ _ _ _ _ _ _ _ _ _ _ _ _ _ _ _ _ _ _ _ _ _ _ _ _ _ _ _ _ _ _ _ _ _ _ _ _ _ _ _ _ _ _ _ _ _ _ _ _ _ _ _ _ _ _ _ _ _ _ _ _ _ _ _ _ _ _ _ _ _ _ _ _ _ _ _ _ _ _ _ _ _ _ _ _ _ _ _ _ _ _ _ _ _ _ _ _ _ _ _ _ _ _ _ _ _ _ _ _ _ _ _ _ _ _ _ _ _ _ _ _ _ _ _ _ _ _ _ _ _ _ _ _ _ _ _ _ _ _ _ _ _ _ _ _ _ _ _ _ _ _ _ _ _ _ _ _ _ _ _ _ _ _ _ _ _ _ _ _ _ _ _
      rw [if_neg hr] at h
      have hrl : q + 2 < l0.length := by omega
      by_cases hd : isD (l0.getD (q + 2) 0)
      · rw [if_pos hd] at h
        exact vn27_69p_yes hn HC hlt hcq hc2 hrl hd.1 hd.2 (HC2 q hrl) h _ _ _ _ _ _ _ _ _ _ _ _ _ _ _ _ _ _ _ _ _ _ _ _ _ _ _ _ _ _ _ _ _ _ _ _ _ _ _ _ _ _ _ _ _ _ _ _ _ _ _ _ _ _ _ _ _ _ _ _ _ _ _ _ _ _ _ _ _ _ _ _ _ _ _ _ _ _ _ _ _ _ _ _ _ _ _ _ _ _ _ _ _ _ _ _ _ _ _ _ _ _ _ _ _ _ _ _ _ _ _ _ _ _ _ _ _ _ _ _ _ _ _ _ _ _ _ _ _ _ _ _ _ _ _ _ _ _ _ _ _ _ _ _ _ _ _ _ _ _ _ _ _ _ _ _ _ _ _ _ _ _ _ _ _ _ _ _ _ _ _ _ _ _ _ _ _ _ _ _ _ _ _ _ _ _ _ _
      · rw [if_neg hd] at h
        exact vn27_69p_no hn HC hlt hcq hc2 hrl (vn_not hd) (HC2 q hrl) h _ _ _ _ _ _ _ _ _ _ _ _ _ _ _ _ _ _ _ _ _ _ _ _ _ _ _ _ _ _ _ _ _ _ _ _ _ _ _ _ _ _ _ _ _ _ _ _ _ _ _ _ _ _ _ _ _ _ _ _ _ _ _ _ _ _ _ _ _ _ _ _ _ _ _ _ _ _ _ _ _ _ _ _ _ _ _ _ _ _ _ _ _ _ _ _ _ _ _ _ _ _ _ _ _ _ _ _ _ _ _ _ _ _ _ _ _ _ _ _ _ _ _ _ _ _ _ _ _ _ _ _ _ _ _ _ _ _ _ _ _ _ _ _ _ _ _ _ _ _ _ _ _ _ _ _ _ _ _ _ _ _ _ _ _ _ _ _ _ _ _ _ _ _ _ _ _ _ _ _ _ _ _ _ _ _ _ _
    by_cases hs2 : l0.getD (q + 1) 0 = 45
    · rw [if_pos (.inr hs2)] at h
      rw [hs2] at hc2
      unfold nSgn at h
      by_cases hr : q + 2 = l0.length
      · rw [if_pos hr] at h
        exact vn27_69m_end hn HC hlt hcq hc2 hr h _ _ _ _ _ _ _ _ _ _ _ _ _ _ _ _ _ _ _ _ _ _ _ _ _ _ _ _ _ _ _ _ _ _ _ _ _ _ _ _ _ _ _ _ _ _ _ _ _ _ _ _ _ _ _ _ _ _ _ _ _ _ _ _ _ _ _ _ _ _ _ _ _ _ _ _ _ _ _ _ _ _ _ _ _ _ _ _ _ _ _ _ _ _ _ _ _ _ _ _ _ _ _ _ _ _ _ _ _ _ _ _ _ _ _ _ _ _ _ _ _ _ _ _ _ _ _ _ _ _ _ _ _ _ _ _ _ _ _ _ _ _ _ _ _ _ _ _ _ _ _ _ _ _ _ _ _ _ _ _ _ _ _ _ _ _ _ _ _ _ _ _ _ _ _ _ _ _ _ _ _ _ _ _ _ _ _ _
      rw [if_neg hr] at h
      have hrl : q + 2 < l0.length := by omega
      by_cases hd : isD (l0.getD (q + 2) 0)
      · rw [if_pos hd] at h
        exact vn27_69m_yes hn HC hlt hcq hc2 hrl hd.1 hd.2 (HC2 q hrl) h _ _ _ _ _ _ _ _ _ _ _ _ _ _ _ _ _ _ _ _ _ _ _ _ _ _ _ _ _ _ _ _ _ _ _ _ _ _ _ _ _ _ _ _ _ _ _ _ _ _ _ _ _ _ _ _ _ _ _ _ _ _ _ _ _ _ _ _ _ _ _ _ _ _ _ _ _ _ _ _ _ _ _ _ _ _ _ _ _ _ _ _ _ _ _ _ _ _ _ _ _ _ _ _ _ _ _ _ _ _ _ _ _ _ _ _ _ _ _ _ _ _ _ _ _ _ _ _ _ _ _ _ _ _ _ _ _ _ _ _ _ _ _ _ _ _ _ _ _ _ _ _ _ _ _ _ _ _ _ _ _ _ _ _ _ _ _ _ _ _ _ _ _ _ _ _ _ _ _ _ _ _ _ _ _ _ _ _
      · rw [if_neg hd] at h
        exact vn27_69m_no hn HC hlt hcq hc2 hrl (vn_not hd) (HC2 q hrl) h _ _ _ _ _ _ _ _ _ _ _ _ _ _ _ _ _ _ _ _ _ _ _ _ _ _ _ _ _ _ _ _ _ _ _ _ _ _ _ _ _ _ _ _ _ _ _ _ _ _ _ _ _ _ _ _ _ _ _ _ _ _ _ _ _ _ _ _ _ _ _ _ _ _ _ _ _ _ _ _ _ _ _ _ _ _ _ _ _ _ _ _ _ _ _ _ _ _ _ _ _ _ _ _ _ _ _ _ _ _ _ _ _ _ _ _ _ _ _ _ _ _ _ _ _ _ _ _ _ _ _ _ _ _ _ _ _ _ _ _ _ _ _ _ _ _ _ _ _ _ _ _ _ _ _ _ _ _ _ _ _ _ _ _ _ _ _ _ _ _ _ _ _ _ _ _ _ _ _ _ _ _ _ _ _ _ _ _
    · rw [if_neg (fun e => e.elim hs1 hs2)] at h
      unfold nSgn at h
      rw [if_neg hl] at h
      by_cases hd : isD (l0.getD (q + 1) 0)
      · rw [if_pos hd] at h
        exact vn27_69_yes hn HC hlt hcq hc2 (vn_bq hs1) (vn_bq hs2) hd.1 hd.2 h _ _ _ _ _ _ _ _ _ _ _ _ _ _ _ _ _ _ _ _ _ _ _ _ _ _ _ _ _ _ _ _ _ _ _ _ _ _ _ _ _ _ _ _ _ _ _ _ _ _ _ _ _ _ _ _ _ _ _ _ _ _ _ _ _ _ _ _ _ _ _ _ _ _ _ _ _ _ _ _ _ _ _ _ _ _ _ _ _ _ _ _ _ _ _ _ _ _ _ _ _ _ _ _ _ _ _ _ _ _ _ _ _ _ _ _ _ _ _ _ _ _ _ _ _ _ _ _ _ _ _ _ _ _ _ _ _ _ _ _ _ _ _ _ _ _ _ _ _ _ _ _ _ _ _ _ _ _ _ _ _ _ _ _ _ _ _ _ _ _ _ _ _ _ _ _ _ _ _ _ _ _ _ _ _ _ _ _
      · rw [if_neg hd] at h
        exact vn27_69_no hn HC hlt hcq hc2 (vn_bq hs1) (vn_bq hs2) (vn_not hd) h _ _ _ _ _ _ _ _ _ _ _ _ _ _ _ _ _ _ _ _ _ _ _ _ _ _ _ _ _ _ _ _ _ _ _ _ _ _ _ _ _ _ _ _ _ _ _ _ _ _ _ _ _ _ _ _ _ _ _ _ _ _ _ _ _ _ _ _ _ _ _ _ _ _ _ _ _ _ _ _ _ _ _ _ _ _ _ _ _ _ _ _ _ _ _ _ _ _ _ _ _ _ _ _ _ _ _ _ _ _ _ _ _ _ _ _ _ _ _ _ _ _ _ _ _ _ _ _ _ _ _ _ _ _ _ _ _ _ _ _ _ _ _ _ _ _ _ _ _ _ _ _ _ _ _ _ _ _ _ _ _ _ _ _ _ _ _ _ _ _ _ _ _ _ _ _ _ _ _ _ _ _ _ _ _ _ _ _
set_option maxHeartbeats 2000000 in
set_option maxRecDepth 1000000 in
theorem vn15 {ad : Addr} {c0 : Nat} {l0 : List Int} {r1 : Int} {r2 : Bool} {w : World} (hn : l0.length ≤ 4611686018427387904) (HC : Hid (∀ j, j < l0.length → w.cell? (ad.add j) = some (.int .u8 (l0.getD j 0)))) {p : Nat} (hp : p ≤ l0.length) (h : nFrac l0 p = (r1, r2)) (u2 u3 u4 u5 u6 u7 u8 u9 u10 u11 u12 u13 u14 u15 u16 u17 u18 u19 u20 u21 u22 u23 u24 u25 u26 u27 u28 u29 u30 u31 u32 u33 u34 u35 u36 u37 u38 u39 u40 u41 u42 u43 u44 u45 u46 u47 u48 u49 u50 u51 u52 u53 u54 u55 u56 u57 u58 u59 u60 u61 u62 u63 u64 u65 u66 u67 u68 u69 u70 u71 u72 u73 u74 u75 u76 u77 u78 u79 u80 u81 u82 u83 u84 u85 u86 u87 u88 u89 u90 u91 u92 u93 u94 u95 u96 u97 u98 u99 u100 u101 u102 u103 u104 u105 u106 u107 u108 u109 u110 u111 u112 u113 u114 u115 u116 u117 u118 u119 u120 u121 u122 u123 u124 u125 u126 u127 u128 u129 u130 u131 u132 u133 u134 u135 u136 u137 u138 u139 u140 u141 u142 u143 u144 u145 u146 u147 u148 u149 u150 u151 u152 u153 u154 u155 u156 u157 u158 u159 u160 u161 u162 u163 u164 u165 u166 u167 u168 u169 u170 u171 u172 u173 u174 u175 u176 u177 u178 u179 u180 u181 u182 u183 u184 u185 u186 u187 u188 u189 : Value) :
    Code.wp Try.prog (vnCode 15) (bodyPost Try.prog Try.f30 fun e w' => e = .returned (.tuple #[.int .i64 r1, .bool r2]) ∧ Drawn0 w w') ⟨#[.slice (some ad) l0.length c0, .int .i64 (p : Int), u2, u3, u4, u5, u6, u7, u8, u9, u10, u11, u12, u13, u14, u15, u16, u17, u18, u19, u20, u21, u22, u23, u24, u25, u26, u27, u28, u29, u30, u31, u32, u33, u34, u35, u36, u37, u38, u39, u40, u41, u42, u43, u44, u45, u46, u47, u48, u49, u50, u51, u52, u53, u54, u55, u56, u57, u58, u59, u60, u61, u62, u63, u64, u65, u66, u67, u68, u69, u70, u71, u72, u73, u74, u75, u76, u77, u78, u79, u80, u81, u82, u83, u84, u85, u86, u87, u88, u89, u90, u91, u92, u93, u94, u95, u96, u97, u98, u99, u100, u101, u102, u103, u104, u105, u106, u107, u108, u109, u110, u111, u112, u113, u114, u115, u116, u117, u118, u119, u120, u121, u122, u123, u124, u125, u126, u127, u128, u129, u130, u131, u132, u133, u134, u135, u136, u137, u138, u139, u140, u141, u142, u143, u144, u145, u146, u147, u148, u149, u150, u151, u152, u153, u154, u155, u156, u157, u158, u159, u160, u161, u162, u163, u164, u165, u166, u167, u168, u169, u170, u171, u172, u173, u174, u175, u176, u177, u178, u179, u180, u181, u182, u183, u184, u185, u186, u187, u188, u189], []⟩ w := by
  conv => arg 2; whnf
  have HC1 : Hid (∀ j, j + 1 < l0.length → w.cell? ⟨ad.block, ad.off + (j + 1), none⟩ = some (.int .u8 (l0.getD (j + 1) 0))) := Lib.hid fun j hj => by
    have h := HC.out (j + 1) hj
    simpa [Addr.add] using h
  have HC2 : Hid (∀ j, j + 2 < l0.length → w.cell? ⟨ad.block, ad.off + (j + 2), none⟩ = some (.int .u8 (l0.getD (j + 2) 0))) := Lib.hid fun j hj => by
    have h := HC.out (j + 2) hj
    simpa [Addr.add] using h
  unfold nFrac at h
  by_cases hpe : p = l0.length
  · rw [if_pos hpe] at h
    have hb : ((p : Int) == (l0.length : Int)) = true := by rw [beq_iff_eq]; omega
    clear hpe hp
    simp only [Prod.mk.injEq] at h
    obtain ⟨rfl, rfl⟩ := h
    go_wp2
    go_ret2
    exact ⟨by (first | (simp; done) | (simp; omega)), Drawn0.refl _⟩
  rw [if_neg hpe] at h
  have hpl : p < l0.length := by omega
  have hbp : ((p : Int) == (l0.length : Int)) = false := by rw [beq_eq_false_iff_ne]; omega
  clear hpe hp
  have hcp := HC.out p hpl
  obtain ⟨xp, hxp⟩ : ∃ x, l0.getD p 0 = x := ⟨_, rfl⟩
  rw [hxp] at hcp h
  have HQ := Aside0.mk h
  clear h hxp
  go_upto_if 72 with (fail)
  go_cut [1] (fun v1 wc => ∃ q : Nat, v1 = .int .i64 q ∧ q ≤ l0.length ∧ Aside0 (nExp l0 q = (r1, r2)) ∧ w = wc)
  case first =>
    have h := HQ.out
    clear HQ
    by_cases h46 : xp = 46
    · subst h46
      rw [if_pos rfl] at h
      by_cases hl : p + 1 = l0.length
      · rw [if_pos hl] at h
        have hb : ((p : Int) + 1 == (l0.length : Int)) = true := by rw [beq_iff_eq]; omega
        clear hl
        simp only [Prod.mk.injEq] at h
        obtain ⟨rfl, rfl⟩ := h
        go_wp2
        go_ret2
        exact ⟨by (first | (simp; done) | (simp; omega)), Drawn0.refl _⟩
      · rw [if_neg hl] at h
        have hb : ((p : Int) + 1 == (l0.length : Int)) = false := by rw [beq_eq_false_iff_ne]; omega
        have hlt : p + 1 < l0.length := by omega
        clear hl
        have hc2 := HC1.out p hlt
        by_cases hd : isD (l0.getD (p + 1) 0)
        · rw [if_pos hd] at h
          obtain ⟨d1, d2⟩ := hd
          generalize l0.getD (p + 1) 0 = x at hc2 d1 d2
          have hge := dEnd_ge l0 l0.length (p + 2)
          have hle := dEnd_le l0 l0.length (p + 2) (by omega)
          have hbl := dEnd_dig l0 l0.length (p + 2)
          have hst := dEnd_stop l0 l0.length (p + 2) (by omega)
          generalize dEnd l0 l0.length (p + 2) = e at h hge hle hbl hst
          have HP := Lib.hid hbl
          have HS := Lib.hid hst
          have HE := Aside0.mk h
          clear hbl hst h
          go_wp2
          go_loop [1] (fun v => ∃ j : Nat, p + 2 ≤ j ∧ j ≤ e ∧ v = .int .i64 j) (fun v => e - (intOf v).toNat)
          case atStart => exact ⟨p + 2, Nat.le_refl _, hge, by (first | (simp; done) | (simp; omega))⟩
          case round =>
            obtain ⟨j, h1, h2, rfl⟩ := hrel
            by_cases hlt : j < e
            · have hcj := HC.out j (by omega)
              obtain ⟨p1, p2⟩ := HP.out j h1 hlt
              generalize l0.getD j 0 = x at hcj p1 p2
              go_wp2
              go_round
              case rel => exact ⟨j + 1, by omega, by omega, by go_num⟩
              case measure => simp [intOf]; omega
            · obtain rfl : j = e := by omega
              clear hlt
              by_cases hlt : j < l0.length
              · have hcj := HC.out j hlt
                have hns := HS.out hlt
                generalize l0.getD j 0 = x at hcj hns
                by_cases p1 : 48 ≤ x
                · have p2 : 57 < x := by
                    rcases Int.lt_or_le 57 x with h | h
                    · exact h
                    · exact absurd ⟨p1, h⟩ hns
                  clear hns
                  go_wp2
                  go_meet
                  case rel => exact ⟨j, rfl, by omega, HE, rfl⟩
                · have p2 : x < 48 := by omega
                  clear hns p1
                  go_wp2
                  go_meet
                  case rel => exact ⟨j, rfl, by omega, HE, rfl⟩
              · have hje : l0.length ≤ j := by omega
                clear hlt
                go_wp2
                go_meet
                case rel => exact ⟨j, rfl, by omega, HE, rfl⟩
        · rw [if_neg hd] at h
          generalize l0.getD (p + 1) 0 = x at hc2 hd
          by_cases d1 : 48 ≤ x
          · have d2 : 57 < x := by
              rcases Int.lt_or_le 57 x with h | h
              · exact h
              · exact absurd ⟨d1, h⟩ hd
            clear hd
            simp only [Prod.mk.injEq] at h
            obtain ⟨rfl, rfl⟩ := h
            go_wp2
            go_ret2
            exact ⟨by (first | (simp; done) | (simp; omega)), Drawn0.refl _⟩
          · have d2 : x < 48 := by omega
            clear hd d1
            simp only [Prod.mk.injEq] at h
            obtain ⟨rfl, rfl⟩ := h
            go_wp2
            go_ret2
            exact ⟨by (first | (simp; done) | (simp; omega)), Drawn0.refl _⟩
    · rw [if_neg h46] at h
      have hx : (xp == 46) = false := beq_eq_false_iff_ne.mpr h46
      have HN := Aside0.mk h
      clear h h46
      go_wp2
      go_meet
      case rel => exact ⟨p, rfl, by omega, HN, rfl⟩
  case rest =>
    obtain ⟨q, rfl, hq, HF, rfl⟩ := hcut
    rename_i hk_
    refine hk_ _ _ ?_
    exact vn27 hn HC hq HF.out _ _ _ _ _ _ _ _ _ _ _ _ _ _ _ _ _ _ _ _ _ _ _ _ _ _ _ _ _ _ _ _ _ _ _ _ _ _ _ _ _ _ _ _ _ _ _ _ _ _ _ _ _ _ _ _ _ _ _ _ _ _ _ _ _ _ _ _ _ _ _ _ _ _ _ _ _ _ _ _ _ _ _ _ _ _ _ _ _ _ _ _ _ _ _ _ _ _ _ _ _ _ _ _ _ _ _ _ _ _ _ _ _ _ _ _ _ _ _ _ _ _ _ _ _ _ _ _ _ _ _ _ _ _ _ _ _ _ _ _ _ _ _ _ _ _ _ _ _ _ _ _ _ _ _ _ _ _ _ _ _ _ _ _ _ _ _ _ _ _ _ _ _ _ _ _ _ _ _ _ _ _ _ _ _ _ _ _
set_option maxHeartbeats 2000000 in
set_option maxRecDepth 1000000 in
theorem vn8 {ad : Addr} {c0 : Nat} {l0 : List Int} {r1 : Int} {r2 : Bool} {w : World} (hn : l0.length ≤ 4611686018427387904) (HC : Hid (∀ j, j < l0.length → w.cell? (ad.add j) = some (.int .u8 (l0.getD j 0)))) {m : Nat} (hm : m < l0.length) (h : nInt l0 m = (r1, r2)) (u2 u3 u4 u5 u6 u7 u8 u9 u10 u11 u12 u13 u14 u15 u16 u17 u18 u19 u20 u21 u22 u23 u24 u25 u26 u27 u28 u29 u30 u31 u32 u33 u34 u35 u36 u37 u38 u39 u40 u41 u42 u43 u44 u45 u46 u47 u48 u49 u50 u51 u52 u53 u54 u55 u56 u57 u58 u59 u60 u61 u62 u63 u64 u65 u66 u67 u68 u69 u70 u71 u72 u73 u74 u75 u76 u77 u78 u79 u80 u81 u82 u83 u84 u85 u86 u87 u88 u89 u90 u91 u92 u93 u94 u95 u96 u97 u98 u99 u100 u101 u102 u103 u104 u105 u106 u107 u108 u109 u110 u111 u112 u113 u114 u115 u116 u117 u118 u119 u120 u121 u122 u123 u124 u125 u126 u127 u128 u129 u130 u131 u132 u133 u134 u135 u136 u137 u138 u139 u140 u141 u142 u143 u144 u145 u146 u147 u148 u149 u150 u151 u152 u153 u154 u155 u156 u157 u158 u159 u160 u161 u162 u163 u164 u165 u166 u167 u168 u169 u170 u171 u172 u173 u174 u175 u176 u177 u178 u179 u180 u181 u182 u183 u184 u185 u186 u187 u188 u189 : Value) :
    Code.wp Try.prog (vnCode 8) (bodyPost Try.prog Try.f30 fun e w' => e = .returned (.tuple #[.int .i64 r1, .bool r2]) ∧ Drawn0 w w') ⟨#[.slice (some ad) l0.length c0, .int .i64 (m : Int), u2, u3, u4, u5, u6, u7, u8, u9, u10, u11, u12, u13, u14, u15, u16, u17, u18, u19, u20, u21, u22, u23, u24, u25, u26, u27, u28, u29, u30, u31, u32, u33, u34, u35, u36, u37, u38, u39, u40, u41, u42, u43, u44, u45, u46, u47, u48, u49, u50, u51, u52, u53, u54, u55, u56, u57, u58, u59, u60, u61, u62, u63, u64, u65, u66, u67, u68, u69, u70, u71, u72, u73, u74, u75, u76, u77, u78, u79, u80, u81, u82, u83, u84, u85, u86, u87, u88, u89, u90, u91, u92, u93, u94, u95, u96, u97, u98, u99, u100, u101, u102, u103, u104, u105, u106, u107, u108, u109, u110, u111, u112, u113, u114, u115, u116, u117, u118, u119, u120, u121, u122, u123, u124, u125, u126, u127, u128, u129, u130, u131, u132, u133, u134, u135, u136, u137, u138, u139, u140, u141, u142, u143, u144, u145, u146, u147, u148, u149, u150, u151, u152, u153, u154, u155, u156, u157, u158, u159, u160, u161, u162, u163, u164, u165, u166, u167, u168, u169, u170, u171, u172, u173, u174, u175, u176, u177, u178, u179, u180, u181, u182, u183, u184, u185, u186, u187, u188, u189], []⟩ w := by
  conv => arg 2; whnf
  have HC1 : Hid (∀ j, j + 1 < l0.length → w.cell? ⟨ad.block, ad.off + (j + 1), none⟩ = some (.int .u8 (l0.getD (j + 1) 0))) := Lib.hid fun j hj => by
    have h := HC.out (j + 1) hj
    simpa [Addr.add] using h
  have HC2 : Hid (∀ j, j + 2 < l0.length → w.cell? ⟨ad.block, ad.off + (j + 2), none⟩ = some (.int .u8 (l0.getD (j + 2) 0))) := Lib.hid fun j hj => by
    have h := HC.out (j + 2) hj
    simpa [Addr.add] using h
  have HN := Aside0.mk h
  clear h
  have hbm : ((m : Int) == (l0.length : Int)) = false := by rw [beq_eq_false_iff_ne]; omega
  have hcm := HC.out m hm
  obtain ⟨xm, hxm⟩ : ∃ x, l0.getD m 0 = x := ⟨_, rfl⟩
  rw [hxm] at hcm
  have HXM := Aside0.mk hxm
  clear hxm
  go_upto_if 42 with (fail)
  go_cut [1] (fun v1 wc => ∃ p : Nat, v1 = .int .i64 p ∧ p ≤ l0.length ∧ Aside0 (nFrac l0 p = (r1, r2)) ∧ w = wc)
  case first =>
    have h := HN.out
    unfold nInt at h
    rw [HXM.out] at h
    clear HN
    by_cases h48 : xm = 48
    · subst h48
      rw [if_pos rfl] at h
      have HE := Aside0.mk h
      clear h
      go_wp2
      go_meet
      case rel => exact ⟨m + 1, by (first | (simp; done) | (simp; omega)), by omega, HE, rfl⟩
    · rw [if_neg h48] at h
      have hx : (xm == 48) = false := beq_eq_false_iff_ne.mpr h48
      clear h48
      have hge := dEnd_ge l0 l0.length (m)
      have hle := dEnd_le l0 l0.length (m) (by omega)
      have hbl := dEnd_dig l0 l0.length (m)
      have hst := dEnd_stop l0 l0.length (m) (by omega)
      generalize dEnd l0 l0.length (m) = e at h hge hle hbl hst
      have HP := Lib.hid hbl
      have HS := Lib.hid hst
      have HE := Aside0.mk h
      clear hbl hst h
      go_wp2
      go_loop [1] (fun v => ∃ j : Nat, m ≤ j ∧ j ≤ e ∧ v = .int .i64 j) (fun v => e - (intOf v).toNat)
      case atStart => exact ⟨m, Nat.le_refl _, hge, by (first | (simp; done) | (simp; omega))⟩
      case round =>
        obtain ⟨j, h1, h2, rfl⟩ := hrel
        by_cases hlt : j < e
        · have hcj := HC.out j (by omega)
          obtain ⟨p1, p2⟩ := HP.out j h1 hlt
          generalize l0.getD j 0 = x at hcj p1 p2
          go_wp2
          go_round
          case rel => exact ⟨j + 1, by omega, by omega, by go_num⟩
          case measure => simp [intOf]; omega
        · obtain rfl : j = e := by omega
          clear hlt
          by_cases hlt : j < l0.length
          · have hcj := HC.out j hlt
            have hns := HS.out hlt
            generalize l0.getD j 0 = x at hcj hns
            by_cases p1 : 48 ≤ x
            · have p2 : 57 < x := by
                rcases Int.lt_or_le 57 x with h | h
                · exact h
                · exact absurd ⟨p1, h⟩ hns
              clear hns
              go_wp2
              go_meet
              case rel => exact ⟨j, rfl, by omega, HE, rfl⟩
            · have p2 : x < 48 := by omega
              clear hns p1
              go_wp2
              go_meet
              case rel => exact ⟨j, rfl, by omega, HE, rfl⟩
          · have hje : l0.length ≤ j := by omega
            clear hlt
            go_wp2
            go_meet
            case rel => exact ⟨j, rfl, by omega, HE, rfl⟩
  case rest =>
    obtain ⟨p, rfl, hp, HF, rfl⟩ := hcut
    rename_i hk_
    refine hk_ _ _ ?_
    exact vn15 hn HC hp HF.out _ _ _ _ _ _ _ _ _ _ _ _ _ _ _ _ _ _ _ _ _ _ _ _ _ _ _ _ _ _ _ _ _ _ _ _ _ _ _ _ _ _ _ _ _ _ _ _ _ _ _ _ _ _ _ _ _ _ _ _ _ _ _ _ _ _ _ _ _ _ _ _ _ _ _ _ _ _ _ _ _ _ _ _ _ _ _ _ _ _ _ _ _ _ _ _ _ _ _ _ _ _ _ _ _ _ _ _ _ _ _ _ _ _ _ _ _ _ _ _ _ _ _ _ _ _ _ _ _ _ _ _ _ _ _ _ _ _ _ _ _ _ _ _ _ _ _ _ _ _ _ _ _ _ _ _ _ _ _ _ _ _ _ _ _ _ _ _ _ _ _ _ _ _ _ _ _ _ _ _ _ _ _ _ _ _ _ _
set_option maxHeartbeats 4000000 in
set_option maxRecDepth 1000000 in
theorem vn_walk (ad : Addr) (c0 : Nat) (l0 : List Int) (i : Nat) (r1 : Int) (r2 : Bool) (w : World) (hn : l0.length ≤ 4611686018427387904) (hi : i < l0.length) (hc : ∀ j, j < l0.length → w.cell? (ad.add j) = some (.int .u8 (l0.getD j 0)))
    (h : (if l0.getD i 0 = 45 then (if i + 1 = l0.length then (((i + 1 : Nat) : Int), false) else if isD (l0.getD (i + 1) 0) then nInt l0 (i + 1) else (((i + 1 : Nat) : Int), false)) else nInt l0 i) = (r1, r2)) :
    Calls Try.prog 30 #[.slice (some ad) l0.length c0, .int .i64 ((i : Int) + 1)] w fun e w' => e = .returned (.tuple #[.int .i64 r1, .bool r2]) ∧ Drawn0 w w' := by
  have hc1 : ∀ j, j + 1 < l0.length → w.cell? ⟨ad.block, ad.off + (j + 1), none⟩ = some (.int .u8 (l0.getD (j + 1) 0)) := fun j hj => by
    have h := hc (j + 1) hj
    simpa [Addr.add] using h
  have HC := Lib.hid hc
  have HC1 := Lib.hid hc1
  have H := Aside0.mk h
  clear hc hc1 h
  have hcell := HC.out i hi
  obtain ⟨xi, hxi⟩ : ∃ x, l0.getD i 0 = x := ⟨_, rfl⟩
  rw [hxi] at hcell
  have HXI := Aside0.mk hxi
  clear hxi
  go_enter Try.func30, Try.ntmps30
  go_upto_if 12 with (fail)
  go_cut [1] (fun v1 wc => ∃ m : Nat, v1 = .int .i64 m ∧ m < l0.length ∧ Aside0 (nInt l0 m = (r1, r2)) ∧ w = wc)
  case first =>
    have h := H.out
    rw [HXI.out] at h
    clear H
    by_cases h45 : xi = 45
    · subst h45
      rw [if_pos rfl] at h
      by_cases hl : i + 1 = l0.length
      · rw [if_pos hl] at h
        have hb : ((i : Int) + 1 == (l0.length : Int)) = true := by rw [beq_iff_eq]; omega
        clear hl
        simp only [Prod.mk.injEq] at h
        obtain ⟨rfl, rfl⟩ := h
        go_wp2
        go_ret2
        exact ⟨by (first | (simp; done) | (simp; omega)), Drawn0.refl _⟩
      · rw [if_neg hl] at h
        have hb : ((i : Int) + 1 == (l0.length : Int)) = false := by rw [beq_eq_false_iff_ne]; omega
        have hlt : i + 1 < l0.length := by omega
        clear hl
        have hc2 := HC1.out i hlt
        by_cases hd : isD (l0.getD (i + 1) 0)
        · rw [if_pos hd] at h
          obtain ⟨d1, d2⟩ := hd
          generalize l0.getD (i + 1) 0 = x at hc2 d1 d2
          have HN := Aside0.mk h
          clear h
          go_wp2
          go_meet
          case rel => exact ⟨i + 1, by (first | (simp; done) | (simp; omega)), hlt, HN, rfl⟩
        · rw [if_neg hd] at h
          generalize l0.getD (i + 1) 0 = x at hc2 hd
          by_cases d1 : 48 ≤ x
          · have d2 : 57 < x := by
              rcases Int.lt_or_le 57 x with h | h
              · exact h
              · exact absurd ⟨d1, h⟩ hd
            clear hd
            simp only [Prod.mk.injEq] at h
            obtain ⟨rfl, rfl⟩ := h
            go_wp2
            go_ret2
            exact ⟨by (first | (simp; done) | (simp; omega)), Drawn0.refl _⟩
          · have d2 : x < 48 := by omega
            clear hd d1
            simp only [Prod.mk.injEq] at h
            obtain ⟨rfl, rfl⟩ := h
            go_wp2
            go_ret2
            exact ⟨by (first | (simp; done) | (simp; omega)), Drawn0.refl _⟩
    · rw [if_neg h45] at h
      have hx : (xi == 45) = false := beq_eq_false_iff_ne.mpr h45
      have HN := Aside0.mk h
      clear h h45
      go_wp2
      go_meet
      case rel => exact ⟨i, rfl, hi, HN, rfl⟩
  case rest =>
    obtain ⟨m, rfl, hm, HN, rfl⟩ := hcut
    rename_i hk_
    refine hk_ _ _ ?_
    exact vn8 hn HC hm HN.out _ _ _ _ _ _ _ _ _ _ _ _ _ _ _ _ _ _ _ _ _ _ _ _ _ _ _ _ _ _ _ _ _ _ _ _ _ _ _ _ _ _ _ _ _ _ _ _ _ _ _ _ _ _ _ _ _ _ _ _ _ _ _ _ _ _ _ _ _ _ _ _ _ _ _ _ _ _ _ _ _ _ _ _ _ _ _ _ _ _ _ _ _ _ _ _ _ _ _ _ _ _ _ _ _ _ _ _ _ _ _ _ _ _ _ _ _ _ _ _ _ _ _ _ _ _ _ _ _ _ _ _ _ _ _ _ _ _ _ _ _ _ _ _ _ _ _ _ _ _ _ _ _ _ _ _ _ _ _ _ _ _ _ _ _ _ _ _ _ _ _ _ _ _ _ _ _ _ _ _ _ _ _ _ _ _ _ _
theorem gjson_validnumber.calls (A0 : Option Addr) (c0 : Nat) (l0 : List Int) (a1 : Int) (r1 : Int) (r2 : Bool) (w : World) (hr0 : Kd.C (Kd.int .u8) w A0 l0.length l0) (_hc0 : l0.length ≤ c0) (h : gjson_validnumber.f l0 a1 = some (r1, r2)) :
    Calls Try.prog 30 #[.slice A0 l0.length c0, .int .i64 a1] w fun e w' => e = .returned (.tuple #[.int .i64 r1, .bool r2]) ∧ Drawn0 w w' := by
  unfold gjson_validnumber.f at h
  split at h
  · rename_i hp
    obtain ⟨h0, h1, h2⟩ := hp
    obtain ⟨ad, rfl, hc⟩ := (Kd.reads_of_C (enc := Value.int .u8) (d := (0 : Int)) (h1 := fun _ => rfl) hr0).2.2 (by omega)
    obtain ⟨n, rfl⟩ := Int.eq_ofNat_of_zero_le (show 0 ≤ a1 by omega)
    obtain ⟨i, rfl⟩ : ∃ i, n = i + 1 := ⟨n - 1, by omega⟩
    rw [Int.toNat_natCast, Nat.add_sub_cancel] at h
    injection h with h
    exact vn_walk ad c0 l0 i r1 r2 w h2 (by omega) hc h
  · cases h
end Go.Proofs.Ytphpjboljlkdkaa.PFnGjValidCut
