/- Texts of this claim, laid together. -/
import Derived.Test.YtgbliniamkpocaaDoorG7
import Derived.Test.YtgbliniamkpocaaDoorJpAe
import Derived.Shelf.Strconv.Atoi
import Derived.Test.YtgbliniamkpocaaDoorProg
import Derived.Lib.Atoi
import Derived.Lib.SmallJoins
/- jsonparser.equalStr. -/
namespace Go.Proofs.YtgbliniamkpocaaDoor.Jp
open Go.RowKit Go.Proofs.YtgbliniamkpocaaDoorW.PrintWords Go.Proofs.YtgbliniamkpocaaDoor.Kit

set_option maxHeartbeats 8000000 in
set_option maxRecDepth 100000 in
theorem eqs_c (g : Nat) (A : Option Addr) (n c : Nat) (r : List Int) (s : ByteArray) (w : World) (hg : w.cell? ⟨g, 0, none⟩ = some (.slice A n c)) (hr : ReadsInt w .u8 A n r) :
    Calls Tryd.prog 78 #[.pointer (some ⟨g, 0, none⟩), .string s] w fun e w' => e = .returned (.bool (decide ((strOfNums r).toList = s.toList))) ∧ w' = w := by
  have hst := string_of_reads (P := Tryd.prog) (src := 57) (dst := 9) (e := 5) (c := c) Tryd.underlying57 Tryd.underlying5 Tryd.underlying9 hr
  clear hr
  by_cases h : (strOfNums r).toList = s.toList
  · have hb : decide ((strOfNums r).toList = s.toList) = true := by simpa using h
    rw [hb]
    go_enter Tryd.func78, Tryd.ntmps78
    go_wp2
    all_goals (go_ret; first | exact ⟨rfl, rfl⟩ | simp_all)
  · have hb : decide ((strOfNums r).toList = s.toList) = false := by simpa using h
    rw [hb]
    go_enter Tryd.func78, Tryd.ntmps78
    go_wp2
    all_goals (go_ret; first | exact ⟨rfl, rfl⟩ | simp_all)
end Go.Proofs.YtgbliniamkpocaaDoor.Jp
/- The search for keys, one byte at a time: what its mirror says at each kind of byte. -/
namespace Go.Proofs.YtgbliniamkpocaaDoor.Jp
open Go.RowKit Go.Proofs.YtgbliniamkpocaaDoorW.PrintWords Go.Proofs.YtgbliniamkpocaaDoor.Kit

section
variable {S : Sk} {l : List Int} {i : Nat} {lv kl : Int} {lm : Bool}
theorem sk_plain (h : i < l.length) (h1 : gb l i ≠ 34) (h2 : gb l i ≠ 123) (h3 : gb l i ≠ 125) (h4 : gb l i ≠ 91) (h5 : gb l i ≠ 58) : sk S l i lv kl lm = sk S l (i + 1) lv kl lm :=
  sk_inr (r := (i + 1, lv, kl, lm)) h (by unfold skStep; rw [if_neg h1, if_neg h2, if_neg h3, if_neg h4, if_neg h5])
theorem sk_colon (h : i < l.length) (hx : gb l i = 58) : sk S l i lv kl lm = -1 :=
  sk_inl h (by unfold skStep; rw [if_neg (by omega), if_neg (by omega), if_neg (by omega), if_neg (by omega), if_pos hx])
theorem sk_open (h : i < l.length) (hx : gb l i = 123) : sk S l i lv kl true = sk S l (i + 1) (lv + 1) kl true :=
  sk_inr (r := (i + 1, lv + 1, kl, true)) h (by unfold skStep; rw [if_neg (by omega), if_pos hx, if_pos rfl])
theorem sk_over (h : i < l.length) (hx : gb l i = 123) : sk S l i lv kl false = match be l 123 125 i 0 with | none => -1 | some e => sk S l e lv kl false := by
  cases hb : be l 123 125 i 0 with
  | none => exact sk_inl h (by unfold skStep; rw [if_neg (by omega), if_pos hx, if_neg (by simp), hb])
  | some e => exact sk_inr (r := (e, lv, kl, false)) h (by unfold skStep; rw [if_neg (by omega), if_pos hx, if_neg (by simp), hb])
theorem sk_close (h : i < l.length) (hx : gb l i = 125) : sk S l i lv kl lm = sk S l (i + 1) (lv - 1) (if lv - 1 = kl then kl - 1 else kl) lm :=
  sk_inr (r := (i + 1, lv - 1, if lv - 1 = kl then kl - 1 else kl, lm)) h (by unfold skStep; rw [if_neg (by omega), if_neg (by omega), if_pos hx])
theorem sk_index (h : i < l.length) (hx : gb l i = 91) (hk : kl = lv) (hix : S.ix lv.toNat = true) : sk S l i lv kl lm = S.at_ i lv.toNat :=
  sk_inl h (by unfold skStep; rw [if_neg (by omega), if_neg (by omega), if_neg (by omega), if_pos hx, if_pos ⟨hk, hix⟩])
theorem sk_noindex (h : i < l.length) (hx : gb l i = 91) (hk : ¬ (kl = lv ∧ S.ix lv.toNat = true)) : sk S l i lv kl lm = match be l 91 93 i 0 with | none => -1 | some e => sk S l e lv kl lm := by
  cases hb : be l 91 93 i 0 with
  | none => exact sk_inl h (by unfold skStep; rw [if_neg (by omega), if_neg (by omega), if_neg (by omega), if_pos hx, if_neg hk, hb])
  | some e => exact sk_inr (r := (e, lv, kl, lm)) h (by unfold skStep; rw [if_neg (by omega), if_neg (by omega), if_neg (by omega), if_pos hx, if_neg hk, hb])
theorem sk_quno (h : i < l.length) (hx : gb l i = 34) (hq : qe l (i + 1) false = none) : sk S l i lv kl lm = -1 :=
  sk_inl h (by unfold skStep; rw [if_pos hx, hq])
variable {j : Nat}
theorem sk_qend (h : i < l.length) (hx : gb l i = 34) (hq : qe l (i + 1) false = some j) (hb : l.length ≤ bl l j) : sk S l i lv kl lm = -1 :=
  sk_inl h (by unfold skStep; rw [if_pos hx, hq]; simp only; rw [if_neg (by omega)])
theorem sk_qval (h : i < l.length) (hx : gb l i = 34) (hq : qe l (i + 1) false = some j) (hb : bl l j < l.length) (hc : gb l (bl l j) ≠ 58) : sk S l i lv kl lm = sk S l (bl l j) lv kl lm :=
  sk_inr (r := (bl l j, lv, kl, lm)) h (by unfold skStep; rw [if_pos hx, hq]; simp only; rw [if_pos hb, if_neg hc])
theorem sk_qname (h : i < l.length) (hx : gb l i = 34) (hq : qe l (i + 1) false = some j) (hb : bl l j < l.length) (hc : gb l (bl l j) = 58) :
    sk S l i lv kl lm = if lv < 1 then -1 else if S.bad (i + 1) (j - 1) = true then -1 else if lv ≤ S.lk then
      (if S.eq (i + 1) (j - 1) (lv - 1).toNat = true then (if kl = lv - 1 then (if kl + 1 = S.lk then ((bl l j : Nat) + 1 : Int) else sk S l (bl l j + 1) lv (kl + 1) true) else sk S l (bl l j + 1) lv kl true) else sk S l (bl l j + 1) lv kl false) else -1 := by
  by_cases h1 : lv < 1
  · rw [if_pos h1]
    exact sk_inl h (by unfold skStep; rw [if_pos hx, hq]; simp only; rw [if_pos hb, if_pos hc, if_pos h1])
  rw [if_neg h1]
  by_cases h2 : S.bad (i + 1) (j - 1) = true
  · rw [if_pos h2]
    exact sk_inl h (by unfold skStep; rw [if_pos hx, hq]; simp only; rw [if_pos hb, if_pos hc, if_neg h1, if_pos h2])
  rw [if_neg h2]
  by_cases h3 : lv ≤ S.lk
  · rw [if_pos h3]
    by_cases h4 : S.eq (i + 1) (j - 1) (lv - 1).toNat = true
    · rw [if_pos h4]
      by_cases h5 : kl = lv - 1
      · rw [if_pos h5]
        by_cases h6 : kl + 1 = S.lk
        · rw [if_pos h6]
          exact sk_inl h (by unfold skStep; rw [if_pos hx, hq]; simp only; rw [if_pos hb, if_pos hc, if_neg h1, if_neg h2, if_pos h3, if_pos h4, if_pos h5, if_pos h6])
        · rw [if_neg h6]
          exact sk_inr (r := (bl l j + 1, lv, kl + 1, true)) h (by unfold skStep; rw [if_pos hx, hq]; simp only; rw [if_pos hb, if_pos hc, if_neg h1, if_neg h2, if_pos h3, if_pos h4, if_pos h5, if_neg h6])
      · rw [if_neg h5]
        exact sk_inr (r := (bl l j + 1, lv, kl, true)) h (by unfold skStep; rw [if_pos hx, hq]; simp only; rw [if_pos hb, if_pos hc, if_neg h1, if_neg h2, if_pos h3, if_pos h4, if_neg h5])
    · rw [if_neg h4]
      exact sk_inr (r := (bl l j + 1, lv, kl, false)) h (by unfold skStep; rw [if_pos hx, hq]; simp only; rw [if_pos hb, if_pos hc, if_neg h1, if_neg h2, if_pos h3, if_neg h4])
  · rw [if_neg h3]
    exact sk_inl h (by unfold skStep; rw [if_pos hx, hq]; simp only; rw [if_pos hb, if_pos hc, if_neg h1, if_neg h2, if_neg h3])
end
/-- The keys stand at K. -/
def KeysR (w : World) (K : Option Addr) (ks : List ByteArray) : Prop := ReadsOf Value.string ByteArray.empty w K ks.length ks
/-- The search for keys in a text gives z. -/
def F60 (ks : List ByteArray) (M : List Int) (z : Int) : Prop :=
  ∀ (A K : Option Addr) (c ck : Nat) (w : World), ReadsInt w .u8 A M.length M → M.length ≤ c → (∀ x ∈ M, 0 ≤ x ∧ x ≤ 255) → M.length ≤ 140737488351232 → KeysR w K ks → ks.length ≤ ck → Errs w → Vars w →
    Calls Tryd.prog 60 #[cfg, .slice A M.length c, .slice K ks.length ck] w fun e w' => e = .returned (.int .i64 z) ∧ Below w.heap.size w w'
/-- The loop's head. -/
def SkRel (S : Sk) (l : List Int) (g : Nat) (w1 wr : World) (i : Nat) (lv kl : Int) (lm : Bool) : Prop := sk S l 0 0 0 true = sk S l i lv kl lm ∧ Gr g w1 wr
def SkInv (lk i : Nat) (lv kl : Int) : Prop := ((0 ≤ kl ∧ kl < (lk : Int)) ∨ (kl < 0 ∧ kl + 1 ≤ lv)) ∧ -(i : Int) ≤ lv ∧ lv ≤ i ∧ -(i : Int) ≤ kl ∧ kl ≤ i
theorem CfgAt.gr {B g : Nat} {w w1 : World} (h : CfgAt B w) (hg : Gr g w w1) (hB : B ≠ g) : CfgAt B w1 := by
  have hlt : B < w.heap.size := World.block_lt_of_cell? w _ h.1
  exact ⟨(hg.cell hlt hB).trans h.1, (hg.cell hlt hB).trans h.2.1, (hg.cell hlt hB).trans h.2.2⟩
end Go.Proofs.YtgbliniamkpocaaDoor.Jp
/- Contracts of the library at this dump, laid in plain words by the kit's own tool: those that this claim needs. -/
namespace Go.Proofs
open Go.Shelf
def Tryd.lays172_ren : Go.Shelf.Ren := ⟨fun | 172 => 79 | 244 => 92 | 245 => 93 | 247 => 97 | 279 => 98 | 280 => 99 | 281 => 100 | 282 => 101 | 287 => 102 | 316 => 103 | 171 => 105 | 205 => 104 | 321 => 106 | 322 => 107 | 243 => 108 | 246 => 109 | 283 => 110 | 284 => 111 | 285 => 112 | 286 => 113 | 129 => 115 | 317 => 114 | 318 => 116 | 319 => 117 | 320 => 118 | 337 => 119 | 338 => 120 | n => n, fun | 9 => 9 | 3 => 3 | 75 => 59 | 76 => 119 | 4 => 4 | 5 => 5 | 167 => 137 | 37 => 57 | 0 => 0 | 85 => 138 | 2 => 2 | 168 => 140 | 53 => 130 | 175 => 143 | 46 => 136 | 210 => 146 | 127 => 149 | 145 => 152 | 143 => 150 | 21 => 21 | 171 => 154 | 173 => 157 | 212 => 160 | 51 => 129 | 20 => 20 | 213 => 161 | 232 => 164 | 233 => 115 | 80 => 165 | n => n, fun | 15 => 11 | 16 => 12 | 17 => 13 | 18 => 14 | 19 => 15 | n => n⟩
theorem Tryd.lays172 : Go.Proofs.Lays.n172 Tryd.prog Tryd.lays172_ren := {
  mixed := by kernel_rfl
  f129 := Tryd.func115.trans (congrArg some (by kernel_rfl))
  f171 := Tryd.func105.trans (congrArg some (by kernel_rfl))
  f172 := Tryd.func79.trans (congrArg some (by kernel_rfl))
  f205 := Tryd.func104.trans (congrArg some (by kernel_rfl))
  f243 := Tryd.func108.trans (congrArg some (by kernel_rfl))
  f244 := Tryd.func92.trans (congrArg some (by kernel_rfl))
  f245 := Tryd.func93.trans (congrArg some (by kernel_rfl))
  f246 := Tryd.func109.trans (congrArg some (by kernel_rfl))
  f247 := Tryd.func97.trans (congrArg some (by kernel_rfl))
  f279 := Tryd.func98.trans (congrArg some (by kernel_rfl))
  f280 := Tryd.func99.trans (congrArg some (by kernel_rfl))
  f281 := Tryd.func100.trans (congrArg some (by kernel_rfl))
  f282 := Tryd.func101.trans (congrArg some (by kernel_rfl))
  f283 := Tryd.func110.trans (congrArg some (by kernel_rfl))
  f284 := Tryd.func111.trans (congrArg some (by kernel_rfl))
  f285 := Tryd.func112.trans (congrArg some (by kernel_rfl))
  f286 := Tryd.func113.trans (congrArg some (by kernel_rfl))
  f287 := Tryd.func102.trans (congrArg some (by kernel_rfl))
  f316 := Tryd.func103.trans (congrArg some (by kernel_rfl))
  f317 := Tryd.func114.trans (congrArg some (by kernel_rfl))
  f318 := Tryd.func116.trans (congrArg some (by kernel_rfl))
  f319 := Tryd.func117.trans (congrArg some (by kernel_rfl))
  f320 := Tryd.func118.trans (congrArg some (by kernel_rfl))
  f321 := Tryd.func106.trans (congrArg some (by kernel_rfl))
  f322 := Tryd.func107.trans (congrArg some (by kernel_rfl))
  f337 := Tryd.func119.trans (congrArg some (by kernel_rfl))
  f338 := Tryd.func120.trans (congrArg some (by kernel_rfl))
  t0 := Tryd.underlying0
  a0 := Tryd.isAgg0
  z0 := Tryd.sizeOf0
  v0 := Tryd.zeroValue0
  t2 := Tryd.underlying2
  a2 := Tryd.isAgg2
  z2 := Tryd.sizeOf2
  v2 := Tryd.zeroValue2
  t3 := Tryd.underlying3
  a3 := Tryd.isAgg3
  z3 := Tryd.sizeOf3
  v3 := Tryd.zeroValue3
  t4 := Tryd.underlying4
  a4 := Tryd.isAgg4
  z4 := Tryd.sizeOf4
  v4 := Tryd.zeroValue4
  t5 := Tryd.underlying5
  a5 := Tryd.isAgg5
  z5 := Tryd.sizeOf5
  v5 := Tryd.zeroValue5
  t9 := Tryd.underlying9
  a9 := Tryd.isAgg9
  z9 := Tryd.sizeOf9
  v9 := Tryd.zeroValue9
  t20 := Tryd.underlying20
  a20 := Tryd.isAgg20
  z20 := Tryd.sizeOf20
  v20 := Tryd.zeroValue20
  t21 := Tryd.underlying21
  a21 := Tryd.isAgg21
  z21 := Tryd.sizeOf21
  v21 := Tryd.zeroValue21
  t37 := Tryd.underlying57
  a37 := Tryd.isAgg57
  z37 := Tryd.sizeOf57
  v37 := Tryd.zeroValue57
  t46 := Tryd.underlying136
  a46 := Tryd.isAgg136
  z46 := Tryd.sizeOf136
  v46 := Tryd.zeroValue136
  t51 := Tryd.underlying129
  a51 := Tryd.isAgg129
  z51 := Tryd.sizeOf129
  v51 := Tryd.zeroValue129
  t53 := Tryd.underlying130
  a53 := Tryd.isAgg130
  z53 := Tryd.sizeOf130
  v53 := Tryd.zeroValue130
  t75 := Tryd.underlying59
  a75 := Tryd.isAgg59
  z75 := Tryd.sizeOf59
  v75 := Tryd.zeroValue59
  t76 := Tryd.underlying119
  a76 := Tryd.isAgg119
  z76 := Tryd.sizeOf119
  v76 := Tryd.zeroValue119
  t85 := Tryd.underlying138
  a85 := Tryd.isAgg138
  z85 := Tryd.sizeOf138
  v85 := Tryd.zeroValue138
  t127 := Tryd.underlying149
  a127 := Tryd.isAgg149
  z127 := Tryd.sizeOf149
  v127 := Tryd.zeroValue149
  t143 := Tryd.underlying150
  a143 := Tryd.isAgg150
  z143 := Tryd.sizeOf150
  v143 := Tryd.zeroValue150
  t145 := Tryd.underlying152
  a145 := Tryd.isAgg152
  z145 := Tryd.sizeOf152
  v145 := Tryd.zeroValue152
  t167 := Tryd.underlying137
  a167 := Tryd.isAgg137
  z167 := Tryd.sizeOf137
  v167 := Tryd.zeroValue137
  t168 := Tryd.underlying140
  a168 := Tryd.isAgg140
  z168 := Tryd.sizeOf140
  v168 := Tryd.zeroValue140
  t171 := Tryd.underlying154
  a171 := Tryd.isAgg154
  z171 := Tryd.sizeOf154
  v171 := Tryd.zeroValue154
  t173 := Tryd.underlying157
  a173 := Tryd.isAgg157
  z173 := Tryd.sizeOf157
  v173 := Tryd.zeroValue157
  t175 := Tryd.underlying143
  a175 := Tryd.isAgg143
  z175 := Tryd.sizeOf143
  v175 := Tryd.zeroValue143
  t210 := Tryd.underlying146
  a210 := Tryd.isAgg146
  z210 := Tryd.sizeOf146
  v210 := Tryd.zeroValue146
  t212 := Tryd.underlying160
  a212 := Tryd.isAgg160
  z212 := Tryd.sizeOf160
  v212 := Tryd.zeroValue160
  t213 := Tryd.underlying161
  a213 := Tryd.isAgg161
  z213 := Tryd.sizeOf161
  t232 := Tryd.underlying164
  a232 := Tryd.isAgg164
  z232 := Tryd.sizeOf164
  v232 := Tryd.zeroValue164
  t233 := Tryd.underlying115
  a233 := Tryd.isAgg115
  z233 := Tryd.sizeOf115
  v233 := Tryd.zeroValue115
  g15 := by kernel_rfl
  g16 := by kernel_rfl
  g17 := by kernel_rfl
  g18 := by kernel_rfl
  g19 := by kernel_rfl }
open Go.RowKit in
theorem Tryd.strconv_Atoi (s : ByteArray) (n : Int) (hl : s.size ≤ 18) (h : Lib.atoi s.data.toList = some n) (w : World) :
    Calls Tryd.prog 79 #[.string s] w fun e w' => e = .returned (.tuple #[.int .i64 n, .nilIface]) ∧ ∃ t, w' = Lib.bytesWorld w 5 t := Any.strconv_Atoi Tryd.lays172 s n hl h w
end Go.Proofs
/- strconv.Atoi of the digits of a key "[k]". -/
namespace Go.Proofs.YtgbliniamkpocaaDoor.Jp
open Go.RowKit Go.Proofs.YtgbliniamkpocaaDoorW.PrintWords Go.Proofs.YtgbliniamkpocaaDoor.Kit

theorem dec_from : ∀ (m : List UInt8) (acc : Nat), (∀ x ∈ m, 48 ≤ x.toNat ∧ x.toNat ≤ 57) → Lib.decFrom acc m = some ((m.map fun c => (c.toNat : Int)).foldl (fun a c => 10 * a + (c - 48).toNat) acc)
  | [], acc, _ => rfl
  | x :: m, acc, h => by
    have hx := h x (by simp)
    have hd : Lib.digitVal x = some (x.toNat - 48) := by
      unfold Lib.digitVal
      simp [hx.1, hx.2]
    rw [Lib.decFrom, hd]
    simp only [List.map_cons, List.foldl_cons]
    rw [dec_from m _ (fun y hy => h y (by simp [hy]))]
    congr 2
    omega
theorem ext_list (s : ByteArray) : (s.extract 1 (s.size - 1)).data.toList = (s.data.toList.take (s.size - 1)).drop 1 := by
  simp [ByteArray.data_extract, List.drop_take]
theorem nums_cut (s : ByteArray) : cutI (Kit.nums s) 1 ((Kit.nums s).length - 1) = ((s.data.toList.take (s.size - 1)).drop 1).map fun c => (c.toNat : Int) := by
  unfold cutI Kit.nums
  simp [List.map_take]
theorem nums_len (s : ByteArray) : (Kit.nums s).length = s.size := by simp [Kit.nums]
theorem atoi_brk {s : ByteArray} {k : Nat} (h : Brk (Kit.nums s) k) : Lib.atoi (s.extract 1 (s.size - 1)).data.toList = some (k : Int) ∧ (s.extract 1 (s.size - 1)).size ≤ 18 := by
  obtain ⟨h1, h2, _, _, h5, h6⟩ := h
  rw [nums_len] at h1 h2
  rw [nums_cut] at h5 h6
  have hl : ((s.data.toList.take (s.size - 1)).drop 1).length = s.size - 2 := by simp; omega
  refine ⟨?_, by simp; omega⟩
  rw [ext_list]
  obtain ⟨b, r, hbr⟩ : ∃ b r, (s.data.toList.take (s.size - 1)).drop 1 = b :: r := by
    cases hm : (s.data.toList.take (s.size - 1)).drop 1 with
    | nil => rw [hm] at hl; simp at hl; omega
    | cons b r => exact ⟨b, r, rfl⟩
  have hall : ∀ x ∈ b :: r, 48 ≤ x.toNat ∧ x.toNat ≤ 57 := by
    intro x hx
    rw [← hbr] at hx
    have := h5 (x.toNat : Int) (List.mem_map.2 ⟨x, hx, rfl⟩)
    omega
  have hd := dec_from (b :: r) 0 hall
  rw [hbr] at h6 ⊢
  have hb := hall b (by simp)
  have e45 : (b == 45) = false := by
    rw [beq_eq_false_iff_ne]
    intro h
    rw [h] at hb
    simp at hb
  have e43 : (b == 43) = false := by
    rw [beq_eq_false_iff_ne]
    intro h
    rw [h] at hb
    simp at hb
  unfold Lib.atoi
  simp only [e45, e43, Bool.false_eq_true, if_false]
  unfold Lib.decNat
  unfold decI at h6
  rw [h6] at hd
  simp [hd]
theorem atoi_c {s : ByteArray} {k : Nat} (h : Brk (Kit.nums s) k) (w : World) : Calls Tryd.prog 79 #[.string (s.extract 1 (s.size - 1))] w fun e w' => e = .returned (.tuple #[.int .i64 (k : Int), .nilIface]) ∧ Below w.heap.size w w' := by
  obtain ⟨h1, h2⟩ := atoi_brk h
  refine (Tryd.strconv_Atoi _ _ h2 h1 w).mono ?_
  rintro e w' ⟨rfl, t, rfl⟩
  exact ⟨rfl, Go.Joins.below_bytesWorld _ _ _ _ (Nat.le_refl _)⟩
set_option maxRecDepth 100000 in
/-- keys[n:]. -/
theorem keys_cut (K : Option Addr) (ks : List ByteArray) (ck n : Nat) (hn : n ≤ ks.length) (hc : ks.length ≤ ck) : ∃ K', (∀ W : World, (Instr.slice 26 (.slice K ks.length ck) (some (.int .i64 (n : Int))) none none).run Tryd.prog W = .ok (.slice K' (ks.drop n).length (ck - n)) W) ∧
    ∀ W : World, KeysR W K ks → KeysR W K' (ks.drop n) := by
  obtain ⟨i9, hi9, hsz9⟩ : ∃ i, Tryd.prog.info? 9 = some i ∧ i.size = 1 := ⟨_, rfl, rfl⟩
  obtain ⟨K', h1, h2⟩ := print_cut_of (P := Tryd.prog) Value.string ByteArray.empty 26 9 .i64 Tryd.underlying26 hi9 hsz9 K ks.length ck n hn
  refine ⟨K', fun W => by rw [List.length_drop]; exact h1 W, fun W h => ?_⟩
  unfold KeysR
  rw [List.length_drop]
  exact h2 W ks hc h
theorem elsf_rng {D : List Int} {o : Nat} {es : List (Nat × Nat × Int)} (h : ElsFrom D o es) : ∀ (k b e : Nat) (t : Int), es[k]? = some (b, e, t) → b < e ∧ e ≤ D.length := by
  induction h with
  | last o q e k h1 h2 h3 h4 h5 h6 h7 =>
    intro m b e' t hm
    cases m with
    | zero =>
      simp only [List.getElem?_cons_zero, Option.some.injEq, Prod.mk.injEq] at hm
      obtain ⟨rfl, rfl, rfl⟩ := hm
      omega
    | succ m => simp at hm
  | more o q e k es h1 h2 h3 h4 h5 h6 h7 _ ih =>
    intro m b e' t hm
    cases m with
    | zero =>
      simp only [List.getElem?_cons_zero, Option.some.injEq, Prod.mk.injEq] at hm
      obtain ⟨rfl, rfl, rfl⟩ := hm
      omega
    | succ m => exact ih m b e' t (by simpa using hm)
theorem els_rng {D : List Int} {es : List (Nat × Nat × Int)} (h : Els D es) {k b e : Nat} {t : Int} (hk : es[k]? = some (b, e, t)) : b < e ∧ e ≤ D.length := by
  obtain ⟨_, _, h | h⟩ := h
  · rw [h.2] at hk
    simp at hk
  · exact elsf_rng h.2 k b e t hk
theorem sk_le {S : Sk} {L : List Int} (hat : ∀ i n, S.at_ i n ≤ L.length) : ∀ (d i : Nat) (lv kl : Int) (lm : Bool), L.length - i ≤ d → sk S L i lv kl lm ≤ L.length := by
  intro d
  induction d with
  | zero =>
    intro i lv kl lm hd
    rw [sk_out (by omega)]
    omega
  | succ d ih =>
    intro i lv kl lm hd
    by_cases hi : i < L.length
    · cases hs : skStep S L i lv kl lm with
      | inl r =>
        rw [sk_inl hi hs]
        unfold skStep at hs
        repeat' split at hs
        all_goals first
          | (cases hs; done)
          | (injection hs with hs; subst hs; first | exact hat _ _ | omega)
      | inr r =>
        rw [sk_inr hi hs]
        have := skStep_lt hs
        exact ih _ _ _ _ (by omega)
    · rw [sk_out (by omega)]
      omega
theorem fnd_le {keys : List (List Int)} {L : List Int} {z : Int} (h : Fnd keys L z) : z ≤ L.length := by
  refine Fnd.rec (motive_1 := fun _ L z _ => z ≤ (L.length : Int)) (motive_2 := fun _ L _ _ r _ => r ≤ (L.length : Int)) ?_ ?_ ?_ ?_ ?_ h
  · intro L
    omega
  · intro keys L z at_ _ _ hsk _ ih
    rw [← hsk]
    refine sk_le (fun i n => ?_) _ 0 0 0 true (Nat.le_refl _)
    show at_ i n ≤ _
    by_cases h7 : at_ i n = -7
    · omega
    · exact ih i n h7
  · intro keys L i n k es _ _ _
    omega
  · intro keys L i n k b e t z es _ _ _ _ _ _
    omega
  · intro keys L i n k b e z t es _ hels hk _ ih
    have h1 := els_rng hels hk
    rw [List.length_drop] at h1
    have h2 : (cutI L (i + b) (i + e)).length ≤ e - b := by
      unfold cutI
      rw [List.length_drop, List.length_take]
      omega
    omega
theorem cfg_gq_lt {B g : Nat} {w w1 : World} (h : CfgAt B w) (hg : Gq g w w1) (hB : B < g) : CfgAt B w1 := by
  have hlt : B < w.heap.size := World.block_lt_of_cell? w _ h.1
  have hb : w1.heap[B]? = w.heap[B]? := hg.block B hlt (by omega) (by omega) (by omega)
  exact ⟨(World.cell?_of_block (w := w) hb).trans h.1, (World.cell?_of_block (w := w) hb).trans h.2.1, (World.cell?_of_block (w := w) hb).trans h.2.2⟩
theorem cell_gq {b g : Nat} {w w1 : World} {v : Value} (h : w.cell? ⟨b, 0, none⟩ = some v) (hg : Gq g w w1) (hB : b < g) : w1.cell? ⟨b, 0, none⟩ = some v :=
  (World.cell?_of_block (w := w) (a := ⟨b, 0, none⟩) (hg.block b (World.block_lt_of_cell? w _ h) (by omega) (by omega) (by omega))).trans h
theorem gr_gq {g0 g : Nat} {w1 w5 w6 : World} (h : Gr g0 w1 w5) (hq : Gq g w5 w6) (h1 : w1.heap.size ≤ g) (h2 : g0 < g) : Gr g0 w1 w6 := by
  refine ⟨⟨hq.os.trans h.1.os, hq.tape.trans h.1.tape, hq.output.trans h.1.output, Nat.le_trans h.1.size hq.size, fun k hk hn => (hq.block k (Nat.lt_of_lt_of_le hk h.1.size) (by omega) (by omega) (by omega)).trans (h.1.block k hk hn)⟩, fun cs t fr hc => ?_⟩
  obtain ⟨c1, e1, z1⟩ := h.2 cs t fr hc
  exact ⟨c1, (hq.block g0 (Array.getElem?_eq_some_iff.1 e1).1 (by omega) (by omega) (by omega)).trans e1, z1⟩
theorem ixr_inv {keys : List (List Int)} {l : List Int} {i n : Nat} {z : Int} (h : Ixr keys l i n z) : ∃ k es, Brk (keys.getD n []) k ∧ Els (l.drop i) es ∧
    (es.length ≤ k ∧ z = -1 ∨ ∃ b e t z2, es[k]? = some (b, e, t) ∧ Fnd (keys.drop (n + 1)) (cutI l (i + b) (i + e)) z2 ∧ (z2 < 0 ∧ z = -1 ∨ 0 ≤ z2 ∧ z = (i : Int) + b + z2)) := by
  cases h with
  | far _ _ _ _ k es h1 h2 h3 => exact ⟨k, es, h1, h2, .inl ⟨h3, rfl⟩⟩
  | miss _ _ _ _ k b e t z2 es h1 h2 h3 h4 h5 => exact ⟨k, es, h1, h2, .inr ⟨b, e, t, z2, h3, h4, .inl ⟨h5, rfl⟩⟩⟩
  | at_ _ _ _ _ k b e z2 t es h1 h2 h3 h4 => exact ⟨k, es, h1, h2, .inr ⟨b, e, t, z2, h3, h4, .inr ⟨by omega, by push_cast; rfl⟩⟩⟩
end Go.Proofs.YtgbliniamkpocaaDoor.Jp
