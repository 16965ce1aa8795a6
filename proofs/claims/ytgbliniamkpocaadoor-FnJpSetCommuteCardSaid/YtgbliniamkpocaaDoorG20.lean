/- Texts of this claim, laid together. -/
import Derived.Test.YtgbliniamkpocaaDoorG18
import Derived.Test.YtgbliniamkpocaaDoorJpGn
import Derived.Test.YtgbliniamkpocaaDoorG19
/- jpKind, spec.Raw, jpTold, walked by hand. -/
namespace Go.Proofs.YtgbliniamkpocaaDoor.Jp
open Go.RowKit Go.Proofs.YtgbliniamkpocaaDoorW.PrintWords Go.Proofs.YtgbliniamkpocaaDoor.Kit Go.Proofs.YtgbliniamkpocaaDoor.Pure Go.Proofs.YtgbliniamkpocaaDoor.PPl

set_option maxHeartbeats 4000000 in
theorem jk_c (k : Int) (w : World) : Calls Tryd.prog 36 #[.int .i64 k] w fun e w' => e = .returned (.int .i64 (jk k)) ∧ w' = w := by
  by_cases h4 : k = 4
  · subst h4; go_enter Tryd.func36, Tryd.ntmps36; go_wp2; go_ret; exact ⟨rfl, rfl⟩
  by_cases h3 : k = 3
  · subst h3; go_enter Tryd.func36, Tryd.ntmps36; go_wp2; go_ret; exact ⟨rfl, rfl⟩
  by_cases h6 : k = 6
  · subst h6; go_enter Tryd.func36, Tryd.ntmps36; go_wp2; go_ret; exact ⟨rfl, rfl⟩
  by_cases h5 : k = 5
  · subst h5; go_enter Tryd.func36, Tryd.ntmps36; go_wp2; go_ret; exact ⟨rfl, rfl⟩
  by_cases h2 : k = 2
  · subst h2; go_enter Tryd.func36, Tryd.ntmps36; go_wp2; go_ret; exact ⟨rfl, rfl⟩
  by_cases h1 : k = 1
  · subst h1; go_enter Tryd.func36, Tryd.ntmps36; go_wp2; go_ret; exact ⟨rfl, rfl⟩
  have e : jk k = 6 := by unfold jk; rw [if_neg h4, if_neg h3, if_neg h6, if_neg h5, if_neg (by omega)]
  rw [e]
  have g4 : (k == 4) = false := by simpa using h4
  have g3 : (k == 3) = false := by simpa using h3
  have g6 : (k == 6) = false := by simpa using h6
  have g5 : (k == 5) = false := by simpa using h5
  have g2 : (k == 2) = false := by simpa using h2
  have g1 : (k == 1) = false := by simpa using h1
  clear h4 h3 h6 h5 h2 h1 e
  go_enter Tryd.func36, Tryd.ntmps36
  go_wp2
  go_ret
  exact ⟨rfl, rfl⟩
theorem str_nums (t : ByteArray) : strOfNums (Kit.nums t) = t := by
  have h2 := nums_list.1 (nums_str (byte_rng t))
  rw [ByteArray.toList_eq, ByteArray.toList_eq] at h2
  exact ByteArray.ext (Array.toList_inj.1 h2)
/-- The text of a place. -/
def rawS (s : ByteArray) (k : Int) (b e : Nat) : ByteArray := if k = 4 then s.extract (b + 1) (e - 1) else s.extract b e
theorem raw_str {s : ByteArray} {k : Int} {b e : Nat} (h : b + 2 ≤ e ∨ k ≠ 4) : strOfNums (rawL (Kit.nums s) (jk k) b e) = rawS s k b e := by
  unfold rawL rawS
  by_cases h4 : k = 4
  · subst h4
    rw [if_pos (by decide), if_pos rfl, ← str_nums (s.extract (b + 1) (e - 1)), nums_extract, List.drop_drop, List.drop_take, List.take_take]
    congr 2
    omega
  · have : jk k ≠ 1 := by
      unfold jk
      rw [if_neg h4]
      repeat' split
      all_goals decide
    rw [if_neg this, if_neg h4, ← str_nums (s.extract b e), nums_extract, List.drop_take]
set_option maxHeartbeats 8000000 in
set_option maxRecDepth 100000 in
theorem raw_c (s : ByteArray) (k : Int) (b e : Nat) (A3 A4 : Option Addr) (n3 c3 n4 c4 : Nat) (w : World) (hs : s.size ≤ 1000000000000) (hbe : b ≤ e) (hes : e ≤ s.size) (h4 : k = 4 → b + 2 ≤ e) :
    Calls Tryd.prog 37 #[.string s, .agg #[.int .i64 k, .int .i64 b, .int .i64 e, .slice A3 n3 c3, .slice A4 n4 c4]] w fun r w' => r = .returned (.string (rawS s k b e)) ∧ Below w.heap.size w w' := by
  obtain ⟨W, hW⟩ : ∃ W, W = w.alloc (.cells #[.int .i64 k, .int .i64 b, .int .i64 e, .slice A3 n3 c3, .slice A4 n4 c4] 35) := ⟨_, rfl⟩
  have HX : Hid (Bx W w.heap.size k b e (.slice A3 n3 c3) (.slice A4 n4 c4)) := Lib.hid (by rw [hW]; exact blk_new w _)
  have HB : Hid (Below w.heap.size w W) := Lib.hid (by rw [hW]; exact below_alloc (Below.refl _ _) _)
  have d0 := HX.out.c0
  have d1 := HX.out.c1
  have d2 := HX.out.c2
  have w1 : IntKind.i64.wrap ((b : Int) + 1) = (b : Int) + 1 := by rw [IntKind.wrap_i64]; omega
  have w2 : IntKind.i64.wrap ((e : Int) - 1) = (e : Int) - 1 := by rw [IntKind.wrap_i64]; omega
  by_cases hk : k = 4
  · have hb2 := h4 hk
    subst hk
    have e1 : ((b : Int) + 1).toNat = b + 1 := by omega
    have e2 : ((e : Int) - 1).toNat = e - 1 := by omega
    have x0 := eq_true (show (0 : Int) ≤ (b : Int) + 1 by omega)
    have x1 := eq_true (show (b : Int) + 1 ≤ (e : Int) - 1 by omega)
    have x2 := eq_true (show (e : Int) - 1 ≤ s.size by omega)
    clear h4 hbe hes
    go_enter Tryd.func37, Tryd.ntmps37
    go_upto_region 1 with (fail)
    rw [← hW]
    clear hW
    go_wp2
    go_ret
    exact ⟨rfl, HB.out⟩
  · have a4 : (k == 4) = false := by simpa using hk
    have er : rawS s k b e = s.extract b e := by unfold rawS; rw [if_neg hk]
    rw [er]
    have x0 := eq_true (show (0 : Int) ≤ (b : Int) by omega)
    have x1 := eq_true (show (b : Int) ≤ (e : Int) by omega)
    have x2 := eq_true (show (e : Int) ≤ s.size by omega)
    clear h4 hk er
    go_enter Tryd.func37, Tryd.ntmps37
    go_upto_region 1 with (fail)
    rw [← hW]
    clear hW
    go_wp2
    go_ret
    exact ⟨rfl, HB.out⟩
/-- The eight cells that jpTold reads. -/
def TdS (g : Nat) (v : ByteArray) (kk o k b e : Int) (x3 x4 : Value) (w : World) : Prop :=
  w.cell? ⟨g, 1, none⟩ = some (.string v) ∧ w.cell? ⟨g, 2, none⟩ = some (.int .i64 kk) ∧ w.cell? ⟨g, 3, none⟩ = some (.int .i64 o) ∧
  w.cell? ⟨g + 1, 0, none⟩ = some (.int .i64 k) ∧ w.cell? ⟨g + 1, 1, none⟩ = some (.int .i64 b) ∧ w.cell? ⟨g + 1, 2, none⟩ = some (.int .i64 e) ∧ w.cell? ⟨g + 1, 3, none⟩ = some x3 ∧ w.cell? ⟨g + 1, 4, none⟩ = some x4
theorem TdS.below {g : Nat} {v : ByteArray} {kk o k b e : Int} {x3 x4 : Value} {w w1 : World} (h : TdS g v kk o k b e x3 x4 w) (hb : Below w.heap.size w w1) : TdS g v kk o k b e x3 x4 w1 := by
  obtain ⟨a1, a2, a3, b0, b1, b2, b3, b4⟩ := h
  exact ⟨pw_cell_below hb a1, pw_cell_below hb a2, pw_cell_below hb a3, pw_cell_below hb b0, pw_cell_below hb b1, pw_cell_below hb b2, pw_cell_below hb b3, pw_cell_below hb b4⟩
set_option maxHeartbeats 16000000 in
set_option maxRecDepth 100000 in
theorem told_c (s : ByteArray) (k : Int) (b e : Nat) (A3 A4 : Option Addr) (n3 c3 n4 c4 : Nat) (d : ByteArray) (w : World) (hs : s.size ≤ 1000000000000) (hbe : b ≤ e) (hes : e ≤ s.size) (h4 : k = 4 → b + 2 ≤ e) :
    Calls Tryd.prog 21 #[.agg #[.string d, .string (rawS s k b e), .int .i64 (jk k), .int .i64 e], .string s, .agg #[.int .i64 k, .int .i64 b, .int .i64 e, .slice A3 n3 c3, .slice A4 n4 c4]] w fun r w' => r = .returned (.bool true) ∧ Below w.heap.size w w' := by
  have HR := Lib.hid (fun w1 => raw_c s k b e A3 A4 n3 c3 n4 c4 w1 hs hbe hes h4)
  have HJ := Lib.hid (fun w1 => jk_c k w1)
  obtain ⟨v, hv⟩ : ∃ v, rawS s k b e = v := ⟨_, rfl⟩
  obtain ⟨kk, hkk⟩ : ∃ kk, jk k = kk := ⟨_, rfl⟩
  rw [hv] at HR ⊢
  rw [hkk] at HJ ⊢
  clear hv hkk hs hbe hes h4
  obtain ⟨W, hW⟩ : ∃ W, W = (w.alloc (.cells #[.string d, .string v, .int .i64 kk, .int .i64 e] 39)).alloc (.cells #[.int .i64 k, .int .i64 b, .int .i64 e, .slice A3 n3 c3, .slice A4 n4 c4] 35) := ⟨_, rfl⟩
  have hB : Below w.heap.size w W := by rw [hW]; exact below_alloc (below_alloc (Below.refl _ _) _) _
  have h39 : W.heap[w.heap.size]? = some (.cells #[.string d, .string v, .int .i64 kk, .int .i64 e] 39 (0, 0)) := by rw [hW]; exact blk_alloc (blk_new w _) _
  have h35 : Bx W (w.heap.size + 1) k b e (.slice A3 n3 c3) (.slice A4 n4 c4) := by
    rw [hW]
    have := blk_new (w.alloc (.cells #[.string d, .string v, .int .i64 kk, .int .i64 e] 39)) (.cells #[.int .i64 k, .int .i64 b, .int .i64 e, .slice A3 n3 c3, .slice A4 n4 c4] 35)
    rw [alloc_size] at this
    exact this
  have hT : TdS w.heap.size v kk e k b e (.slice A3 n3 c3) (.slice A4 n4 c4) W := ⟨(blk_cell h39 1).trans rfl, (blk_cell h39 2).trans rfl, (blk_cell h39 3).trans rfl, h35.c0, h35.c1, h35.c2, h35.c3, h35.c4⟩
  have HB := Lib.hid hB
  clear h39 h35 hB
  go_enter Tryd.func21, Tryd.ntmps21
  go_upto_region 1 with (fail)
  rw [← hW]
  clear hW
  have hTd : TdS w.heap.size v kk e k b e (.slice A3 n3 c3) (.slice A4 n4 c4) W.drew := hT
  have kp0 : Below W.heap.size W W.drew := (Below.refl _ _).drew
  clear hT
  unfold TdS at hTd
  obtain ⟨a1, a2, a3, b0, b1, b2, b3, b4⟩ := hTd
  go_region_held3 (fun w' => w'.cell? ⟨w.heap.size, 1, none⟩ = some (.string v) ∧ w'.cell? ⟨w.heap.size, 2, none⟩ = some (.int .i64 kk) ∧ w'.cell? ⟨w.heap.size, 3, none⟩ = some (.int .i64 e) ∧ w'.cell? ⟨w.heap.size + 1, 0, none⟩ = some (.int .i64 k) ∧ w'.cell? ⟨w.heap.size + 1, 1, none⟩ = some (.int .i64 b) ∧ w'.cell? ⟨w.heap.size + 1, 2, none⟩ = some (.int .i64 e) ∧ w'.cell? ⟨w.heap.size + 1, 3, none⟩ = some (.slice A3 n3 c3) ∧ w'.cell? ⟨w.heap.size + 1, 4, none⟩ = some (.slice A4 n4 c4) ∧ Below W.heap.size W w')
    (first | exact ⟨a1, a2, a3, b0, b1, b2, b3, b4, kp0⟩ | exact ⟨p1, p2, p3, q0, q1, q2, q3, q4, kp2⟩)
    (first | (go_at_call 36; (with_reducible refine (HJ.out _).mono ?_); rintro e2 w2 ⟨rfl, rfl⟩) | (go_at_call 37; (with_reducible refine (HR.out _).mono ?_); rintro e2 w2 ⟨rfl, hb2⟩; obtain ⟨p1, p2, p3, q0, q1, q2, q3, q4⟩ := TdS.below (g := w.heap.size) (w := W.drew) ⟨a1, a2, a3, b0, b1, b2, b3, b4⟩ hb2; have kp2 := below_step (w := W) (W := W.drew) kp0 hb2))
  go_wp2
  go_ret
  exact ⟨by simp, below_step HB.out kp2⟩
end Go.Proofs.YtgbliniamkpocaaDoor.Jp
/- jpPart: do two lists of keys part. -/
namespace Go.Proofs.YtgbliniamkpocaaDoor.Jp
open Go.RowKit Go.Proofs.YtgbliniamkpocaaDoorW.PrintWords Go.Proofs.YtgbliniamkpocaaDoor.Kit Go.Proofs.YtgbliniamkpocaaDoor.Pure Go.Proofs.YtgbliniamkpocaaDoor.PPl

theorem prt_sym : ∀ (a b : List (List Int)), prt a b = prt b a := by
  intro a
  induction a with
  | nil => intro b; cases b <;> simp [prt]
  | cons x r ih =>
    intro b
    cases b with
    | nil => simp [prt]
    | cons y s =>
      unfold prt
      by_cases h : x = y
      · subst h
        rw [if_pos rfl, if_pos rfl, ih]
      · rw [if_neg h, if_neg (fun e => h e.symm)]
theorem prt_ne {a b : List (List Int)} (h : prt a b = true) : a ≠ [] := by
  rintro rfl
  unfold prt at h
  cases h
theorem map_drop {ks : List ByteArray} {i : Nat} (h : i < ks.length) : (ks.map Kit.nums).drop i = Kit.nums (rdOf ByteArray.empty ks (i : Int)) :: (ks.map Kit.nums).drop (i + 1) := by
  rw [List.drop_eq_getElem_cons (by rw [List.length_map]; exact h), List.getElem_map]
  congr 2
  simp [rdOf, h]
set_option maxHeartbeats 4000000 in
set_option maxRecDepth 100000 in
theorem part_c (K K2 : Option Addr) (ck ck2 : Nat) (ks other : List ByteArray) (w : World) (hK : KeysR w K ks) (hK2 : KeysR w K2 other) :
    Calls Tryd.prog 22 #[.slice K ks.length ck, .slice K2 other.length ck2] w fun e w' => e = .returned (.bool (prt (ks.map Kit.nums) (other.map Kit.nums))) ∧ Below w.heap.size w w' := by
  have hkl : ks.length ≤ 9223372036854775807 := hK.2.1
  have hkl2 : other.length ≤ 9223372036854775807 := hK2.2.1
  obtain ⟨R, hR⟩ : ∃ R, prt (ks.map Kit.nums) (other.map Kit.nums) = R := ⟨_, rfl⟩
  rw [hR]
  have HK := Lib.hid hK
  have HK2 := Lib.hid hK2
  have HR := Lib.hid hR
  clear hK hK2 hR
  go_enter Tryd.func22, Tryd.ntmps22
  go_wp2
  go_loopw [5] (fun v wc => ∃ i : Nat, i ≤ ks.length ∧ i ≤ other.length ∧ v = .int .i64 i ∧ Hid (prt ((ks.map Kit.nums).drop i) ((other.map Kit.nums).drop i) = R) ∧ Hid (Below w.heap.size w wc)) (fun v _ => ks.length - (intOf v).toNat)
  case atStart => exact ⟨0, Nat.zero_le _, Nat.zero_le _, rfl, HR, Lib.hid (Below.refl _ _)⟩
  case round =>
    clear HR
    obtain ⟨i, hi, hi2, rfl, HP, HB⟩ := hrel
    have HKc := Lib.hid (HK.out.below HB.out)
    have HKc2 := Lib.hid (HK2.out.below HB.out)
    by_cases hlt : i < ks.length
    · by_cases hlt2 : i < other.length
      · obtain ⟨kad, rfl, hcell⟩ := HKc.out.at_ (i : Int) (by omega) (by omega)
        obtain ⟨kad2, rfl, hcell2⟩ := HKc2.out.at_ (i : Int) (by omega) (by omega)
        have hp := HP.out
        rw [map_drop hlt, map_drop hlt2] at hp
        obtain ⟨s, hs⟩ : ∃ s, rdOf ByteArray.empty ks (i : Int) = s := ⟨_, rfl⟩
        obtain ⟨s2, hs2⟩ : ∃ s, rdOf ByteArray.empty other (i : Int) = s := ⟨_, rfl⟩
        rw [hs, Int.toNat_natCast] at hcell
        rw [hs2, Int.toNat_natCast] at hcell2
        rw [hs, hs2] at hp
        unfold prt at hp
        clear hs hs2 HKc HKc2 HP
        by_cases he : s = s2
        · subst he
          rw [if_pos rfl] at hp
          have HP := Lib.hid hp
          clear hp
          go_upto_region 4 with (fail)
          go_quiet (fail)
          go_wp2
          go_round
          case rel => exact ⟨i + 1, by omega, by omega, by go_num, HP, Lib.hid (pw_below_drewN HB.out _)⟩
          case measure => simp [intOf]; omega
        · rw [if_neg (fun e => he (by rw [← str_nums s, e, str_nums]))] at hp
          subst hp
          have hne : (s.toList == s2.toList) = false := beq_eq_false_iff_ne.2 (fun h => he (by rw [ByteArray.toList_eq, ByteArray.toList_eq] at h; exact ByteArray.ext (Array.toList_inj.1 h)))
          go_upto_region 4 with (fail)
          go_quiet (fail)
          go_wp2
          go_ret
          exact ⟨rfl, pw_below_drewN HB.out _⟩
      · have hp := HP.out
        rw [show (other.map Kit.nums).drop i = [] from List.drop_eq_nil_of_le (by rw [List.length_map]; omega)] at hp
        have hR : false = R := by rw [← hp]; cases (ks.map Kit.nums).drop i <;> simp [prt]
        subst hR
        clear HP hp HKc HKc2
        go_wp2
        go_ret
        exact ⟨rfl, HB.out⟩
    · have hp := HP.out
      rw [show (ks.map Kit.nums).drop i = [] from List.drop_eq_nil_of_le (by rw [List.length_map]; omega)] at hp
      have hR : false = R := by rw [← hp]; simp [prt]
      subst hR
      clear HP hp HKc HKc2
      go_wp2
      go_ret
      exact ⟨rfl, HB.out⟩
end Go.Proofs.YtgbliniamkpocaaDoor.Jp
