/- Texts of this claim, laid together. -/
import Derived.Test.YtgbliniamkpocaaDoorPureFd
import Derived.Test.YtgbliniamkpocaaDoorG17
import Derived.Test.YtgbliniamkpocaaDoorG18
/- Members and elements of a JSON text's objects and arrays, one behind the other. -/
namespace Go.Proofs.YtgbliniamkpocaaDoor.Pure
open Go.RowKit Go.Proofs.YtgbliniamkpocaaDoor.PPl Go.Proofs.YtgbliniamkpocaaDoor.Jp

/-! ### Members and elements, one behind the other -/
inductive Mb (L : List Int) : Nat → List S72 → List S35 → Nat → Prop
  | last (i j n e : Nat) (p : S35) : at_ L i 34 → st L (i + 1) = some j → at_ L (bl L j) 58 → val L n (bl L (bl L j + 1)) = some (p, e) → at_ L (bl L e) 125 → Mb L i [⟨(i : Int), (j : Int)⟩] [p] (bl L e + 1)
  | more (i j n e z : Nat) (p : S35) (ns : List S72) (ks : List S35) : at_ L i 34 → st L (i + 1) = some j → at_ L (bl L j) 58 → val L n (bl L (bl L j + 1)) = some (p, e) → at_ L (bl L e) 44 → Mb L (bl L (bl L e + 1)) ns ks z → Mb L i (⟨(i : Int), (j : Int)⟩ :: ns) (p :: ks) z
inductive Eb (L : List Int) : Nat → List S35 → Nat → Prop
  | last (i n e : Nat) (p : S35) : val L n i = some (p, e) → at_ L (bl L e) 93 → Eb L i [p] (bl L e + 1)
  | more (i n e z : Nat) (p : S35) (ks : List S35) : val L n i = some (p, e) → at_ L (bl L e) 44 → Eb L (bl L (bl L e + 1)) ks z → Eb L i (p :: ks) z
theorem at_ne {L : List Int} {i : Nat} {c d : Int} (h : at_ L i c) (hcd : c ≠ d) : ¬ at_ L i d := fun h2 => hcd (h.2.symm.trans h2.2)
theorem mb_of {L : List Int} : ∀ (n i : Nat) (ns : List S72) (ks : List S35) (r : List S72 × List S35 × Nat), mems L n i ns ks = some r → ∃ ns' ks', r.1 = ns ++ ns' ∧ r.2.1 = ks ++ ks' ∧ Mb L i ns' ks' r.2.2 := by
  intro n
  induction n with
  | zero => intro i ns ks r h; simp [mems] at h
  | succ n ih =>
    intro i ns ks r h
    rw [mems] at h
    split at h
    case isFalse => cases h
    case isTrue h34 =>
    split at h
    · cases h
    rename_i j hj
    split at h
    case isFalse => cases h
    case isTrue h58 =>
    split at h
    · cases h
    rename_i p e hv
    split at h
    · rename_i h125
      injection h with h
      subst h
      exact ⟨_, _, rfl, rfl, .last i j n e p h34 hj h58 hv h125⟩
    split at h
    · rename_i h44
      obtain ⟨ns', ks', e1, e2, hM⟩ := ih _ _ _ _ h
      exact ⟨_, _, by rw [e1, List.append_assoc]; rfl, by rw [e2, List.append_assoc]; rfl, .more i j n e _ p ns' ks' h34 hj h58 hv h44 hM⟩
    · cases h
theorem Mb.mems {L : List Int} {i z : Nat} {ns' : List S72} {ks' : List S35} (h : Mb L i ns' ks' z) : ∀ (ns : List S72) (ks : List S35), ∃ n, mems L n i ns ks = some (ns ++ ns', ks ++ ks', z) := by
  induction h with
  | last i j n e p h34 hj h58 hv h125 =>
    intro ns ks
    refine ⟨n + 1, ?_⟩
    rw [Pure.mems, if_pos h34, hj]
    simp only
    rw [if_pos h58, hv]
    simp only
    rw [if_pos h125]
  | more i j n e z p ns1 ks1 h34 hj h58 hv h44 _ ih =>
    intro ns ks
    obtain ⟨m, hm⟩ := ih (ns ++ [⟨(i : Int), (j : Int)⟩]) (ks ++ [p])
    refine ⟨max n m + 1, ?_⟩
    rw [Pure.mems, if_pos h34, hj]
    simp only
    rw [if_pos h58, val_up hv (Nat.le_max_left n m)]
    simp only
    rw [if_neg (at_ne h44 (by decide)), if_pos h44, mems_up hm (Nat.le_max_right n m)]
    simp
theorem eb_of {L : List Int} : ∀ (n i : Nat) (ks : List S35) (r : List S35 × Nat), elts L n i ks = some r → ∃ ks', r.1 = ks ++ ks' ∧ Eb L i ks' r.2 := by
  intro n
  induction n with
  | zero => intro i ks r h; simp [elts] at h
  | succ n ih =>
    intro i ks r h
    rw [elts] at h
    split at h
    · cases h
    rename_i p e hv
    split at h
    · rename_i h93
      injection h with h
      subst h
      exact ⟨_, rfl, .last i n e p hv h93⟩
    split at h
    · rename_i h44
      obtain ⟨ks', e2, hM⟩ := ih _ _ _ h
      exact ⟨_, by rw [e2, List.append_assoc]; rfl, .more i n e _ p ks' hv h44 hM⟩
    · cases h
theorem Eb.elts {L : List Int} {i z : Nat} {ks' : List S35} (h : Eb L i ks' z) : ∀ (ks : List S35), ∃ n, elts L n i ks = some (ks ++ ks', z) := by
  induction h with
  | last i n e p hv h93 =>
    intro ks
    refine ⟨n + 1, ?_⟩
    rw [Pure.elts, hv]
    simp only
    rw [if_pos h93]
  | more i n e z p ks1 hv h44 _ ih =>
    intro ks
    obtain ⟨m, hm⟩ := ih (ks ++ [p])
    refine ⟨max n m + 1, ?_⟩
    rw [Pure.elts, val_up hv (Nat.le_max_left n m)]
    simp only
    rw [if_neg (at_ne h44 (by decide)), if_pos h44, elts_up hm (Nat.le_max_right n m)]
    simp
theorem Mb.val {L : List Int} {i z : Nat} {ns : List S72} {ks : List S35} (h : Mb L (bl L (i + 1)) ns ks z) (ha : at_ L i 123) : ∃ n, val L n i = some (⟨6, (i : Int), (z : Int), ns, ks⟩, z) := by
  obtain ⟨n, hn⟩ := h.mems [] []
  have h34 : at_ L (bl L (i + 1)) 34 := by cases h <;> assumption
  refine ⟨n + 2, ?_⟩
  rw [Pure.val, if_pos ha, mem0, if_neg (at_ne h34 (by decide)), hn]
  simp
theorem val_no93 {L : List Int} {n i : Nat} {r : S35 × Nat} (hi : i ≤ L.length) (h : val L n i = some r) : ¬ at_ L i 93 := by
  intro ha
  cases n with
  | zero => simp [val] at h
  | succ n =>
    have hw : ∀ (c : Int) (w : List Int), c ≠ 93 → ¬ wordE L i (c :: w) := fun c w hc hw => by
      have hle := wordE_le hw hi
      simp only [List.length_cons] at hle
      have := congrArg (fun l => l.getD 0 0) hw
      simp [List.getD, List.getElem?_drop] at this
      have h2 := ha.2
      unfold gb at h2
      rw [List.getD] at h2
      rw [this] at h2
      exact hc h2
    have h93 := ha.2
    rw [val, if_neg (at_ne ha (by decide)), if_neg (at_ne ha (by decide)), if_neg (at_ne ha (by decide)), if_neg (fun h => h.elim (at_ne ha (by decide)) (fun h => by unfold isDig at h; omega)), if_neg (hw _ _ (by decide)), if_neg (hw _ _ (by decide)), if_neg (hw _ _ (by decide))] at h
    cases h
theorem Eb.val {L : List Int} {i z : Nat} {ks : List S35} (h : Eb L (bl L (i + 1)) ks z) (ha : at_ L i 91) : ∃ n, val L n i = some (⟨5, (i : Int), (z : Int), [], ks⟩, z) := by
  obtain ⟨n, hn⟩ := h.elts []
  have hl : bl L (i + 1) ≤ L.length := (bl_le L (i + 1) (by have := ha.1; omega)).2
  have h93 : ¬ at_ L (bl L (i + 1)) 93 := by cases h <;> exact val_no93 hl (by assumption)
  refine ⟨n + 2, ?_⟩
  rw [Pure.val, if_neg (at_ne ha (by decide)), if_pos ha, elt0, if_neg h93, hn]
  simp
/-- Where a member's value lies. -/
theorem Mb.kid {L : List Int} {i z : Nat} {ns : List S72} {ks : List S35} (h : Mb L i ns ks z) : i ≤ L.length → i < z ∧ z ≤ L.length ∧ ∀ (m : Nat) (kid : S35), ks[m]? = some kid → ∃ (b e : Nat), kid.f1 = (b : Int) ∧ kid.f2 = (e : Int) ∧ i < b ∧ b < e ∧ e < z := by
  induction h with
  | last i j n e p h34 hj h58 hv h125 =>
    intro hi
    have hjl := st_le L _ _ _ (Nat.le_refl _) hj
    have hb1 := bl_le L j hjl.2
    have hb2 := bl_le L (bl L j + 1) (by have := h58.1; omega)
    have hve := (v_lt n).1 _ _ _ hb2.2 hv
    have hb3 := bl_le L e hve.2
    have h125l := h125.1
    refine ⟨by omega, by omega, fun m kid hm => ?_⟩
    obtain rfl : p = kid := by
      cases m with
      | zero => simpa using hm
      | succ m => simp at hm
    exact ⟨_, _, (val_pos hv).1, (val_pos hv).2, by omega, by omega, by omega⟩
  | more i j n e z p ns1 ks1 h34 hj h58 hv h44 _ ih =>
    intro hi
    have hjl := st_le L _ _ _ (Nat.le_refl _) hj
    have hb1 := bl_le L j hjl.2
    have hb2 := bl_le L (bl L j + 1) (by have := h58.1; omega)
    have hve := (v_lt n).1 _ _ _ hb2.2 hv
    have hb3 := bl_le L e hve.2
    have h44l := h44.1
    have hb4 := bl_le L (bl L e + 1) (by omega)
    obtain ⟨i1, i2, i3⟩ := ih hb4.2
    refine ⟨by omega, i2, fun m kid hm => ?_⟩
    cases m with
    | zero =>
      obtain rfl : p = kid := by simpa using hm
      exact ⟨_, _, (val_pos hv).1, (val_pos hv).2, by omega, by omega, by omega⟩
    | succ m =>
      obtain ⟨b, e', k1, k2, k3, k4, k5⟩ := i3 m kid (by simpa using hm)
      exact ⟨b, e', k1, k2, by omega, k4, k5⟩
theorem Eb.kid {L : List Int} {i z : Nat} {ks : List S35} (h : Eb L i ks z) : i ≤ L.length → i < z ∧ z ≤ L.length ∧ ∀ (m : Nat) (kid : S35), ks[m]? = some kid → ∃ (b e : Nat), kid.f1 = (b : Int) ∧ kid.f2 = (e : Int) ∧ i ≤ b ∧ b < e ∧ e < z := by
  induction h with
  | last i n e p hv h93 =>
    intro hi
    have hve := (v_lt n).1 _ _ _ hi hv
    have hb3 := bl_le L e hve.2
    have h93l := h93.1
    refine ⟨by omega, by omega, fun m kid hm => ?_⟩
    obtain rfl : p = kid := by
      cases m with
      | zero => simpa using hm
      | succ m => simp at hm
    exact ⟨_, _, (val_pos hv).1, (val_pos hv).2, by omega, by omega, by omega⟩
  | more i n e z p ks1 hv h44 _ ih =>
    intro hi
    have hve := (v_lt n).1 _ _ _ hi hv
    have hb3 := bl_le L e hve.2
    have h44l := h44.1
    have hb4 := bl_le L (bl L e + 1) (by omega)
    obtain ⟨i1, i2, i3⟩ := ih hb4.2
    refine ⟨by omega, i2, fun m kid hm => ?_⟩
    cases m with
    | zero =>
      obtain rfl : p = kid := by simpa using hm
      exact ⟨_, _, (val_pos hv).1, (val_pos hv).2, by omega, by omega, by omega⟩
    | succ m =>
      obtain ⟨b, e', k1, k2, k3, k4, k5⟩ := i3 m kid (by simpa using hm)
      exact ⟨b, e', k1, k2, by omega, k4, k5⟩
end Go.Proofs.YtgbliniamkpocaaDoor.Pure
/- jpKind, spec.Raw, jpTold, walked by hand. -/
namespace Go.Proofs.YtgbliniamkpocaaDoor.Jp
open Go.RowKit Go.Proofs.YtgbliniamkpocaaDoorW.PrintWords Go.Proofs.YtgbliniamkpocaaDoor.Kit Go.Proofs.YtgbliniamkpocaaDoor.Pure Go.Proofs.YtgbliniamkpocaaDoor.PPl

set_option maxHeartbeats 4000000 in
theorem jk_c (k : Int) (w : World) : Calls Tryd.prog 36 #[.int .i64 k] w fun e w' => e = .returned (.int .i64 (jk k)) ∧ w' = w := by
  by_cases h4 : k = 4
  · subst h4; go_enter Tryd.func36, Tryd.ntmps36; go_wp2; go_ret; exact ⟨rfl, rfl⟩
  by_cases h3 : k = 3
  · subst h3; go_enter Tryd.func36, Tryd.ntmps36; go_wp2; go_ret; exact ⟨rfl, rfl⟩
  by_cases h6 : k = 6
  · subst h6; go_enter Tryd.func36, Tryd.ntmps36; go_wp2; go_ret; exact ⟨rfl, rfl⟩
  by_cases h5 : k = 5
  · subst h5; go_enter Tryd.func36, Tryd.ntmps36; go_wp2; go_ret; exact ⟨rfl, rfl⟩
  by_cases h2 : k = 2
  · subst h2; go_enter Tryd.func36, Tryd.ntmps36; go_wp2; go_ret; exact ⟨rfl, rfl⟩
  by_cases h1 : k = 1
  · subst h1; go_enter Tryd.func36, Tryd.ntmps36; go_wp2; go_ret; exact ⟨rfl, rfl⟩
  have e : jk k = 6 := by unfold jk; rw [if_neg h4, if_neg h3, if_neg h6, if_neg h5, if_neg (by omega)]
  rw [e]
  have g4 : (k == 4) = false := by simpa using h4
  have g3 : (k == 3) = false := by simpa using h3
  have g6 : (k == 6) = false := by simpa using h6
  have g5 : (k == 5) = false := by simpa using h5
  have g2 : (k == 2) = false := by simpa using h2
  have g1 : (k == 1) = false := by simpa using h1
  clear h4 h3 h6 h5 h2 h1 e
  go_enter Tryd.func36, Tryd.ntmps36
  go_wp2
  go_ret
  exact ⟨rfl, rfl⟩
theorem str_nums (t : ByteArray) : strOfNums (Kit.nums t) = t := by
  have h2 := nums_list.1 (nums_str (byte_rng t))
  rw [ByteArray.toList_eq, ByteArray.toList_eq] at h2
  exact ByteArray.ext (Array.toList_inj.1 h2)
/-- The text of a place. -/
def rawS (s : ByteArray) (k : Int) (b e : Nat) : ByteArray := if k = 4 then s.extract (b + 1) (e - 1) else s.extract b e
theorem raw_str {s : ByteArray} {k : Int} {b e : Nat} (h : b + 2 ≤ e ∨ k ≠ 4) : strOfNums (rawL (Kit.nums s) (jk k) b e) = rawS s k b e := by
  unfold rawL rawS
  by_cases h4 : k = 4
  · subst h4
    rw [if_pos (by decide), if_pos rfl, ← str_nums (s.extract (b + 1) (e - 1)), nums_extract, List.drop_drop, List.drop_take, List.take_take]
    congr 2
    omega
  · have : jk k ≠ 1 := by
      unfold jk
      rw [if_neg h4]
      repeat' split
      all_goals decide
    rw [if_neg this, if_neg h4, ← str_nums (s.extract b e), nums_extract, List.drop_take]
set_option maxHeartbeats 8000000 in
set_option maxRecDepth 100000 in
theorem raw_c (s : ByteArray) (k : Int) (b e : Nat) (A3 A4 : Option Addr) (n3 c3 n4 c4 : Nat) (w : World) (hs : s.size ≤ 1000000000000) (hbe : b ≤ e) (hes : e ≤ s.size) (h4 : k = 4 → b + 2 ≤ e) :
    Calls Tryd.prog 37 #[.string s, .agg #[.int .i64 k, .int .i64 b, .int .i64 e, .slice A3 n3 c3, .slice A4 n4 c4]] w fun r w' => r = .returned (.string (rawS s k b e)) ∧ Below w.heap.size w w' := by
  obtain ⟨W, hW⟩ : ∃ W, W = w.alloc (.cells #[.int .i64 k, .int .i64 b, .int .i64 e, .slice A3 n3 c3, .slice A4 n4 c4] 35) := ⟨_, rfl⟩
  have HX : Hid (Bx W w.heap.size k b e (.slice A3 n3 c3) (.slice A4 n4 c4)) := Lib.hid (by rw [hW]; exact blk_new w _)
  have HB : Hid (Below w.heap.size w W) := Lib.hid (by rw [hW]; exact below_alloc (Below.refl _ _) _)
  have d0 := HX.out.c0
  have d1 := HX.out.c1
  have d2 := HX.out.c2
  have w1 : IntKind.i64.wrap ((b : Int) + 1) = (b : Int) + 1 := by rw [IntKind.wrap_i64]; omega
  have w2 : IntKind.i64.wrap ((e : Int) - 1) = (e : Int) - 1 := by rw [IntKind.wrap_i64]; omega
  by_cases hk : k = 4
  · have hb2 := h4 hk
    subst hk
    have e1 : ((b : Int) + 1).toNat = b + 1 := by omega
    have e2 : ((e : Int) - 1).toNat = e - 1 := by omega
    have x0 := eq_true (show (0 : Int) ≤ (b : Int) + 1 by omega)
    have x1 := eq_true (show (b : Int) + 1 ≤ (e : Int) - 1 by omega)
    have x2 := eq_true (show (e : Int) - 1 ≤ s.size by omega)
    clear h4 hbe hes
    go_enter Tryd.func37, Tryd.ntmps37
    go_upto_region 1 with (fail)
    rw [← hW]
    clear hW
    go_wp2
    go_ret
    exact ⟨rfl, HB.out⟩
  · have a4 : (k == 4) = false := by simpa using hk
    have er : rawS s k b e = s.extract b e := by unfold rawS; rw [if_neg hk]
    rw [er]
    have x0 := eq_true (show (0 : Int) ≤ (b : Int) by omega)
    have x1 := eq_true (show (b : Int) ≤ (e : Int) by omega)
    have x2 := eq_true (show (e : Int) ≤ s.size by omega)
    clear h4 hk er
    go_enter Tryd.func37, Tryd.ntmps37
    go_upto_region 1 with (fail)
    rw [← hW]
    clear hW
    go_wp2
    go_ret
    exact ⟨rfl, HB.out⟩
/-- The eight cells that jpTold reads. -/
def TdS (g : Nat) (v : ByteArray) (kk o k b e : Int) (x3 x4 : Value) (w : World) : Prop :=
  w.cell? ⟨g, 1, none⟩ = some (.string v) ∧ w.cell? ⟨g, 2, none⟩ = some (.int .i64 kk) ∧ w.cell? ⟨g, 3, none⟩ = some (.int .i64 o) ∧
  w.cell? ⟨g + 1, 0, none⟩ = some (.int .i64 k) ∧ w.cell? ⟨g + 1, 1, none⟩ = some (.int .i64 b) ∧ w.cell? ⟨g + 1, 2, none⟩ = some (.int .i64 e) ∧ w.cell? ⟨g + 1, 3, none⟩ = some x3 ∧ w.cell? ⟨g + 1, 4, none⟩ = some x4
theorem TdS.below {g : Nat} {v : ByteArray} {kk o k b e : Int} {x3 x4 : Value} {w w1 : World} (h : TdS g v kk o k b e x3 x4 w) (hb : Below w.heap.size w w1) : TdS g v kk o k b e x3 x4 w1 := by
  obtain ⟨a1, a2, a3, b0, b1, b2, b3, b4⟩ := h
  exact ⟨pw_cell_below hb a1, pw_cell_below hb a2, pw_cell_below hb a3, pw_cell_below hb b0, pw_cell_below hb b1, pw_cell_below hb b2, pw_cell_below hb b3, pw_cell_below hb b4⟩
set_option maxHeartbeats 16000000 in
set_option maxRecDepth 100000 in
theorem told_c (s : ByteArray) (k : Int) (b e : Nat) (A3 A4 : Option Addr) (n3 c3 n4 c4 : Nat) (d : ByteArray) (w : World) (hs : s.size ≤ 1000000000000) (hbe : b ≤ e) (hes : e ≤ s.size) (h4 : k = 4 → b + 2 ≤ e) :
    Calls Tryd.prog 21 #[.agg #[.string d, .string (rawS s k b e), .int .i64 (jk k), .int .i64 e], .string s, .agg #[.int .i64 k, .int .i64 b, .int .i64 e, .slice A3 n3 c3, .slice A4 n4 c4]] w fun r w' => r = .returned (.bool true) ∧ Below w.heap.size w w' := by
  have HR := Lib.hid (fun w1 => raw_c s k b e A3 A4 n3 c3 n4 c4 w1 hs hbe hes h4)
  have HJ := Lib.hid (fun w1 => jk_c k w1)
  obtain ⟨v, hv⟩ : ∃ v, rawS s k b e = v := ⟨_, rfl⟩
  obtain ⟨kk, hkk⟩ : ∃ kk, jk k = kk := ⟨_, rfl⟩
  rw [hv] at HR ⊢
  rw [hkk] at HJ ⊢
  clear hv hkk hs hbe hes h4
  obtain ⟨W, hW⟩ : ∃ W, W = (w.alloc (.cells #[.string d, .string v, .int .i64 kk, .int .i64 e] 39)).alloc (.cells #[.int .i64 k, .int .i64 b, .int .i64 e, .slice A3 n3 c3, .slice A4 n4 c4] 35) := ⟨_, rfl⟩
  have hB : Below w.heap.size w W := by rw [hW]; exact below_alloc (below_alloc (Below.refl _ _) _) _
  have h39 : W.heap[w.heap.size]? = some (.cells #[.string d, .string v, .int .i64 kk, .int .i64 e] 39 (0, 0)) := by rw [hW]; exact blk_alloc (blk_new w _) _
  have h35 : Bx W (w.heap.size + 1) k b e (.slice A3 n3 c3) (.slice A4 n4 c4) := by
    rw [hW]
    have := blk_new (w.alloc (.cells #[.string d, .string v, .int .i64 kk, .int .i64 e] 39)) (.cells #[.int .i64 k, .int .i64 b, .int .i64 e, .slice A3 n3 c3, .slice A4 n4 c4] 35)
    rw [alloc_size] at this
    exact this
  have hT : TdS w.heap.size v kk e k b e (.slice A3 n3 c3) (.slice A4 n4 c4) W := ⟨(blk_cell h39 1).trans rfl, (blk_cell h39 2).trans rfl, (blk_cell h39 3).trans rfl, h35.c0, h35.c1, h35.c2, h35.c3, h35.c4⟩
  have HB := Lib.hid hB
  clear h39 h35 hB
  go_enter Tryd.func21, Tryd.ntmps21
  go_upto_region 1 with (fail)
  rw [← hW]
  clear hW
  have hTd : TdS w.heap.size v kk e k b e (.slice A3 n3 c3) (.slice A4 n4 c4) W.drew := hT
  have kp0 : Below W.heap.size W W.drew := (Below.refl _ _).drew
  clear hT
  unfold TdS at hTd
  obtain ⟨a1, a2, a3, b0, b1, b2, b3, b4⟩ := hTd
  go_region_held3 (fun w' => w'.cell? ⟨w.heap.size, 1, none⟩ = some (.string v) ∧ w'.cell? ⟨w.heap.size, 2, none⟩ = some (.int .i64 kk) ∧ w'.cell? ⟨w.heap.size, 3, none⟩ = some (.int .i64 e) ∧ w'.cell? ⟨w.heap.size + 1, 0, none⟩ = some (.int .i64 k) ∧ w'.cell? ⟨w.heap.size + 1, 1, none⟩ = some (.int .i64 b) ∧ w'.cell? ⟨w.heap.size + 1, 2, none⟩ = some (.int .i64 e) ∧ w'.cell? ⟨w.heap.size + 1, 3, none⟩ = some (.slice A3 n3 c3) ∧ w'.cell? ⟨w.heap.size + 1, 4, none⟩ = some (.slice A4 n4 c4) ∧ Below W.heap.size W w')
    (first | exact ⟨a1, a2, a3, b0, b1, b2, b3, b4, kp0⟩ | exact ⟨p1, p2, p3, q0, q1, q2, q3, q4, kp2⟩)
    (first | (go_at_call 36; (with_reducible refine (HJ.out _).mono ?_); rintro e2 w2 ⟨rfl, rfl⟩) | (go_at_call 37; (with_reducible refine (HR.out _).mono ?_); rintro e2 w2 ⟨rfl, hb2⟩; obtain ⟨p1, p2, p3, q0, q1, q2, q3, q4⟩ := TdS.below (g := w.heap.size) (w := W.drew) ⟨a1, a2, a3, b0, b1, b2, b3, b4⟩ hb2; have kp2 := below_step (w := W) (W := W.drew) kp0 hb2))
  go_wp2
  go_ret
  exact ⟨by simp, below_step HB.out kp2⟩
end Go.Proofs.YtgbliniamkpocaaDoor.Jp
/- impl.JqAppend at keys that lead to an array. -/
namespace Go.Proofs.YtgbliniamkpocaaDoor.Jp
open Go.RowKit Go.Proofs.YtgbliniamkpocaaDoorW.PrintWords Go.Proofs.YtgbliniamkpocaaDoor.Kit Go.Proofs.YtgbliniamkpocaaDoor.Pure Go.Proofs.YtgbliniamkpocaaDoor.PPl

theorem eb_end {L : List Int} {i z : Nat} {ks : List S35} (h : Eb L i ks z) : 0 < z ∧ at_ L (z - 1) 93 := by
  induction h with
  | last i n e p hv h93 => exact ⟨by omega, by rw [Nat.add_sub_cancel]; exact h93⟩
  | more i n e z p ks1 hv h44 _ ih => exact ih
theorem eb_pos {L : List Int} {i z : Nat} {ks : List S35} (h : Eb L i ks z) : 0 < ks.length := by cases h <;> simp
theorem nums_app (a b : ByteArray) : Kit.nums (a ++ b) = Kit.nums a ++ Kit.nums b := by
  unfold Kit.nums
  simp
/-- The brackets of an array, and whether a token stands between them. -/
theorem arr_ends {L : List Int} {n b e : Nat} {q : S35} (hv : val L n b = some (q, e)) (hb : b ≤ L.length) (h5 : q.f0 = 5) :
    ∃ m, e = m + 1 ∧ b < m ∧ m < L.length ∧ gb L m = 93 ∧ (decide (0 < q.f4.length)) = (nt (cutI L (b + 1) m) != -1) := by
  have hve := (v_lt n).1 _ _ _ hb hv
  obtain ⟨ha, h1⟩ := val_arr hv h5
  have hal := ha.1
  have hbl := bl_le L (b + 1) (by omega)
  rcases h1 with ⟨h4, h93, rfl⟩ | ⟨h93, n2, r, hr, e4, ee⟩
  · refine ⟨bl L (b + 1), rfl, by omega, h93.1, h93.2, ?_⟩
    have hl := cutI_len (L := L) (a := b + 1) (b := bl L (b + 1)) hbl.2
    have : nt (cutI L (b + 1) (bl L (b + 1))) = -1 := by
      unfold nt
      rw [if_neg]
      intro hlt
      have := w_bl (L := L) (b := b + 1) (e := bl L (b + 1)) (z := 0) hbl.1 hbl.2 hlt
      rw [Nat.add_zero] at this
      omega
    rw [this, h4]
    rfl
  · obtain ⟨ks, r2, hM⟩ := eb_of _ _ _ _ hr
    rw [List.nil_append] at r2
    have hk := hM.kid hbl.2
    have he := eb_end hM
    rw [← ee] at he hk
    have hlast := he.2
    have hle := hlast.1
    have hlen : 0 < q.f4.length := by
      rw [← e4, r2]
      exact eb_pos hM
    have hne : bl L (b + 1) ≠ e - 1 := fun e2 => h93 (by rw [e2]; exact hlast)
    have hlt : bl L (b + 1) < e - 1 := by omega
    refine ⟨e - 1, by omega, by omega, hle, hlast.2, ?_⟩
    have hl := cutI_len (L := L) (a := b + 1) (b := e - 1) (by omega)
    have hE : ∀ k, k < (cutI L (b + 1) (e - 1)).length → gb L (k + (b + 1)) = gb (cutI L (b + 1) (e - 1)) k := fun k hk => by
      rw [cutI_gb (by omega), Nat.add_comm]
    have hc := c_bl (L := L) (M := cutI L (b + 1) (e - 1)) (o := b + 1) hE (by omega) _ 0 (Nat.le_refl _) (by omega) (by rw [Nat.zero_add]; omega)
    rw [Nat.zero_add] at hc
    have : nt (cutI L (b + 1) (e - 1)) = (bl (cutI L (b + 1) (e - 1)) 0 : Int) := by
      unfold nt
      rw [if_pos (by omega)]
    rw [this, decide_eq_true hlen]
    symm
    simp <;> omega
set_option maxHeartbeats 8000000 in
set_option maxRecDepth 100000 in
theorem jqapp_c {s v : ByteArray} {ks : List ByteArray} {z b e : Nat} {q : S35} (h : At (Kit.nums s) ks z b e q) (h5 : q.f0 = 5) (hs : s.size ≤ 1000000) (hv : v.size ≤ 1000000) (K : Option Addr) (ck : Nat) (w : World) (hK : KeysR w K ks) (hck : ks.length ≤ ck) (hE : Errs w) (hV : Vars w) :
    Calls Tryd.prog 26 #[.string s, .string v, .slice K ks.length ck] w fun e' w' => e' = .returned (.tuple #[.string (strOfNums (rep (Kit.nums s) (e - 1) (e - 1) ((if decide (0 < q.f4.length) then [44] else []) ++ Kit.nums v))), .bool true]) ∧ Below w.heap.size w w' := by
  obtain ⟨n, hvv⟩ := h.v
  have hzb := bl_le (Kit.nums s) z h.zl
  rw [h.bl] at hzb
  obtain ⟨m, rfl, hbm, hml, h93, hkid⟩ := arr_ends hvv hzb.2 h5
  have hjk : jk q.f0 = 4 := by rw [h5]; rfl
  obtain ⟨kids, hkids⟩ : ∃ kids, decide (0 < q.f4.length) = kids := ⟨_, rfl⟩
  rw [hkids] at hkid ⊢
  obtain ⟨cap, w1, hcv, hR', hcap, hb1⟩ := conv_pack w s
  obtain ⟨cap2, w2, hcv2, hR2', hcap2, hb2⟩ := conv_pack w1 v
  have hR := (hR' (by omega)).below hb2
  have hR2 := hR2' (by omega)
  have hlen := Kit.nums_len s
  have hlen2 := Kit.nums_len v
  have hbw : Below w.heap.size w w2 := hb1.trans (hb2.mono hb1.size)
  have hI := igk_c h (some ⟨w.heap.size, 0, none⟩) K cap ck w2 (by rw [hlen]; exact hR) (by omega) (byte_rng s) (by omega) (hK.below hbw) hck (hE.below hbw) (hV.below hbw)
  rw [hjk] at hI
  have hG := app_c (L := Kit.nums s) (V := Kit.nums v) hbm hml h93 kids hkid (some ⟨w.heap.size, 0, none⟩) (some ⟨w1.heap.size, 0, none⟩) K cap cap2 ks.length ck w2 (by rw [hlen]; exact hR) (by omega) (by omega) (by rw [hlen2]; exact hR2) (by omega) (hV.below hbw).1
    (igetk_c _ K _ cap _ ck w2 _ _ _ _ (hV.below hbw).1 hI)
  rw [hlen, hlen2] at hG
  rw [Nat.add_sub_cancel]
  obtain ⟨R, hRR⟩ : ∃ R, rep (Kit.nums s) m m ((if kids then [44] else []) ++ Kit.nums v) = R := ⟨_, rfl⟩
  rw [hRR] at hG ⊢
  unfold SetV at hG
  have HG := Lib.hid hG
  have HB := Lib.hid hbw
  clear hG hbw hR hR2 hR' hR2' hcap hcap2 hb1 hb2 hlen hlen2 hV hE hK h hRR hI hkid hkids hvv
  go_enter Tryd.func26, Tryd.ntmps26
  go_wp2_with (go_at_call 43; (with_reducible refine HG.out.mono ?_); rintro e w3 ⟨hb3, A3, c3, rfl, r3, hc3⟩; have HB3 := Lib.hid hb3; have hst := string_of_reads (P := Tryd.prog) (src := 57) (dst := 9) (e := 5) (c := c3) Tryd.underlying57 Tryd.underlying5 Tryd.underlying9 r3; clear r3 hb3)
  go_ret2
  exact ⟨rfl, HB.out.trans (HB3.out.mono HB.out.size)⟩
/-- The bytes that Append writes. -/
theorem app_str {s v : ByteArray} {m : Nat} (hm : m ≤ s.size) : strOfNums (rep (Kit.nums s) m m ([44] ++ Kit.nums v)) = s.extract 0 m ++ ⟨#[44]⟩ ++ v ++ s.extract m s.size := by
  rw [← str_nums (s.extract 0 m ++ ⟨#[44]⟩ ++ v ++ s.extract m s.size)]
  congr 1
  unfold rep
  simp only [nums_app, nums_extract]
  have e1 : Kit.nums (ByteArray.mk #[44]) = [44] := rfl
  have hl := nums_len s
  rw [e1, List.drop_zero, Nat.sub_zero, List.take_of_length_le (l := (Kit.nums s).drop m) (by rw [List.length_drop]; omega)]
  simp only [List.append_assoc]
theorem app_str0 {s v : ByteArray} {m : Nat} (hm : m ≤ s.size) : strOfNums (rep (Kit.nums s) m m ([] ++ Kit.nums v)) = s.extract 0 m ++ ⟨#[]⟩ ++ v ++ s.extract m s.size := by
  rw [← str_nums (s.extract 0 m ++ ⟨#[]⟩ ++ v ++ s.extract m s.size)]
  congr 1
  unfold rep
  simp only [nums_app, nums_extract]
  have hl := nums_len s
  have e0 : Kit.nums (ByteArray.mk #[]) = [] := rfl
  rw [e0, List.append_nil, List.drop_zero, Nat.sub_zero, List.take_of_length_le (l := (Kit.nums s).drop m) (by rw [List.length_drop]; omega)]
  simp only [List.append_assoc, List.nil_append]
end Go.Proofs.YtgbliniamkpocaaDoor.Jp
