/- No text that is cut off from the end of an array, an object or a string that is a JSON text is valid, and with blanks ahead and behind a valid text is valid (of at most 2^16 bytes). -/
import Derived.Test.YtphpjboljlkdkaaPureFnGjValidCutA
namespace Go.Proofs.Ytphpjboljlkdkaa.Pure
open Go.RowKit Go.Proofs.Ytphpjboljlkdkaa.PFnGjValidCut Go.Proofs.YtphpjboljlkdkaaW.PrintWords Go.Proofs.YtphpjboljlkdkaaW.PrintLast
/-! ### gjson's check of a value is the plain reader -/
theorem rd_gb (L : List Int) (i : Nat) : rd L (i : Int) = gb L i := by simp [rd, gb]
def GC (g : Nat → Option (Int × Bool)) : Option Nat → Prop
  | some j => Ev g ((j : Int), true)
  | none => ∃ a, Ev g (a, false)
theorem GC.step {g g' : Nat → Option (Int × Bool)} {r : Option Nat} (h : GC g r) (k : ∀ r, Ev g r → Ev g' r) : GC g' r := by
  cases r with
  | none =>
    obtain ⟨a, h⟩ := h
    exact ⟨a, k _ h⟩
  | some j => exact k _ h
theorem pick_true {α : Type} (F : Bool → α) {b : Bool} {P : Prop} [Decidable P] (hb : b = true) (h : P) : F b = F (decide P) := by rw [hb, decide_eq_true h]
theorem pick_last {α : Type} (F : Bool → α) {c x : Int} {P : Prop} [Decidable P] (h : c = x ↔ P) : F (c == x) = F (decide P) := by
  have : (c == x) = decide P := by
    rw [Bool.eq_iff_iff, beq_iff_eq, decide_eq_true_eq]
    exact h
  rw [this]
theorem blank_ite {α : Type} (c : Int) (F : Bool → α) : (if c = 32 then F (c == 32) else if c = 9 then F (c == 9) else if c = 10 then F (c == 10) else F (c == 13)) = F (decide (isBlank c)) := by
  by_cases h32 : c = 32
  · rw [if_pos h32]
    exact pick_true F (beq_iff_eq.mpr h32) (by unfold isBlank; omega)
  rw [if_neg h32]
  by_cases h9 : c = 9
  · rw [if_pos h9]
    exact pick_true F (beq_iff_eq.mpr h9) (by unfold isBlank; omega)
  rw [if_neg h9]
  by_cases h10 : c = 10
  · rw [if_pos h10]
    exact pick_true F (beq_iff_eq.mpr h10) (by unfold isBlank; omega)
  rw [if_neg h10]
  exact pick_last F ⟨fun h => by unfold isBlank; omega, fun h => by unfold isBlank at h; omega⟩
theorem dig_ite {α : Type} (c : Int) (F : Bool → α) : (if c = 45 then F (c == 45) else if c = 48 then F (c == 48) else if c = 49 then F (c == 49) else if c = 50 then F (c == 50) else if c = 51 then F (c == 51) else if c = 52 then F (c == 52) else if c = 53 then F (c == 53) else if c = 54 then F (c == 54) else if c = 55 then F (c == 55) else if c = 56 then F (c == 56) else F (c == 57)) = F (decide (c = 45 ∨ isDig c)) := by
  by_cases h45 : c = 45
  · rw [if_pos h45]
    exact pick_true F (beq_iff_eq.mpr h45) (by unfold isDig; omega)
  rw [if_neg h45]
  by_cases h48 : c = 48
  · rw [if_pos h48]
    exact pick_true F (beq_iff_eq.mpr h48) (by unfold isDig; omega)
  rw [if_neg h48]
  by_cases h49 : c = 49
  · rw [if_pos h49]
    exact pick_true F (beq_iff_eq.mpr h49) (by unfold isDig; omega)
  rw [if_neg h49]
  by_cases h50 : c = 50
  · rw [if_pos h50]
    exact pick_true F (beq_iff_eq.mpr h50) (by unfold isDig; omega)
  rw [if_neg h50]
  by_cases h51 : c = 51
  · rw [if_pos h51]
    exact pick_true F (beq_iff_eq.mpr h51) (by unfold isDig; omega)
  rw [if_neg h51]
  by_cases h52 : c = 52
  · rw [if_pos h52]
    exact pick_true F (beq_iff_eq.mpr h52) (by unfold isDig; omega)
  rw [if_neg h52]
  by_cases h53 : c = 53
  · rw [if_pos h53]
    exact pick_true F (beq_iff_eq.mpr h53) (by unfold isDig; omega)
  rw [if_neg h53]
  by_cases h54 : c = 54
  · rw [if_pos h54]
    exact pick_true F (beq_iff_eq.mpr h54) (by unfold isDig; omega)
  rw [if_neg h54]
  by_cases h55 : c = 55
  · rw [if_pos h55]
    exact pick_true F (beq_iff_eq.mpr h55) (by unfold isDig; omega)
  rw [if_neg h55]
  by_cases h56 : c = 56
  · rw [if_pos h56]
    exact pick_true F (beq_iff_eq.mpr h56) (by unfold isDig; omega)
  rw [if_neg h56]
  exact pick_last F ⟨fun h => by unfold isDig; omega, fun h => by unfold isDig at h; omega⟩
theorem short_ite {α : Type} (c : Int) (F : Bool → α) : (if c = 34 then F (c == 34) else if c = 92 then F (c == 92) else if c = 47 then F (c == 47) else if c = 98 then F (c == 98) else if c = 102 then F (c == 102) else if c = 110 then F (c == 110) else if c = 114 then F (c == 114) else F (c == 116)) = F (decide (isShort c)) := by
  by_cases h34 : c = 34
  · rw [if_pos h34]
    exact pick_true F (beq_iff_eq.mpr h34) (by unfold isShort; omega)
  rw [if_neg h34]
  by_cases h92 : c = 92
  · rw [if_pos h92]
    exact pick_true F (beq_iff_eq.mpr h92) (by unfold isShort; omega)
  rw [if_neg h92]
  by_cases h47 : c = 47
  · rw [if_pos h47]
    exact pick_true F (beq_iff_eq.mpr h47) (by unfold isShort; omega)
  rw [if_neg h47]
  by_cases h98 : c = 98
  · rw [if_pos h98]
    exact pick_true F (beq_iff_eq.mpr h98) (by unfold isShort; omega)
  rw [if_neg h98]
  by_cases h102 : c = 102
  · rw [if_pos h102]
    exact pick_true F (beq_iff_eq.mpr h102) (by unfold isShort; omega)
  rw [if_neg h102]
  by_cases h110 : c = 110
  · rw [if_pos h110]
    exact pick_true F (beq_iff_eq.mpr h110) (by unfold isShort; omega)
  rw [if_neg h110]
  by_cases h114 : c = 114
  · rw [if_pos h114]
    exact pick_true F (beq_iff_eq.mpr h114) (by unfold isShort; omega)
  rw [if_neg h114]
  exact pick_last F ⟨fun h => by unfold isShort; omega, fun h => by unfold isShort at h; omega⟩
theorem hex_ish (c : Int) : gjson_ishex.f c = some (decide (isHex c)) := by
  unfold gjson_ishex.f isHex
  by_cases h1 : 48 ≤ c <;> by_cases h2 : c ≤ 57 <;> by_cases h3 : 97 ≤ c <;> by_cases h4 : c ≤ 102 <;> by_cases h5 : 65 ≤ c <;> by_cases h6 : c ≤ 70 <;> first | omega | simp [h1, h2, h3, h4, h5, h6]
section
variable {L : List Int} (hL : L.length ≤ 1099511627776)
theorem wr {i : Nat} (h : i ≤ 281474976702464) : wrap64 ((i : Int) + 1) = ((i + 1 : Nat) : Int) := by unfold wrap64; omega
theorem bl_yes {i : Nat} (h : isBlank (gb L i)) : bl L i = bl L (i + 1) := by rw [bl, dif_pos h]
theorem bl_no {i : Nat} (h : ¬ isBlank (gb L i)) : bl L i = i := by rw [bl, dif_neg h]
theorem bl_end {i : Nat} (h : L.length ≤ i) : bl L i = i := bl_no fun hb => by
  have := blank_in hb
  omega
theorem bl_not (L : List Int) : ∀ (d i : Nat), L.length - i ≤ d → ¬ isBlank (gb L (bl L i)) := by
  intro d
  induction d with
  | zero =>
    intro i hd
    rw [bl_end (by omega)]
    intro h
    have := blank_in h
    omega
  | succ d ih =>
    intro i hd
    by_cases h : isBlank (gb L i)
    · rw [bl_yes h]
      exact ih (i + 1) (by omega)
    · rw [bl_no h]
      exact h
theorem bEnd_bl : ∀ n i, L.length ≤ i + n → i ≤ L.length → bEnd L n i = bl L i
  | 0, i, h1, h2 => by
    rw [bEnd, bl_end (by omega)]
  | n + 1, i, h1, h2 => by
    unfold bEnd
    by_cases h3 : i < L.length
    · rw [if_pos h3]
      by_cases h4 : isBlank (gb L i)
      · rw [if_pos (show isB (L.getD i 0) from h4), bl_yes h4]
        exact bEnd_bl n (i + 1) (by omega) (by omega)
      · rw [if_neg (show ¬ isB (L.getD i 0) from h4), bl_no h4]
    · rw [if_neg h3, bl_end (by omega)]
include hL in
theorem col_ev : ∀ (d i : Nat), L.length - i ≤ d → i ≤ L.length → GC (fun k => gjson_validcolon.f k L (i : Int)) (if at_ L (bl L i) 58 then some (bl L i + 1) else none) := by
  intro d
  induction d with
  | zero =>
    intro i hd hi
    rw [bl_end (by omega), if_neg (fun h => by have := h.1; omega)]
    refine ⟨i, Ev.step (f := fun _ => some ((i : Int), false)) (fun k => ?_) (Ev.now _)⟩
    simp only [gjson_validcolon.f, gjson_validcolon.l0]
    rw [if_neg (by omega)]
  | succ d ih =>
    intro i hd hi
    by_cases hlt : i < L.length
    · have hgo : ∀ k, gjson_validcolon.f (k + 1) L (i : Int) = gjson_validcolon.j1 k L i (gb L i) (decide (isBlank (gb L i))) := by
        intro k
        simp only [gjson_validcolon.f, gjson_validcolon.l0]
        rw [if_pos (by omega), if_pos (by omega), rd_gb]
        exact blank_ite (gb L i) (fun b => gjson_validcolon.j1 k L i (gb L i) b)
      by_cases hb : isBlank (gb L i)
      · rw [bl_yes hb]
        refine (ih (i + 1) (by omega) (by omega)).step fun r hr => Ev.step hgo (Ev.step (fun k => ?_) hr)
        rw [decide_eq_true hb]
        simp only [gjson_validcolon.j1, if_true]
        rw [wr (by omega)]
        rfl
      · rw [bl_no hb]
        have hgo2 : ∀ k, gjson_validcolon.j1 (k + 1) L i (gb L i) (decide (isBlank (gb L i))) = if gb L i = 58 then some (((i + 1 : Nat) : Int), true) else some ((i : Int), false) := by
          intro k
          rw [decide_eq_false hb]
          simp only [gjson_validcolon.j1, Bool.false_eq_true, if_false]
          rw [wr (by omega)]
        by_cases h58 : gb L i = 58
        · rw [if_pos ⟨hlt, h58⟩]
          exact Ev.step hgo (Ev.step (fun k => (hgo2 k).trans (if_pos h58)) (Ev.now _))
        · rw [if_neg (fun h => h58 h.2)]
          exact ⟨i, Ev.step hgo (Ev.step (fun k => (hgo2 k).trans (if_neg h58)) (Ev.now _))⟩
    · rw [bl_end (by omega), if_neg (fun h => by have := h.1; omega)]
      refine ⟨i, Ev.step (f := fun _ => some ((i : Int), false)) (fun k => ?_) (Ev.now _)⟩
      simp only [gjson_validcolon.f, gjson_validcolon.l0]
      rw [if_neg (by omega)]
include hL in
theorem com_ev (c : Int) : ∀ (d i : Nat), L.length - i ≤ d → i ≤ L.length → GC (fun k => gjson_validcomma.f k L (i : Int) c) (if at_ L (bl L i) 44 ∨ at_ L (bl L i) c then some (bl L i) else none) := by
  intro d
  induction d with
  | zero =>
    intro i hd hi
    rw [bl_end (by omega), if_neg (fun h => by rcases h with h | h <;> (have := h.1; omega))]
    refine ⟨i, Ev.step (f := fun _ => some ((i : Int), false)) (fun k => ?_) (Ev.now _)⟩
    simp only [gjson_validcomma.f, gjson_validcomma.l0]
    rw [if_neg (by omega)]
  | succ d ih =>
    intro i hd hi
    by_cases hlt : i < L.length
    · have hgo : ∀ k, gjson_validcomma.f (k + 1) L (i : Int) c = gjson_validcomma.j1 k L i c (gb L i) (decide (isBlank (gb L i))) := by
        intro k
        simp only [gjson_validcomma.f, gjson_validcomma.l0]
        rw [if_pos (by omega), if_pos (by omega), rd_gb]
        exact blank_ite (gb L i) (fun b => gjson_validcomma.j1 k L i c (gb L i) b)
      by_cases hb : isBlank (gb L i)
      · rw [bl_yes hb]
        refine (ih (i + 1) (by omega) (by omega)).step fun r hr => Ev.step hgo (Ev.step (fun k => ?_) hr)
        rw [decide_eq_true hb]
        simp only [gjson_validcomma.j1, if_true]
        rw [wr (by omega)]
        rfl
      · rw [bl_no hb]
        have hgo2 : ∀ k, gjson_validcomma.j1 (k + 1) L i c (gb L i) (decide (isBlank (gb L i))) = if gb L i = 44 then some ((i : Int), true) else if gb L i = c then some ((i : Int), true) else some ((i : Int), false) := by
          intro k
          rw [decide_eq_false hb]
          simp only [gjson_validcomma.j1, Bool.false_eq_true, if_false]
        by_cases h1 : gb L i = 44
        · rw [if_pos (.inl ⟨hlt, h1⟩)]
          exact Ev.step hgo (Ev.step (fun k => (hgo2 k).trans (if_pos h1)) (Ev.now _))
        · by_cases h2 : gb L i = c
          · rw [if_pos (.inr ⟨hlt, h2⟩)]
            exact Ev.step hgo (Ev.step (fun k => (hgo2 k).trans ((if_neg h1).trans (if_pos h2))) (Ev.now _))
          · rw [if_neg (fun h => h.elim (fun h => h1 h.2) (fun h => h2 h.2))]
            exact ⟨i, Ev.step hgo (Ev.step (fun k => (hgo2 k).trans ((if_neg h1).trans (if_neg h2))) (Ev.now _))⟩
    · rw [bl_end (by omega), if_neg (fun h => by rcases h with h | h <;> (have := h.1; omega))]
      refine ⟨i, Ev.step (f := fun _ => some ((i : Int), false)) (fun k => ?_) (Ev.now _)⟩
      simp only [gjson_validcomma.f, gjson_validcomma.l0]
      rw [if_neg (by omega)]
/-! #### Strings -/
theorem gst_far {i : Nat} (hi : L.length ≤ i) : ∃ a, Ev (fun k => gjson_validstring.l0 k L (i : Int)) (a, false) := by
  refine ⟨i, Ev.step (f := fun _ => some ((i : Int), false)) (fun k => ?_) (Ev.now _)⟩
  simp only [gjson_validstring.l0]
  rw [if_neg (by omega)]
include hL in
theorem ghex_round (m : Int) (p : Nat) (hm : m < 4) (hp : p < L.length) (k : Nat) :
    gjson_validstring.l1 (k + 1) L (p : Int) m = if isHex (gb L (p + 1)) then gjson_validstring.l1 k L ((p + 1 : Nat) : Int) (wrap64 (m + 1)) else some (((p + 1 : Nat) : Int), false) := by
  simp only [gjson_validstring.l1]
  rw [if_pos hm, wr (by omega)]
  by_cases h1 : p + 1 < L.length
  · rw [if_neg (by omega), if_pos (by omega), if_pos (by omega), rd_gb, hex_ish]
    simp only [Option.bind_some, decide_eq_true_eq]
  · have h2 : ¬ isHex (gb L (p + 1)) := fun h => by have := hex_in h; omega
    rw [if_pos (by omega), if_neg h2]
include hL in
theorem gst_ev : ∀ (d i : Nat), L.length - i ≤ d → GC (fun k => gjson_validstring.l0 k L (i : Int)) (st L i) := by
  intro d
  induction d with
  | zero =>
    intro i hd
    rw [st, dif_neg (by omega)]
    exact gst_far (by omega)
  | succ d ih =>
    intro i hd
    by_cases hlt : i < L.length
    case neg =>
      rw [st, dif_neg hlt]
      exact gst_far (by omega)
    have hgo : ∀ k, gjson_validstring.l0 (k + 1) L (i : Int) = if gb L i < 32 then some ((i : Int), false) else if gb L i = 92 then (if i + 1 = L.length then some (((i + 1 : Nat) : Int), false) else gjson_validstring.j1 k L ((i + 1 : Nat) : Int) (gb L (i + 1)) (decide (isShort (gb L (i + 1))))) else if gb L i = 34 then some (((i + 1 : Nat) : Int), true) else gjson_validstring.l0 k L ((i + 1 : Nat) : Int) := by
      intro k
      simp only [gjson_validstring.l0]
      rw [if_pos (by omega), if_pos (by omega), rd_gb, wr (by omega)]
      by_cases h1 : gb L i < 32
      · rw [if_pos h1, if_pos h1]
      rw [if_neg h1, if_neg h1]
      by_cases h2 : gb L i = 92
      · rw [if_pos h2, if_pos h2]
        by_cases h3 : i + 1 = L.length
        · rw [if_pos h3, if_pos (by omega)]
        · rw [if_neg h3, if_neg (by omega), if_pos (by omega), if_pos (by omega), rd_gb]
          exact short_ite (gb L (i + 1)) (fun b => gjson_validstring.j1 k L ((i + 1 : Nat) : Int) (gb L (i + 1)) b)
      · rw [if_neg h2, if_neg h2]
    rw [st, dif_pos hlt]
    by_cases h34 : gb L i = 34
    · rw [if_pos h34]
      refine Ev.step (fun k => (hgo k).trans ?_) (Ev.now _)
      rw [if_neg (by omega), if_neg (by omega), if_pos h34]
    rw [if_neg h34]
    by_cases h32 : gb L i < 32
    · rw [if_pos h32]
      exact ⟨i, Ev.step (fun k => (hgo k).trans (if_pos h32)) (Ev.now _)⟩
    rw [if_neg h32]
    by_cases h92 : gb L i = 92
    case neg =>
      rw [if_neg h92]
      refine (ih (i + 1) (by omega)).step fun r hr => Ev.step (fun k => (hgo k).trans ?_) hr
      rw [if_neg h32, if_neg h92, if_neg h34]
    rw [if_pos h92]
    by_cases hend : i + 1 = L.length
    · have hn : escE L (i + 1) = none := by
        unfold escE
        have h0 : gb L (i + 1) = 0 := gb_out (by omega)
        rw [h0, if_neg (by unfold isShort; omega), if_neg (by omega)]
      refine cast (congrArg (GC _) ?_) (show GC (fun k => gjson_validstring.l0 k L (i : Int)) none from ⟨((i + 1 : Nat) : Int), Ev.step (fun k => (hgo k).trans ?_) (Ev.now _)⟩)
      · split
        · rfl
        · rename_i j hj
          rw [hn] at hj
          cases hj
      · rw [if_neg h32, if_pos h92, if_pos hend]
    have hgo2 : ∀ k, gjson_validstring.l0 (k + 1) L (i : Int) = gjson_validstring.j1 k L ((i + 1 : Nat) : Int) (gb L (i + 1)) (decide (isShort (gb L (i + 1)))) := fun k => (hgo k).trans ((if_neg h32).trans ((if_pos h92).trans (if_neg hend)))
    by_cases hsh : isShort (gb L (i + 1))
    · have hn : escE L (i + 1) = some (i + 1 + 1) := by unfold escE; rw [if_pos hsh]
      have hr := ih (i + 1 + 1) (by omega)
      refine cast (congrArg (GC _) ?_) (hr.step fun r hr => Ev.step hgo2 (Ev.step (fun k => ?_) hr))
      · split
        · rename_i hj
          rw [hn] at hj
          cases hj
        · rename_i j hj
          rw [hn] at hj
          injection hj with hj
          rw [hj]
      · rw [decide_eq_true hsh]
        simp only [gjson_validstring.j1, if_true]
        rw [wr (by omega)]
    by_cases hu : gb L (i + 1) = 117
    case neg =>
      have hn : escE L (i + 1) = none := by unfold escE; rw [if_neg hsh, if_neg hu]
      refine cast (congrArg (GC _) ?_) (show GC (fun k => gjson_validstring.l0 k L (i : Int)) none from ⟨((i + 1 : Nat) : Int), Ev.step hgo2 (Ev.step (fun k => ?_) (Ev.now _))⟩)
      · split
        · rfl
        · rename_i j hj
          rw [hn] at hj
          cases hj
      · rw [decide_eq_false hsh]
        simp only [gjson_validstring.j1, Bool.false_eq_true, if_false]
        rw [if_neg hu]
    have hin : i + 1 < L.length := gb_in (by rw [hu]; decide)
    have hgo3 : ∀ r, Ev (fun k => gjson_validstring.l1 k L ((i + 1 : Nat) : Int) 0) r → Ev (fun k => gjson_validstring.l0 k L (i : Int)) r := fun r hr => Ev.step hgo2 (Ev.step (fun k => by
      rw [decide_eq_false hsh]
      simp only [gjson_validstring.j1, Bool.false_eq_true, if_false]
      rw [if_pos hu]) hr)
    have w1 : wrap64 (0 + 1) = 1 := by unfold wrap64; omega
    have w2 : wrap64 (1 + 1) = 2 := by unfold wrap64; omega
    have w3 : wrap64 (2 + 1) = 3 := by unfold wrap64; omega
    have w4 : wrap64 (3 + 1) = 4 := by unfold wrap64; omega
    have bad : escE L (i + 1) = none → (∃ a, Ev (fun k => gjson_validstring.l0 k L (i : Int)) (a, false)) → GC (fun k => gjson_validstring.l0 k L (i : Int)) (match _h : escE L (i + 1) with | none => none | some j => st L j) := by
      intro hn h
      refine cast (congrArg (GC _) ?_) (show GC (fun k => gjson_validstring.l0 k L (i : Int)) none from h)
      split
      · rfl
      · rename_i j hj
        rw [hn] at hj
        cases hj
    have hno : ∀ P : Prop, (isHex (gb L (i + 1 + 1)) ∧ isHex (gb L (i + 1 + 2)) ∧ isHex (gb L (i + 1 + 3)) ∧ isHex (gb L (i + 1 + 4)) → False) → escE L (i + 1) = none := by
      intro _ h
      unfold escE
      rw [if_neg hsh, if_pos hu, if_neg (fun e => h e)]
    by_cases x1 : isHex (gb L (i + 1 + 1))
    case neg => exact bad (hno True fun h => x1 h.1) ⟨_, hgo3 _ (Ev.step (fun k => (ghex_round hL 0 (i + 1) (by decide) hin k).trans (if_neg x1)) (Ev.now _))⟩
    have y1 := hex_in x1
    have e1 : ∀ r, Ev (fun k => gjson_validstring.l1 k L ((i + 1 + 1 : Nat) : Int) 1) r → Ev (fun k => gjson_validstring.l0 k L (i : Int)) r := fun r hr => hgo3 _ (Ev.step (fun k => (ghex_round hL 0 (i + 1) (by decide) hin k).trans (by rw [if_pos x1, w1])) hr)
    by_cases x2 : isHex (gb L (i + 1 + 2))
    case neg => exact bad (hno True fun h => x2 h.2.1) ⟨_, e1 _ (Ev.step (fun k => (ghex_round hL 1 (i + 1 + 1) (by decide) y1 k).trans (if_neg x2)) (Ev.now _))⟩
    have y2 := hex_in x2
    have e2 : ∀ r, Ev (fun k => gjson_validstring.l1 k L ((i + 1 + 2 : Nat) : Int) 2) r → Ev (fun k => gjson_validstring.l0 k L (i : Int)) r := fun r hr => e1 _ (Ev.step (fun k => (ghex_round hL 1 (i + 1 + 1) (by decide) y1 k).trans (by rw [if_pos x2, w2])) hr)
    by_cases x3 : isHex (gb L (i + 1 + 3))
    case neg => exact bad (hno True fun h => x3 h.2.2.1) ⟨_, e2 _ (Ev.step (fun k => (ghex_round hL 2 (i + 1 + 2) (by decide) y2 k).trans (if_neg x3)) (Ev.now _))⟩
    have y3 := hex_in x3
    have e3 : ∀ r, Ev (fun k => gjson_validstring.l1 k L ((i + 1 + 3 : Nat) : Int) 3) r → Ev (fun k => gjson_validstring.l0 k L (i : Int)) r := fun r hr => e2 _ (Ev.step (fun k => (ghex_round hL 2 (i + 1 + 2) (by decide) y2 k).trans (by rw [if_pos x3, w3])) hr)
    by_cases x4 : isHex (gb L (i + 1 + 4))
    case neg => exact bad (hno True fun h => x4 h.2.2.2) ⟨_, e3 _ (Ev.step (fun k => (ghex_round hL 3 (i + 1 + 3) (by decide) y3 k).trans (if_neg x4)) (Ev.now _))⟩
    have y4 := hex_in x4
    have hn : escE L (i + 1) = some (i + 1 + 5) := by
      unfold escE
      rw [if_neg hsh, if_pos hu, if_pos ⟨x1, x2, x3, x4⟩]
    have hr := ih (i + 1 + 5) (by omega)
    refine cast (congrArg (GC _) ?_) (hr.step fun r hr => e3 _ (Ev.step (fun k => (ghex_round hL 3 (i + 1 + 3) (by decide) y3 k).trans (by rw [if_pos x4, w4])) (Ev.step (fun k => ?_) hr)))
    · split
      · rename_i hj
        rw [hn] at hj
        cases hj
      · rename_i j hj
        rw [hn] at hj
        injection hj with hj
        rw [hj]
    · simp only [gjson_validstring.l1]
      rw [if_neg (by simp), wr (by omega)]
/-! #### Numbers -/
def GP (x : Int × Bool) : Option Nat → Prop
  | some j => x = ((j : Int), true)
  | none => ∃ a, x = (a, false)
theorem dg_dig {i : Nat} (h : isDig (gb L i)) : dg L i = dg L (i + 1) := by rw [dg, dif_pos h]
theorem dg_not {i : Nat} (h : ¬ isDig (gb L i)) : dg L i = i := by rw [dg, dif_neg h]
theorem dg_end {i : Nat} (h : L.length ≤ i) : dg L i = i := dg_not fun hb => by
  have := dig_in hb
  omega
theorem dEnd_dg : ∀ n i, L.length ≤ i + n → i ≤ L.length → dEnd L n i = dg L i
  | 0, i, h1, h2 => by
    rw [dEnd, dg_end (by omega)]
  | n + 1, i, h1, h2 => by
    unfold dEnd
    by_cases h3 : i < L.length
    · rw [if_pos h3]
      by_cases h4 : isDig (gb L i)
      · rw [if_pos (show isD (L.getD i 0) from h4), dg_dig h4]
        exact dEnd_dg n (i + 1) (by omega) (by omega)
      · rw [if_neg (show ¬ isD (L.getD i 0) from h4), dg_not h4]
    · rw [if_neg h3, dg_end (by omega)]
theorem nSgn_ok (r : Nat) (hr : r ≤ L.length) : GP (nSgn L r) (if r < dg L r then some (dg L r) else none) := by
  unfold nSgn
  by_cases h1 : r = L.length
  · rw [if_pos h1, dg_end (by omega), if_neg (by omega)]
    exact ⟨_, rfl⟩
  rw [if_neg h1]
  by_cases h2 : isDig (gb L r)
  · have hl := dg_le L (r + 1) (by omega)
    rw [if_pos (show isD (L.getD r 0) from h2), dEnd_dg _ _ (by omega) (by omega), dg_dig h2, if_pos (by omega)]
    rfl
  · rw [if_neg (show ¬ isD (L.getD r 0) from h2), dg_not h2, if_neg (by omega)]
    exact ⟨_, rfl⟩
theorem nExp_ok (q : Nat) (hq : q ≤ L.length) : GP (nExp L q) (expE L q) := by
  unfold nExp expE
  by_cases h1 : q = L.length
  · rw [if_pos h1, if_neg (fun h => by rcases h with h | h <;> (have := h.1; omega))]
    rfl
  rw [if_neg h1]
  have hql : q < L.length := by omega
  by_cases h2 : L.getD q 0 = 101 ∨ L.getD q 0 = 69
  · rw [if_pos h2, if_pos (show at_ L q 101 ∨ at_ L q 69 from h2.imp (fun h => ⟨hql, h⟩) (fun h => ⟨hql, h⟩))]
    by_cases h3 : q + 1 = L.length
    · have hs : signE L (q + 1) = q + 1 := by
        unfold signE
        rw [if_neg (fun h => by rcases h with h | h <;> (have := h.1; omega))]
      rw [if_pos h3, hs, dg_end (by omega), if_neg (by omega)]
      exact ⟨_, rfl⟩
    · have hl : q + 1 < L.length := by omega
      have hs : (if L.getD (q + 1) 0 = 43 ∨ L.getD (q + 1) 0 = 45 then q + 2 else q + 1) = signE L (q + 1) := by
        unfold signE
        by_cases h4 : L.getD (q + 1) 0 = 43 ∨ L.getD (q + 1) 0 = 45
        · rw [if_pos h4, if_pos (show at_ L (q + 1) 43 ∨ at_ L (q + 1) 45 from h4.imp (fun h => ⟨hl, h⟩) (fun h => ⟨hl, h⟩))]
        · rw [if_neg h4, if_neg (fun h => h4 (h.imp (fun h => h.2) (fun h => h.2)))]
      rw [if_neg h3, hs]
      exact nSgn_ok _ (signE_le (by omega)).2
  · rw [if_neg h2, if_neg (fun h => h2 (h.imp (fun h => h.2) (fun h => h.2)))]
    rfl
theorem nFrac_ok (p : Nat) (hp : p ≤ L.length) : GP (nFrac L p) (fracE L p) := by
  unfold nFrac fracE
  by_cases h1 : p = L.length
  · have := nExp_ok p hp
    unfold nExp at this
    rw [if_pos h1] at this
    rw [if_pos h1, if_neg (fun h => by have := h.1; omega)]
    exact this
  rw [if_neg h1]
  have hpl : p < L.length := by omega
  by_cases h2 : L.getD p 0 = 46
  · rw [if_pos h2, if_pos (show at_ L p 46 from ⟨hpl, h2⟩)]
    by_cases h3 : p + 1 = L.length
    · rw [if_pos h3, dg_end (by omega), if_neg (by omega)]
      exact ⟨_, rfl⟩
    rw [if_neg h3]
    by_cases h4 : isDig (gb L (p + 1))
    · have hl := dg_le L (p + 2) (by omega)
      have e2 : dg L (p + 1) = dg L (p + 2) := dg_dig h4
      rw [if_pos (show isD (L.getD (p + 1) 0) from h4), dEnd_dg _ _ (by omega) (by omega), e2, if_pos (by omega)]
      exact nExp_ok _ hl.2
    · rw [if_neg (show ¬ isD (L.getD (p + 1) 0) from h4), dg_not h4, if_neg (by omega)]
      exact ⟨_, rfl⟩
  · rw [if_neg h2, if_neg (fun h => h2 h.2)]
    exact nExp_ok p hp
theorem nInt_ok (m : Nat) (hm : m < L.length) (hd : isDig (gb L m)) : GP (nInt L m) (if at_ L m 48 then fracE L (m + 1) else if m < dg L m then fracE L (dg L m) else none) := by
  have hl := dg_le L (m + 1) (by omega)
  unfold nInt
  by_cases h1 : L.getD m 0 = 48
  · rw [if_pos h1, if_pos (show at_ L m 48 from ⟨hm, h1⟩)]
    exact nFrac_ok _ (by omega)
  · rw [if_neg h1, if_neg (fun h => h1 h.2), dEnd_dg _ _ (by omega) (by omega), dg_dig hd, if_pos (by omega)]
    exact nFrac_ok _ hl.2
include hL in
theorem gnum_ok (i : Nat) (hi : i < L.length) (hc : gb L i = 45 ∨ isDig (gb L i)) : ∃ x, gjson_validnumber.f L ((i + 1 : Nat) : Int) = some x ∧ GP x (numE L i) := by
  unfold gjson_validnumber.f
  rw [if_pos ⟨by omega, by omega, by omega⟩, Int.toNat_natCast, Nat.add_sub_cancel]
  refine ⟨_, rfl, ?_⟩
  unfold numE
  by_cases h45 : L.getD i 0 = 45
  · have hm : minusE L i = i + 1 := by unfold minusE; rw [if_pos ⟨hi, h45⟩]
    rw [if_pos h45, hm]
    by_cases h1 : i + 1 = L.length
    · rw [if_pos h1, if_neg (fun h => by have := h.1; omega), dg_end (by omega), if_neg (by omega)]
      exact ⟨_, rfl⟩
    rw [if_neg h1]
    by_cases h2 : isDig (gb L (i + 1))
    · rw [if_pos (show isD (L.getD (i + 1) 0) from h2)]
      exact nInt_ok _ (by omega) h2
    · rw [if_neg (show ¬ isD (L.getD (i + 1) 0) from h2), if_neg (fun h => h2 (by unfold isDig; have := h.2; omega)), dg_not h2, if_neg (by omega)]
      exact ⟨_, rfl⟩
  · have hd : isDig (gb L i) := hc.resolve_left h45
    have hm : minusE L i = i := by unfold minusE; rw [if_neg (fun h => h45 h.2)]
    rw [if_neg h45, hm]
    exact nInt_ok _ hi hd
theorem GP.gc {g : Nat → Option (Int × Bool)} {x : Int × Bool} {r : Option Nat} (h : GP x r) (k : Ev g x) : GC g r := by
  cases r with
  | none =>
    obtain ⟨a, rfl⟩ := h
    exact ⟨a, k⟩
  | some j =>
    cases h
    exact k
/-! #### Words -/
theorem word_four {i : Nat} {a b c d : Int} (h : wordE L i [a, b, c, d]) : gb L i = a ∧ gb L (i + 1) = b ∧ gb L (i + 2) = c ∧ gb L (i + 3) = d := by
  have g : ∀ k, k < 4 → gb L (i + k) = [a, b, c, d].getD k 0 := fun k hk => by
    unfold wordE at h
    rw [← h]
    unfold gb
    rw [List.getD_eq_getElem?_getD, List.getD_eq_getElem?_getD, List.getElem?_take_of_lt (by simpa using hk), List.getElem?_drop]
  exact ⟨g 0 (by omega), g 1 (by omega), g 2 (by omega), g 3 (by omega)⟩
theorem word_five {i : Nat} {a b c d e : Int} (h : wordE L i [a, b, c, d, e]) : gb L i = a ∧ gb L (i + 1) = b ∧ gb L (i + 2) = c ∧ gb L (i + 3) = d ∧ gb L (i + 4) = e := by
  have g : ∀ k, k < 5 → gb L (i + k) = [a, b, c, d, e].getD k 0 := fun k hk => by
    unfold wordE at h
    rw [← h]
    unfold gb
    rw [List.getD_eq_getElem?_getD, List.getD_eq_getElem?_getD, List.getElem?_take_of_lt (by simpa using hk), List.getElem?_drop]
  exact ⟨g 0 (by omega), g 1 (by omega), g 2 (by omega), g 3 (by omega), g 4 (by omega)⟩
theorem drop_cons {i : Nat} (h : i < L.length) : L.drop i = gb L i :: L.drop (i + 1) := by
  rw [List.drop_eq_getElem_cons h, gb, List.getD_eq_getElem?_getD, List.getElem?_eq_getElem h]
  rfl
theorem four_word {i : Nat} {a b c d : Int} (hi : i + 4 ≤ L.length) (h0 : gb L i = a) (h1 : gb L (i + 1) = b) (h2 : gb L (i + 2) = c) (h3 : gb L (i + 3) = d) : wordE L i [a, b, c, d] := by
  unfold wordE
  rw [drop_cons (by omega), drop_cons (i := i + 1) (by omega), drop_cons (i := i + 1 + 1) (by omega), drop_cons (i := i + 1 + 1 + 1) (by omega), h0, h1, h2, h3]
  simp
theorem five_word {i : Nat} {a b c d e : Int} (hi : i + 5 ≤ L.length) (h0 : gb L i = a) (h1 : gb L (i + 1) = b) (h2 : gb L (i + 2) = c) (h3 : gb L (i + 3) = d) (h4 : gb L (i + 4) = e) : wordE L i [a, b, c, d, e] := by
  unfold wordE
  rw [drop_cons (by omega), drop_cons (i := i + 1) (by omega), drop_cons (i := i + 1 + 1) (by omega), drop_cons (i := i + 1 + 1 + 1) (by omega), drop_cons (i := i + 1 + 1 + 1 + 1) (by omega), h0, h1, h2, h3, h4]
  simp
include hL in
theorem gtrue_ok (i : Nat) (hi : i < L.length) (hc : gb L i = 116) : ∃ x, gjson_validtrue.f L ((i + 1 : Nat) : Int) = some x ∧ GP x (if wordE L i [116, 114, 117, 101] then some (i + 4) else none) := by
  have w1 : wrap64 (((i + 1 : Nat) : Int) + 1) = ((i + 2 : Nat) : Int) := by unfold wrap64; omega
  have w2 : wrap64 (((i + 1 : Nat) : Int) + 2) = ((i + 3 : Nat) : Int) := by unfold wrap64; omega
  have w3 : wrap64 (((i + 1 : Nat) : Int) + 3) = ((i + 4 : Nat) : Int) := by unfold wrap64; omega
  unfold gjson_validtrue.f
  rw [w1, w2, w3]
  by_cases h0 : i + 4 ≤ L.length
  case neg =>
    rw [if_neg (by omega), if_neg (fun h => by have := wordE_le h (by omega); simp at this; omega)]
    exact ⟨_, rfl, _, rfl⟩
  rw [if_pos (by omega), if_pos (by omega), if_pos (by omega), rd_gb]
  by_cases h1 : gb L (i + 1) = 114
  case neg =>
    rw [if_neg h1, if_neg (fun h => h1 (word_four h).2.1)]
    exact ⟨_, rfl, _, rfl⟩
  rw [if_pos h1, if_pos (by omega), if_pos (by omega), rd_gb]
  by_cases h2 : gb L (i + 2) = 117
  case neg =>
    rw [if_neg h2, if_neg (fun h => h2 (word_four h).2.2.1)]
    exact ⟨_, rfl, _, rfl⟩
  rw [if_pos h2, if_pos (by omega), if_pos (by omega), rd_gb]
  by_cases h3 : gb L (i + 3) = 101
  case neg =>
    rw [if_neg h3, if_neg (fun h => h3 (word_four h).2.2.2)]
    exact ⟨_, rfl, _, rfl⟩
  rw [if_pos h3, if_pos (four_word h0 hc h1 h2 h3)]
  exact ⟨_, rfl, rfl⟩
include hL in
theorem gnull_ok (i : Nat) (hi : i < L.length) (hc : gb L i = 110) : ∃ x, gjson_validnull.f L ((i + 1 : Nat) : Int) = some x ∧ GP x (if wordE L i [110, 117, 108, 108] then some (i + 4) else none) := by
  have w1 : wrap64 (((i + 1 : Nat) : Int) + 1) = ((i + 2 : Nat) : Int) := by unfold wrap64; omega
  have w2 : wrap64 (((i + 1 : Nat) : Int) + 2) = ((i + 3 : Nat) : Int) := by unfold wrap64; omega
  have w3 : wrap64 (((i + 1 : Nat) : Int) + 3) = ((i + 4 : Nat) : Int) := by unfold wrap64; omega
  unfold gjson_validnull.f
  rw [w1, w2, w3]
  by_cases h0 : i + 4 ≤ L.length
  case neg =>
    rw [if_neg (by omega), if_neg (fun h => by have := wordE_le h (by omega); simp at this; omega)]
    exact ⟨_, rfl, _, rfl⟩
  rw [if_pos (by omega), if_pos (by omega), if_pos (by omega), rd_gb]
  by_cases h1 : gb L (i + 1) = 117
  case neg =>
    rw [if_neg h1, if_neg (fun h => h1 (word_four h).2.1)]
    exact ⟨_, rfl, _, rfl⟩
  rw [if_pos h1, if_pos (by omega), if_pos (by omega), rd_gb]
  by_cases h2 : gb L (i + 2) = 108
  case neg =>
    rw [if_neg h2, if_neg (fun h => h2 (word_four h).2.2.1)]
    exact ⟨_, rfl, _, rfl⟩
  rw [if_pos h2, if_pos (by omega), if_pos (by omega), rd_gb]
  by_cases h3 : gb L (i + 3) = 108
  case neg =>
    rw [if_neg h3, if_neg (fun h => h3 (word_four h).2.2.2)]
    exact ⟨_, rfl, _, rfl⟩
  rw [if_pos h3, if_pos (four_word h0 hc h1 h2 h3)]
  exact ⟨_, rfl, rfl⟩
include hL in
theorem gfalse_ok (i : Nat) (hi : i < L.length) (hc : gb L i = 102) : ∃ x, gjson_validfalse.f L ((i + 1 : Nat) : Int) = some x ∧ GP x (if wordE L i [102, 97, 108, 115, 101] then some (i + 5) else none) := by
  have w1 : wrap64 (((i + 1 : Nat) : Int) + 1) = ((i + 2 : Nat) : Int) := by unfold wrap64; omega
  have w2 : wrap64 (((i + 1 : Nat) : Int) + 2) = ((i + 3 : Nat) : Int) := by unfold wrap64; omega
  have w3 : wrap64 (((i + 1 : Nat) : Int) + 3) = ((i + 4 : Nat) : Int) := by unfold wrap64; omega
  have w4 : wrap64 (((i + 1 : Nat) : Int) + 4) = ((i + 5 : Nat) : Int) := by unfold wrap64; omega
  unfold gjson_validfalse.f
  rw [w1, w2, w3, w4]
  by_cases h0 : i + 5 ≤ L.length
  case neg =>
    rw [if_neg (by omega), if_neg (fun h => by have := wordE_le h (by omega); simp at this; omega)]
    exact ⟨_, rfl, _, rfl⟩
  rw [if_pos (by omega), if_pos (by omega), if_pos (by omega), rd_gb]
  by_cases h1 : gb L (i + 1) = 97
  case neg =>
    rw [if_neg h1, if_neg (fun h => h1 (word_five h).2.1)]
    exact ⟨_, rfl, _, rfl⟩
  rw [if_pos h1, if_pos (by omega), if_pos (by omega), rd_gb]
  by_cases h2 : gb L (i + 2) = 108
  case neg =>
    rw [if_neg h2, if_neg (fun h => h2 (word_five h).2.2.1)]
    exact ⟨_, rfl, _, rfl⟩
  rw [if_pos h2, if_pos (by omega), if_pos (by omega), rd_gb]
  by_cases h3 : gb L (i + 3) = 115
  case neg =>
    rw [if_neg h3, if_neg (fun h => h3 (word_five h).2.2.2.1)]
    exact ⟨_, rfl, _, rfl⟩
  rw [if_pos h3, if_pos (by omega), if_pos (by omega), rd_gb]
  by_cases h4 : gb L (i + 4) = 101
  case neg =>
    rw [if_neg h4, if_neg (fun h => h4 (word_five h).2.2.2.2)]
    exact ⟨_, rfl, _, rfl⟩
  rw [if_pos h4, if_pos (five_word h0 hc h1 h2 h3 h4)]
  exact ⟨_, rfl, rfl⟩
/-! #### A value, the members of an object, the elements of an array -/
def GVal (L : List Int) (i : Nat) : Prop :=
  ∃ r : Option Nat, (∀ n, 3 * (L.length - i) + 1 ≤ n → (val L n i).map (·.2) = r) ∧ (∀ a, a ≤ i → bl L a = i → GC (fun k => gjson_validany.f k L (a : Int)) r) ∧ ∀ e, r = some e → i < e ∧ e ≤ L.length
def GMem0 (L : List Int) (i : Nat) : Prop :=
  ∃ r : Option Nat, (∀ n, 3 * (L.length - i) ≤ n → (mem0 L n i).map (·.2.2) = r) ∧ GC (fun k => gjson_validobject.f k L ((i + 1 : Nat) : Int)) r ∧ ∀ e, r = some e → i < e ∧ e ≤ L.length
def GMems (L : List Int) (i : Nat) : Prop :=
  ∃ r : Option Nat, (∀ n ns ks, 3 * (L.length - i) + 2 ≤ n → (mems L n i ns ks).map (·.2.2) = r) ∧ (at_ L i 34 → GC (fun k => gjson_validobject.g0 k L i) r) ∧ (¬ at_ L i 34 → r = none) ∧ ∀ e, r = some e → i < e ∧ e ≤ L.length
def GElt0 (L : List Int) (i : Nat) : Prop :=
  ∃ r : Option Nat, (∀ n, 3 * (L.length - i) ≤ n → (elt0 L n i).map (·.2) = r) ∧ GC (fun k => gjson_validarray.f k L ((i + 1 : Nat) : Int)) r ∧ ∀ e, r = some e → i < e ∧ e ≤ L.length
def GElts (L : List Int) (i : Nat) : Prop :=
  ∃ r : Option Nat, (∀ n ks, 3 * (L.length - i) + 2 ≤ n → (elts L n i ks).map (·.2) = r) ∧ (∀ a, a ≤ i → bl L a = i → GC (fun k => gjson_validarray.l1 k L (a : Int)) r) ∧ ∀ e, r = some e → i < e ∧ e ≤ L.length
include hL in
theorem gmem0_ok (i : Nat) (hi : i < L.length) (H : ∀ j, i < j → j ≤ L.length → GMems L j) : GMem0 L i := by
  have hb := bl_le L (i + 1) (by omega)
  have hgo : ∀ k, gjson_validobject.f (k + 1) L ((i + 1 : Nat) : Int) = if bl L (i + 1) < L.length then (if gb L (bl L (i + 1)) = 125 then some (((bl L (i + 1) : Nat) : Int) + 1, true) else if gb L (bl L (i + 1)) = 34 then gjson_validobject.g0 k L (bl L (i + 1)) else some (((bl L (i + 1) : Nat) : Int), false)) else some (((bl L (i + 1) : Nat) : Int), false) := by
    intro k
    simp only [gjson_validobject.f]
    rw [if_pos ⟨by omega, by omega, by omega⟩, Int.toNat_natCast, bEnd_bl _ _ (by omega) (by omega)]
    rfl
  generalize hj : bl L (i + 1) = j at hb hgo
  obtain ⟨r, hr, hy, hn, hl⟩ := H j (by omega) hb.2
  by_cases h1 : at_ L j 125
  · refine ⟨some (j + 1), fun n hn => ?_, ?_, fun e he => ?_⟩
    · obtain ⟨n, rfl⟩ : ∃ x, n = x + 1 := ⟨n - 1, by omega⟩
      rw [mem0, hj, if_pos h1]
      rfl
    · exact Ev.step (fun k => (hgo k).trans ((if_pos h1.1).trans (if_pos h1.2))) (Ev.now _)
    · injection he with he
      have := h1.1
      omega
  · refine ⟨r, fun n hn => ?_, ?_, fun e he => ?_⟩
    · obtain ⟨n, rfl⟩ : ∃ x, n = x + 1 := ⟨n - 1, by omega⟩
      rw [mem0, hj, if_neg h1]
      exact hr n [] [] (by omega)
    · by_cases hlt : j < L.length
      · have h1' : ¬ gb L j = 125 := fun e => h1 ⟨hlt, e⟩
        by_cases h2 : gb L j = 34
        · exact (hy ⟨hlt, h2⟩).step fun r hr => Ev.step (fun k => (hgo k).trans ((if_pos hlt).trans ((if_neg h1').trans (if_pos h2)))) hr
        · rw [hn (fun h => h2 h.2)]
          exact ⟨_, Ev.step (fun k => (hgo k).trans ((if_pos hlt).trans ((if_neg h1').trans (if_neg h2)))) (Ev.now _)⟩
      · rw [hn (fun h => hlt h.1)]
        exact ⟨_, Ev.step (fun k => (hgo k).trans (if_neg hlt)) (Ev.now _)⟩
    · have := hl e he
      omega
include hL in
theorem gmems_ok (i : Nat) (HV : ∀ j, i < j → j ≤ L.length → ¬ isBlank (gb L j) → GVal L j) (H : ∀ j, i < j → j ≤ L.length → GMems L j) : GMems L i := by
  by_cases h34 : at_ L i 34
  case neg =>
    refine ⟨none, fun n ns ks hn => ?_, fun h => absurd h h34, fun _ => rfl, fun e he => by cases he⟩
    obtain ⟨n, rfl⟩ : ∃ x, n = x + 1 := ⟨n - 1, by omega⟩
    rw [mems, if_neg h34]
    rfl
  have hlt := h34.1
  have hs := gst_ev hL _ (i + 1) (Nat.le_refl _)
  have ce : ((i : Int) + 1) = ((i + 1 : Nat) : Int) := by omega
  cases hS : st L (i + 1) with
  | none =>
    rw [hS] at hs
    obtain ⟨a, ha⟩ := hs
    refine ⟨none, fun n ns ks hn => ?_, fun _ => ⟨a, ?_⟩, fun h => absurd h34 h, fun e he => by cases he⟩
    · obtain ⟨n, rfl⟩ : ∃ x, n = x + 1 := ⟨n - 1, by omega⟩
      rw [mems, if_pos h34, hS]
      rfl
    · refine Ev.step (fun k => by simp only [gjson_validobject.g0]; rw [ce]) (Ev.bind (show Ev (fun k => gjson_validstring.f k L ((i + 1 : Nat) : Int)) (a, false) from ha) ?_)
      exact Ev.congr (fun k => if_pos rfl) (Ev.now _)
  | some j =>
    rw [hS] at hs
    have hj := st_le L _ _ _ (Nat.le_refl _) hS
    have hb1 := bl_le L j (by omega)
    have hco := col_ev hL _ j (Nat.le_refl _) (by omega)
    have g1 : ∀ (x : Int × Bool), Ev (fun k => (gjson_validcolon.f k L (j : Int)).bind fun b => if b.2 = false then some (b.1, false) else (gjson_validany.f k L b.1).bind fun c => if c.2 = false then some (c.1, false) else (gjson_validcomma.f k L c.1 125).bind fun d => if d.2 = false then some (d.1, false) else if 0 ≤ d.1 ∧ d.1 < (L.length : Int) then (if L.getD d.1.toNat 0 = 125 then some (d.1 + 1, true) else if bEnd L L.length (d.1.toNat + 1) < L.length then (if L.getD (bEnd L L.length (d.1.toNat + 1)) 0 = 34 then (if i < bEnd L L.length (d.1.toNat + 1) then gjson_validobject.g0 k L (bEnd L L.length (d.1.toNat + 1)) else none) else some ((bEnd L L.length (d.1.toNat + 1) : Int), false)) else some ((bEnd L L.length (d.1.toNat + 1) : Int), false)) else none) x → Ev (fun k => gjson_validobject.g0 k L i) x := by
      intro x hx
      refine Ev.step (fun k => by simp only [gjson_validobject.g0]; rw [ce]) (Ev.bind (show Ev (fun k => gjson_validstring.f k L ((i + 1 : Nat) : Int)) ((j : Int), true) from hs) ?_)
      exact Ev.congr (fun k => if_neg (by simp)) hx
    by_cases h58 : at_ L (bl L j) 58
    case neg =>
      rw [if_neg h58] at hco
      obtain ⟨a, ha⟩ := hco
      refine ⟨none, fun n ns ks hn => ?_, fun _ => ⟨a, g1 _ (Ev.bind ha (Ev.congr (fun k => if_pos rfl) (Ev.now _)))⟩, fun h => absurd h34 h, fun e he => by cases he⟩
      obtain ⟨n, rfl⟩ : ∃ x, n = x + 1 := ⟨n - 1, by omega⟩
      rw [mems, if_pos h34, hS]
      simp only [if_neg h58]
      rfl
    rw [if_pos h58] at hco
    have h58l := h58.1
    have hb2 := bl_le L (bl L j + 1) (by omega)
    obtain ⟨rv, hrv, hcv, hlv⟩ := HV (bl L (bl L j + 1)) (by omega) hb2.2 (bl_not L _ _ (Nat.le_refl _))
    have hv := hcv (bl L j + 1) hb2.1 rfl
    have g2 : ∀ (x : Int × Bool), Ev (fun k => (gjson_validany.f k L ((bl L j + 1 : Nat) : Int)).bind fun c => if c.2 = false then some (c.1, false) else (gjson_validcomma.f k L c.1 125).bind fun d => if d.2 = false then some (d.1, false) else if 0 ≤ d.1 ∧ d.1 < (L.length : Int) then (if L.getD d.1.toNat 0 = 125 then some (d.1 + 1, true) else if bEnd L L.length (d.1.toNat + 1) < L.length then (if L.getD (bEnd L L.length (d.1.toNat + 1)) 0 = 34 then (if i < bEnd L L.length (d.1.toNat + 1) then gjson_validobject.g0 k L (bEnd L L.length (d.1.toNat + 1)) else none) else some ((bEnd L L.length (d.1.toNat + 1) : Int), false)) else some ((bEnd L L.length (d.1.toNat + 1) : Int), false)) else none) x → Ev (fun k => gjson_validobject.g0 k L i) x :=
      fun x hx => g1 x (Ev.bind hco (Ev.congr (fun k => if_neg (by simp)) hx))
    have hval : ∀ n, 3 * (L.length - bl L (bl L j + 1)) + 1 ≤ n → (val L n (bl L (bl L j + 1))).map (·.2) = rv := hrv
    cases rv with
    | none =>
      obtain ⟨a, ha⟩ := hv
      refine ⟨none, fun n ns ks hn => ?_, fun _ => ⟨a, g2 _ (Ev.bind ha (Ev.congr (fun k => if_pos rfl) (Ev.now _)))⟩, fun h => absurd h34 h, fun e he => by cases he⟩
      obtain ⟨n, rfl⟩ : ∃ x, n = x + 1 := ⟨n - 1, by omega⟩
      have h0 := Option.map_eq_none_iff.mp (hval n (by omega))
      rw [mems, if_pos h34, hS]
      simp only [if_pos h58]
      rw [h0]
      rfl
    | some e =>
      have hle := hlv e rfl
      have hb3 := bl_le L e (by omega)
      have hcm := com_ev hL 125 _ e (Nat.le_refl _) (by omega)
      have hval' : ∀ n, 3 * (L.length - bl L (bl L j + 1)) + 1 ≤ n → ∃ p, val L n (bl L (bl L j + 1)) = some (p, e) := fun n hn => by
        obtain ⟨⟨p, e'⟩, h1, h2⟩ := Option.map_eq_some_iff.mp (hval n hn)
        exact ⟨p, by rw [h1]; simp only [← h2]⟩
      have g3 : ∀ (x : Int × Bool), Ev (fun k => (gjson_validcomma.f k L (e : Int) 125).bind fun d => if d.2 = false then some (d.1, false) else if 0 ≤ d.1 ∧ d.1 < (L.length : Int) then (if L.getD d.1.toNat 0 = 125 then some (d.1 + 1, true) else if bEnd L L.length (d.1.toNat + 1) < L.length then (if L.getD (bEnd L L.length (d.1.toNat + 1)) 0 = 34 then (if i < bEnd L L.length (d.1.toNat + 1) then gjson_validobject.g0 k L (bEnd L L.length (d.1.toNat + 1)) else none) else some ((bEnd L L.length (d.1.toNat + 1) : Int), false)) else some ((bEnd L L.length (d.1.toNat + 1) : Int), false)) else none) x → Ev (fun k => gjson_validobject.g0 k L i) x :=
        fun x hx => g2 x (Ev.bind hv (Ev.congr (fun k => if_neg (by simp)) hx))
      by_cases hyes : at_ L (bl L e) 44 ∨ at_ L (bl L e) 125
      case neg =>
        rw [if_neg hyes] at hcm
        obtain ⟨a, ha⟩ := hcm
        refine ⟨none, fun n ns ks hn => ?_, fun _ => ⟨a, g3 _ (Ev.bind ha (Ev.congr (fun k => if_pos rfl) (Ev.now _)))⟩, fun h => absurd h34 h, fun e he => by cases he⟩
        obtain ⟨n, rfl⟩ : ∃ x, n = x + 1 := ⟨n - 1, by omega⟩
        obtain ⟨p, hp⟩ := hval' n (by omega)
        rw [mems, if_pos h34, hS]
        simp only [if_pos h58]
        rw [hp]
        simp only [if_neg (fun h => hyes (.inr h)), if_neg (fun h => hyes (.inl h))]
        rfl
      rw [if_pos hyes] at hcm
      have hdl : bl L e < L.length := hyes.elim (fun h => h.1) (fun h => h.1)
      have g4 : ∀ (x : Int × Bool), Ev (fun k => if L.getD (bl L e) 0 = 125 then some (((bl L e : Nat) : Int) + 1, true) else if bl L (bl L e + 1) < L.length then (if L.getD (bl L (bl L e + 1)) 0 = 34 then (if i < bl L (bl L e + 1) then gjson_validobject.g0 k L (bl L (bl L e + 1)) else none) else some (((bl L (bl L e + 1) : Nat) : Int), false)) else some (((bl L (bl L e + 1) : Nat) : Int), false)) x → Ev (fun k => gjson_validobject.g0 k L i) x := by
        intro x hx
        refine g3 x (Ev.bind hcm (Ev.congr (fun k => ?_) hx))
        rw [if_neg (by simp), if_pos ⟨by omega, by omega⟩, Int.toNat_natCast, bEnd_bl _ _ (by omega) (by omega)]
      by_cases h125 : at_ L (bl L e) 125
      · refine ⟨some (bl L e + 1), fun n ns ks hn => ?_, fun _ => g4 _ (Ev.congr (fun k => if_pos h125.2) (Ev.now _)), fun h => absurd h34 h, fun e' he => ?_⟩
        · obtain ⟨n, rfl⟩ : ∃ x, n = x + 1 := ⟨n - 1, by omega⟩
          obtain ⟨p, hp⟩ := hval' n (by omega)
          rw [mems, if_pos h34, hS]
          simp only [if_pos h58]
          rw [hp]
          simp only [if_pos h125]
          rfl
        · injection he with he
          omega
      · have h44 : at_ L (bl L e) 44 := hyes.resolve_right h125
        have hn125 : ¬ L.getD (bl L e) 0 = 125 := fun h => h125 ⟨hdl, h⟩
        have hb4 := bl_le L (bl L e + 1) (by omega)
        obtain ⟨r, hr, hy, hn, hl⟩ := H (bl L (bl L e + 1)) (by omega) hb4.2
        refine ⟨r, fun n ns ks hn => ?_, fun _ => ?_, fun h => absurd h34 h, fun e' he => ?_⟩
        · obtain ⟨n, rfl⟩ : ∃ x, n = x + 1 := ⟨n - 1, by omega⟩
          obtain ⟨p, hp⟩ := hval' n (by omega)
          rw [mems, if_pos h34, hS]
          simp only [if_pos h58]
          rw [hp]
          simp only [if_neg h125, if_pos h44]
          exact hr n _ _ (by omega)
        · by_cases hlt2 : bl L (bl L e + 1) < L.length
          · by_cases h342 : gb L (bl L (bl L e + 1)) = 34
            · exact (hy ⟨hlt2, h342⟩).step fun r hr => g4 _ (Ev.congr (fun k => (if_neg hn125).trans ((if_pos hlt2).trans ((if_pos h342).trans (if_pos (by omega))))) hr)
            · rw [hn (fun h => h342 h.2)]
              exact ⟨_, g4 _ (Ev.congr (fun k => (if_neg hn125).trans ((if_pos hlt2).trans (if_neg h342))) (Ev.now _))⟩
          · rw [hn (fun h => hlt2 h.1)]
            exact ⟨_, g4 _ (Ev.congr (fun k => (if_neg hn125).trans (if_neg hlt2)) (Ev.now _))⟩
        · have := hl e' he
          omega
include hL in
theorem garr_skip {r : Int × Bool} : ∀ (d a : Nat), L.length - a ≤ d → a ≤ L.length → Ev (fun k => gjson_validarray.l0 k L ((bl L a : Nat) : Int)) r → Ev (fun k => gjson_validarray.l0 k L (a : Int)) r := by
  intro d
  induction d with
  | zero =>
    intro a hd ha h
    rw [bl_end (by omega)] at h
    exact h
  | succ d ih =>
    intro a hd ha h
    by_cases hb : isBlank (gb L a)
    · have hlt := blank_in hb
      rw [bl_yes hb] at h
      refine Ev.step (fun k => ?_) (Ev.step (fun k => ?_) (ih (a + 1) (by omega) (by omega) h)) (f := fun k => gjson_validarray.j1 k L a (gb L a) (decide (isBlank (gb L a))))
      · simp only [gjson_validarray.l0]
        rw [if_pos (by omega), if_pos (by omega), rd_gb]
        exact blank_ite (gb L a) (fun b => gjson_validarray.j1 k L a (gb L a) b)
      · rw [decide_eq_true hb]
        simp only [gjson_validarray.j1, if_true]
        rw [wr (by omega)]
    · rw [bl_no hb] at h
      exact h
include hL in
theorem gelt0_ok (i : Nat) (hi : i < L.length) (H : ∀ j, i < j → j ≤ L.length → ¬ isBlank (gb L j) → GElts L j) : GElt0 L i := by
  have hb := bl_le L (i + 1) (by omega)
  have hsk := fun r => garr_skip hL (r := r) _ (i + 1) (Nat.le_refl _) (by omega)
  have hnb := bl_not L _ (i + 1) (Nat.le_refl _)
  generalize hj : bl L (i + 1) = j at hb hsk hnb
  have hgo : ∀ r, Ev (fun k => gjson_validarray.l0 k L (j : Int)) r → Ev (fun k => gjson_validarray.f k L ((i + 1 : Nat) : Int)) r := fun r hr => Ev.step (fun k => by simp only [gjson_validarray.f]) (hsk r hr)
  obtain ⟨r, hr, hy, hl⟩ := H j (by omega) hb.2 hnb
  by_cases hlt : j < L.length
  case neg =>
    have hv : ∀ n ks, elts L n j ks = none := fun n ks => by
      cases n with
      | zero => rw [elts]
      | succ n =>
        have : val L n j = none := by
          cases n with
          | zero => rw [val]
          | succ n =>
            have h0 : gb L j = 0 := gb_out (by omega)
            have hw : ∀ w : List Int, 0 < w.length → ¬ wordE L j w := fun w hw h => by
              have := wordE_le h hb.2
              omega
            rw [val, if_neg (fun h => hlt h.1), if_neg (fun h => hlt h.1), if_neg (fun h => hlt h.1), if_neg (fun h => h.elim (fun h => hlt h.1) (fun h => by have := dig_in h; omega)), if_neg (hw _ (by decide)), if_neg (hw _ (by decide)), if_neg (hw _ (by decide))]
        rw [elts, this]
    refine ⟨none, fun n hn => ?_, ⟨_, hgo _ (Ev.step (fun k => ?_) (Ev.now ((j : Int), false)))⟩, fun e he => by cases he⟩
    · obtain ⟨n, rfl⟩ : ∃ x, n = x + 1 := ⟨n - 1, by omega⟩
      rw [elt0, hj, if_neg (fun h => hlt h.1), hv]
      rfl
    · simp only [gjson_validarray.l0]
      rw [if_neg (by omega)]
  have hgo2 : ∀ r, Ev (fun k => if gb L j = 93 then some (((j + 1 : Nat) : Int), true) else gjson_validarray.l1 k L (j : Int)) r → Ev (fun k => gjson_validarray.f k L ((i + 1 : Nat) : Int)) r := by
    intro r hr
    refine hgo r (Ev.step (f := fun k => gjson_validarray.j1 k L j (gb L j) false) (fun k => ?_) (Ev.step (fun k => ?_) hr))
    · simp only [gjson_validarray.l0]
      rw [if_pos (by omega), if_pos (by omega), rd_gb]
      have := blank_ite (gb L j) (fun b => gjson_validarray.j1 k L j (gb L j) b)
      rw [decide_eq_false hnb] at this
      exact this
    · simp only [gjson_validarray.j1, Bool.false_eq_true, if_false]
      rw [wr (by omega)]
  by_cases h93 : gb L j = 93
  · refine ⟨some (j + 1), fun n hn => ?_, hgo2 _ (Ev.congr (fun k => if_pos h93) (Ev.now _)), fun e he => ?_⟩
    · obtain ⟨n, rfl⟩ : ∃ x, n = x + 1 := ⟨n - 1, by omega⟩
      rw [elt0, hj, if_pos ⟨hlt, h93⟩]
      rfl
    · injection he with he
      omega
  · refine ⟨r, fun n hn => ?_, (hy j (Nat.le_refl _) (bl_no hnb)).step fun r hr => hgo2 _ (Ev.congr (fun k => if_neg h93) hr), fun e he => ?_⟩
    · obtain ⟨n, rfl⟩ : ∃ x, n = x + 1 := ⟨n - 1, by omega⟩
      rw [elt0, hj, if_neg (fun h => h93 h.2)]
      exact hr n [] (by omega)
    · have := hl e he
      omega
include hL in
theorem gelts_ok (i : Nat) (hi : i ≤ L.length) (HV : GVal L i) (H : ∀ j, i < j → j ≤ L.length → ¬ isBlank (gb L j) → GElts L j) : GElts L i := by
  obtain ⟨rv, hrv, hcv, hlv⟩ := HV
  have hlt' : ∀ e, rv = some e → i < L.length := fun e he => by have := hlv e he; omega
  have hgo : ∀ a, a ≤ i → bl L a = i → a < L.length → ∀ k, gjson_validarray.l1 (k + 1) L (a : Int) = (gjson_validany.f k L (a : Int)).bind fun b => if b.2 = true then ((gjson_validcomma.f k L b.1 93).bind fun c => if c.2 = true then (if 0 ≤ c.1 then (if c.1 < (L.length : Int) then (if rd L c.1 = 93 then some (wrap64 (c.1 + 1), true) else gjson_validarray.l1 k L (wrap64 (c.1 + 1))) else none) else none) else some (c.1, false)) else some (b.1, false) := by
    intro a _ _ hal k
    simp only [gjson_validarray.l1]
    rw [if_pos (by omega)]
  have hfar : ∀ a, a ≤ i → ¬ a < L.length → ∃ x, Ev (fun k => gjson_validarray.l1 k L (a : Int)) (x, false) := by
    intro a ha hal
    refine ⟨wrap64 ((a : Int) + 1), Ev.step (fun k => ?_) (Ev.step (fun k => ?_) (Ev.now _)) (f := fun k => gjson_validarray.l0 k L (wrap64 ((a : Int) + 1)))⟩
    · simp only [gjson_validarray.l1]
      rw [if_neg (by omega)]
    · simp only [gjson_validarray.l0]
      rw [wr (by omega), if_neg (by omega)]
  cases rv with
  | none =>
    refine ⟨none, fun n ks hn => ?_, fun a ha hb => ?_, fun e he => by cases he⟩
    · obtain ⟨n, rfl⟩ : ∃ x, n = x + 1 := ⟨n - 1, by omega⟩
      have h0 := Option.map_eq_none_iff.mp (hrv n (by omega))
      rw [elts, h0]
      rfl
    · by_cases hal : a < L.length
      · obtain ⟨x, hx⟩ := hcv a ha hb
        exact ⟨x, Ev.step (hgo a ha hb hal) (Ev.bind hx (Ev.congr (fun k => if_neg (by simp)) (Ev.now _)))⟩
      · exact hfar a ha hal
  | some e =>
    have hil := hlt' e rfl
    have hle := hlv e rfl
    have hb3 := bl_le L e (by omega)
    have hcm := com_ev hL 93 _ e (Nat.le_refl _) (by omega)
    have hval' : ∀ n, 3 * (L.length - i) + 1 ≤ n → ∃ p, val L n i = some (p, e) := fun n hn => by
      obtain ⟨⟨p, e'⟩, h1, h2⟩ := Option.map_eq_some_iff.mp (hrv n hn)
      exact ⟨p, by rw [h1]; simp only [← h2]⟩
    have g1 : ∀ a, a ≤ i → bl L a = i → ∀ x, Ev (fun k => (gjson_validcomma.f k L (e : Int) 93).bind fun c => if c.2 = true then (if 0 ≤ c.1 then (if c.1 < (L.length : Int) then (if rd L c.1 = 93 then some (wrap64 (c.1 + 1), true) else gjson_validarray.l1 k L (wrap64 (c.1 + 1))) else none) else none) else some (c.1, false)) x → Ev (fun k => gjson_validarray.l1 k L (a : Int)) x := by
      intro a ha hb x hx
      exact Ev.step (hgo a ha hb (by omega)) (Ev.bind (hcv a ha hb) (Ev.congr (fun k => if_pos rfl) hx))
    by_cases hyes : at_ L (bl L e) 44 ∨ at_ L (bl L e) 93
    case neg =>
      rw [if_neg hyes] at hcm
      obtain ⟨x, hx⟩ := hcm
      refine ⟨none, fun n ks hn => ?_, fun a ha hb => ⟨x, g1 a ha hb _ (Ev.bind hx (Ev.congr (fun k => if_neg (by simp)) (Ev.now _)))⟩, fun e he => by cases he⟩
      obtain ⟨n, rfl⟩ : ∃ x, n = x + 1 := ⟨n - 1, by omega⟩
      obtain ⟨p, hp⟩ := hval' n (by omega)
      rw [elts, hp]
      simp only [if_neg (fun h => hyes (.inr h)), if_neg (fun h => hyes (.inl h))]
      rfl
    rw [if_pos hyes] at hcm
    have hdl : bl L e < L.length := hyes.elim (fun h => h.1) (fun h => h.1)
    have g2 : ∀ a, a ≤ i → bl L a = i → ∀ x, Ev (fun k => if gb L (bl L e) = 93 then some (((bl L e + 1 : Nat) : Int), true) else gjson_validarray.l1 k L ((bl L e + 1 : Nat) : Int)) x → Ev (fun k => gjson_validarray.l1 k L (a : Int)) x := by
      intro a ha hb x hx
      refine g1 a ha hb x (Ev.bind hcm (Ev.congr (fun k => ?_) hx))
      rw [if_pos rfl, if_pos (by omega), if_pos (by omega), rd_gb, wr (by omega)]
    by_cases h93 : gb L (bl L e) = 93
    · refine ⟨some (bl L e + 1), fun n ks hn => ?_, fun a ha hb => g2 a ha hb _ (Ev.congr (fun k => if_pos h93) (Ev.now _)), fun e' he => ?_⟩
      · obtain ⟨n, rfl⟩ : ∃ x, n = x + 1 := ⟨n - 1, by omega⟩
        obtain ⟨p, hp⟩ := hval' n (by omega)
        rw [elts, hp]
        simp only [if_pos (show at_ L (bl L e) 93 from ⟨hdl, h93⟩)]
        rfl
      · injection he with he
        omega
    · have h44 : at_ L (bl L e) 44 := hyes.resolve_right (fun h => h93 h.2)
      have hb4 := bl_le L (bl L e + 1) (by omega)
      obtain ⟨r, hr, hy, hl⟩ := H (bl L (bl L e + 1)) (by omega) hb4.2 (bl_not L _ _ (Nat.le_refl _))
      refine ⟨r, fun n ks hn => ?_, fun a ha hb => (hy (bl L e + 1) hb4.1 rfl).step fun r hr => g2 a ha hb _ (Ev.congr (fun k => if_neg h93) hr), fun e' he => ?_⟩
      · obtain ⟨n, rfl⟩ : ∃ x, n = x + 1 := ⟨n - 1, by omega⟩
        obtain ⟨p, hp⟩ := hval' n (by omega)
        rw [elts, hp]
        simp only [if_neg (show ¬ at_ L (bl L e) 93 from fun h => h93 h.2), if_pos h44]
        exact hr n _ (by omega)
      · have := hl e' he
        omega
include hL in
theorem gany_skip {r : Int × Bool} : ∀ (d a : Nat), L.length - a ≤ d → a ≤ L.length → Ev (fun k => gjson_validany.l0 k L ((bl L a : Nat) : Int)) r → Ev (fun k => gjson_validany.l0 k L (a : Int)) r := by
  intro d
  induction d with
  | zero =>
    intro a hd ha h
    rw [bl_end (by omega)] at h
    exact h
  | succ d ih =>
    intro a hd ha h
    by_cases hb : isBlank (gb L a)
    · have hlt := blank_in hb
      rw [bl_yes hb] at h
      refine Ev.step (fun k => ?_) (Ev.step (fun k => ?_) (ih (a + 1) (by omega) (by omega) h)) (f := fun k => gjson_validany.j1 k L a (gb L a) (decide (isBlank (gb L a))))
      · simp only [gjson_validany.l0]
        rw [if_pos (by omega), if_pos (by omega), rd_gb]
        exact blank_ite (gb L a) (fun b => gjson_validany.j1 k L a (gb L a) b)
      · rw [decide_eq_true hb]
        simp only [gjson_validany.j1, if_true]
        rw [wr (by omega)]
    · rw [bl_no hb] at h
      exact h
theorem same_bind {α β : Type} (o : Option (α × β)) : (o.bind fun b => some (b.1, b.2)) = o := by cases o <;> rfl
include hL in
theorem gval_ok (i : Nat) (hi : i ≤ L.length) (hnb : ¬ isBlank (gb L i)) (HM : i < L.length → GMem0 L i) (HE : i < L.length → GElt0 L i) : GVal L i := by
  have hgo : ∀ a, a ≤ i → bl L a = i → ∀ r, Ev (fun k => gjson_validany.l0 k L (i : Int)) r → Ev (fun k => gjson_validany.f k L (a : Int)) r := by
    intro a ha hb r hr
    refine Ev.step (fun k => by simp only [gjson_validany.f]) (gany_skip hL _ a (Nat.le_refl _) (by omega) ?_)
    rw [hb]
    exact hr
  by_cases hlt : i < L.length
  case neg =>
    refine ⟨none, fun n hn => ?_, fun a ha hb => ⟨(i : Int), hgo a ha hb _ (Ev.step (fun k => ?_) (Ev.now _))⟩, fun e he => by cases he⟩
    · obtain ⟨n, rfl⟩ : ∃ x, n = x + 1 := ⟨n - 1, by omega⟩
      have hw : ∀ w : List Int, 0 < w.length → ¬ wordE L i w := fun w hw h => by
        have := wordE_le h hi
        omega
      rw [val, if_neg (fun h => hlt h.1), if_neg (fun h => hlt h.1), if_neg (fun h => hlt h.1), if_neg (fun h => h.elim (fun h => hlt h.1) (fun h => by have := dig_in h; omega)), if_neg (hw _ (by decide)), if_neg (hw _ (by decide)), if_neg (hw _ (by decide))]
      rfl
    · simp only [gjson_validany.l0]
      rw [if_neg (by omega)]
  have hgo2 : ∀ a, a ≤ i → bl L a = i → ∀ r, Ev (fun k => if gb L i = 123 then gjson_validobject.f k L ((i + 1 : Nat) : Int) else if gb L i = 91 then gjson_validarray.f k L ((i + 1 : Nat) : Int) else if gb L i = 34 then gjson_validstring.f k L ((i + 1 : Nat) : Int) else gjson_validany.j2 k L (i : Int) (gb L i) (decide (gb L i = 45 ∨ isDig (gb L i)))) r → Ev (fun k => gjson_validany.f k L (a : Int)) r := by
    intro a ha hb r hr
    refine hgo a ha hb r (Ev.step (f := fun k => gjson_validany.j1 k L i (gb L i) false) (fun k => ?_) (Ev.step (fun k => ?_) hr))
    · simp only [gjson_validany.l0]
      rw [if_pos (by omega), if_pos (by omega), rd_gb]
      have := blank_ite (gb L i) (fun b => gjson_validany.j1 k L i (gb L i) b)
      rw [decide_eq_false hnb] at this
      exact this
    · simp only [gjson_validany.j1, Bool.false_eq_true, if_false, same_bind]
      rw [wr (by omega)]
      by_cases h1 : gb L i = 123
      · rw [if_pos h1, if_pos h1]
      rw [if_neg h1, if_neg h1]
      by_cases h2 : gb L i = 91
      · rw [if_pos h2, if_pos h2]
      rw [if_neg h2, if_neg h2]
      by_cases h3 : gb L i = 34
      · rw [if_pos h3, if_pos h3]
      rw [if_neg h3, if_neg h3]
      exact dig_ite (gb L i) (fun b => gjson_validany.j2 k L (i : Int) (gb L i) b)
  have b1 : ∀ c : Int, ¬ gb L i = c → ¬ at_ L i c := fun c h e => h e.2
  by_cases h1 : gb L i = 123
  · obtain ⟨r, hr, hc, hl⟩ := HM hlt
    refine ⟨r, fun n hn => ?_, fun a ha hb => hc.step fun r hr => hgo2 a ha hb r (Ev.congr (fun k => if_pos h1) hr), hl⟩
    obtain ⟨n, rfl⟩ : ∃ x, n = x + 1 := ⟨n - 1, by omega⟩
    rw [val, if_pos ⟨hlt, h1⟩, Option.map_map, ← hr n (by omega)]
    rfl
  by_cases h2 : gb L i = 91
  · obtain ⟨r, hr, hc, hl⟩ := HE hlt
    refine ⟨r, fun n hn => ?_, fun a ha hb => hc.step fun r hr => hgo2 a ha hb r (Ev.congr (fun k => (if_neg h1).trans (if_pos h2)) hr), hl⟩
    obtain ⟨n, rfl⟩ : ∃ x, n = x + 1 := ⟨n - 1, by omega⟩
    rw [val, if_neg (b1 _ h1), if_pos ⟨hlt, h2⟩, Option.map_map, ← hr n (by omega)]
    rfl
  by_cases h3 : gb L i = 34
  · refine ⟨st L (i + 1), fun n hn => ?_, fun a ha hb => (gst_ev hL _ (i + 1) (Nat.le_refl _)).step fun r hr => hgo2 a ha hb r (Ev.congr (fun k => (if_neg h1).trans ((if_neg h2).trans (if_pos h3))) hr), fun e he => ?_⟩
    · obtain ⟨n, rfl⟩ : ∃ x, n = x + 1 := ⟨n - 1, by omega⟩
      rw [val, if_neg (b1 _ h1), if_neg (b1 _ h2), if_pos ⟨hlt, h3⟩, Option.map_map]
      exact Option.map_id'
    · have := st_le L _ _ _ (Nat.le_refl _) he
      omega
  have hgo3 : ∀ a, a ≤ i → bl L a = i → ∀ r, Ev (fun k => gjson_validany.j2 k L (i : Int) (gb L i) (decide (gb L i = 45 ∨ isDig (gb L i)))) r → Ev (fun k => gjson_validany.f k L (a : Int)) r :=
    fun a ha hb r hr => hgo2 a ha hb r (Ev.congr (fun k => (if_neg h1).trans ((if_neg h2).trans (if_neg h3))) hr)
  by_cases h4 : gb L i = 45 ∨ isDig (gb L i)
  · obtain ⟨x, hx, hg⟩ := gnum_ok hL i hlt h4
    refine ⟨numE L i, fun n hn => ?_, fun a ha hb => hg.gc (hgo3 a ha hb _ (Ev.step (fun k => ?_) (Ev.now x))), fun e he => numE_le hi he⟩
    · obtain ⟨n, rfl⟩ : ∃ x, n = x + 1 := ⟨n - 1, by omega⟩
      rw [val, if_neg (b1 _ h1), if_neg (b1 _ h2), if_neg (b1 _ h3), if_pos (h4.imp (fun h => ⟨hlt, h⟩) id), Option.map_map]
      exact Option.map_id'
    · rw [decide_eq_true h4]
      simp only [gjson_validany.j2, if_true, same_bind]
      rw [wr (by omega), hx]
  have hgo4 : ∀ a, a ≤ i → bl L a = i → ∀ r, Ev (fun _ => if gb L i = 116 then gjson_validtrue.f L ((i + 1 : Nat) : Int) else if gb L i = 102 then gjson_validfalse.f L ((i + 1 : Nat) : Int) else if gb L i = 110 then gjson_validnull.f L ((i + 1 : Nat) : Int) else some ((i : Int), false)) r → Ev (fun k => gjson_validany.f k L (a : Int)) r := by
    intro a ha hb r hr
    refine hgo3 a ha hb r (Ev.step (fun k => ?_) hr)
    rw [decide_eq_false h4]
    simp only [gjson_validany.j2, Bool.false_eq_true, if_false, same_bind]
    rw [wr (by omega)]
  have hv : ∀ n, val L (n + 1) i = if wordE L i [110, 117, 108, 108] then some (⟨0, (i : Int), ((i + 4 : Nat) : Int), [], []⟩, i + 4) else if wordE L i [102, 97, 108, 115, 101] then some (⟨1, (i : Int), ((i + 5 : Nat) : Int), [], []⟩, i + 5) else if wordE L i [116, 114, 117, 101] then some (⟨2, (i : Int), ((i + 4 : Nat) : Int), [], []⟩, i + 4) else none := by
    intro n
    rw [val, if_neg (b1 _ h1), if_neg (b1 _ h2), if_neg (b1 _ h3), if_neg (fun h => h4 (h.imp (fun h => h.2) id))]
  have wl4 : ∀ {a b c d : Int}, wordE L i [a, b, c, d] → i + 4 ≤ L.length := fun h => wordE_le h hi
  have wl5 : ∀ {a b c d e : Int}, wordE L i [a, b, c, d, e] → i + 5 ≤ L.length := fun h => wordE_le h hi
  by_cases h5 : gb L i = 116
  · obtain ⟨x, hx, hg⟩ := gtrue_ok hL i hlt h5
    refine ⟨if wordE L i [116, 114, 117, 101] then some (i + 4) else none, fun n hn => ?_, fun a ha hb => hg.gc (hgo4 a ha hb _ (Ev.congr (fun k => (if_pos h5).trans hx) (Ev.now x))), fun e he => ?_⟩
    · obtain ⟨n, rfl⟩ : ∃ x, n = x + 1 := ⟨n - 1, by omega⟩
      rw [hv, if_neg (fun h => by have := (word_four h).1; omega), if_neg (fun h => by have := (word_five h).1; omega)]
      split <;> rfl
    · split at he
      · rename_i hw
        injection he with he
        have := wl4 hw
        omega
      · cases he
  by_cases h6 : gb L i = 102
  · obtain ⟨x, hx, hg⟩ := gfalse_ok hL i hlt h6
    refine ⟨if wordE L i [102, 97, 108, 115, 101] then some (i + 5) else none, fun n hn => ?_, fun a ha hb => hg.gc (hgo4 a ha hb _ (Ev.congr (fun k => (if_neg h5).trans ((if_pos h6).trans hx)) (Ev.now x))), fun e he => ?_⟩
    · obtain ⟨n, rfl⟩ : ∃ x, n = x + 1 := ⟨n - 1, by omega⟩
      rw [hv, if_neg (fun h => by have := (word_four h).1; omega)]
      by_cases hw : wordE L i [102, 97, 108, 115, 101]
      · rw [if_pos hw, if_pos hw]
        rfl
      · rw [if_neg hw, if_neg hw, if_neg (fun h => h5 (word_four h).1)]
        rfl
    · split at he
      · rename_i hw
        injection he with he
        have := wl5 hw
        omega
      · cases he
  by_cases h7 : gb L i = 110
  · obtain ⟨x, hx, hg⟩ := gnull_ok hL i hlt h7
    refine ⟨if wordE L i [110, 117, 108, 108] then some (i + 4) else none, fun n hn => ?_, fun a ha hb => hg.gc (hgo4 a ha hb _ (Ev.congr (fun k => (if_neg h5).trans ((if_neg h6).trans ((if_pos h7).trans hx))) (Ev.now x))), fun e he => ?_⟩
    · obtain ⟨n, rfl⟩ : ∃ x, n = x + 1 := ⟨n - 1, by omega⟩
      rw [hv]
      by_cases hw : wordE L i [110, 117, 108, 108]
      · rw [if_pos hw, if_pos hw]
        rfl
      · rw [if_neg hw, if_neg hw, if_neg (fun h => h6 (word_five h).1), if_neg (fun h => h5 (word_four h).1)]
        rfl
    · split at he
      · rename_i hw
        injection he with he
        have := wl4 hw
        omega
      · cases he
  · refine ⟨none, fun n hn => ?_, fun a ha hb => ⟨(i : Int), hgo4 a ha hb _ (Ev.congr (fun k => (if_neg h5).trans ((if_neg h6).trans (if_neg h7))) (Ev.now _))⟩, fun e he => by cases he⟩
    obtain ⟨n, rfl⟩ : ∃ x, n = x + 1 := ⟨n - 1, by omega⟩
    rw [hv, if_neg (fun h => h7 (word_four h).1), if_neg (fun h => h6 (word_five h).1), if_neg (fun h => h5 (word_four h).1)]
    rfl
include hL in
theorem gall_ok : ∀ (d i : Nat), L.length - i ≤ d → i ≤ L.length → (¬ isBlank (gb L i) → GVal L i) ∧ GMems L i ∧ (¬ isBlank (gb L i) → GElts L i) := by
  intro d
  induction d using Nat.strongRecOn with
  | _ d ih =>
  intro i hd hi
  have hv : ∀ j, i < j → j ≤ L.length → ¬ isBlank (gb L j) → GVal L j := fun j h1 h2 => (ih (L.length - j) (by omega) j (Nat.le_refl _) h2).1
  have hm : ∀ j, i < j → j ≤ L.length → GMems L j := fun j h1 h2 => (ih (L.length - j) (by omega) j (Nat.le_refl _) h2).2.1
  have he : ∀ j, i < j → j ≤ L.length → ¬ isBlank (gb L j) → GElts L j := fun j h1 h2 => (ih (L.length - j) (by omega) j (Nat.le_refl _) h2).2.2
  have hval : ¬ isBlank (gb L i) → GVal L i := fun hnb => gval_ok hL i hi hnb (fun h => gmem0_ok hL i h hm) (fun h => gelt0_ok hL i h he)
  exact ⟨hval, gmems_ok hL i hv hm, fun hnb => gelts_ok hL i hi (hval hnb) he⟩
include hL in
theorem gvalue_ok (i : Nat) (hi : i ≤ L.length) (hnb : ¬ isBlank (gb L i)) : GVal L i := (gall_ok hL _ i (Nat.le_refl _) hi).1 hnb
end
/-! ### A text within another one -/
def NumC (c : Int) : Prop := isDig c ∨ c = 46 ∨ c = 101 ∨ c = 69 ∨ c = 43 ∨ c = 45
section
variable {L M : List Int} {o : Nat} (hE : ∀ i, i < L.length → gb M (i + o) = gb L i) (hM : L.length + o ≤ M.length)
include hE hM in
theorem e_at {i : Nat} {c : Int} (h : at_ L i c) : at_ M (i + o) c := ⟨by have := h.1; omega, by rw [hE i h.1]; exact h.2⟩
include hE in
theorem e_not {i : Nat} {c : Int} (hi : i < L.length) (h : ¬ at_ L i c) : ¬ at_ M (i + o) c := fun h2 => h ⟨hi, by rw [← hE i hi]; exact h2.2⟩
include hE in
theorem e_notT {i : Nat} {c : Int} (hi : i ≤ L.length) (hT : i < L.length ∨ gb M (L.length + o) ≠ c) (h : ¬ at_ L i c) : ¬ at_ M (i + o) c := by
  by_cases hlt : i < L.length
  · exact e_not hE hlt h
  · obtain rfl : i = L.length := by omega
    exact fun h2 => (hT.resolve_left hlt) h2.2
include hE in
theorem e_bl : ∀ (d i : Nat), L.length - i ≤ d → bl L i < L.length → bl M (i + o) = bl L i + o := by
  intro d
  induction d with
  | zero =>
    intro i hd h
    rw [bl, dif_neg (fun hb => by have := blank_in hb; omega)] at h
    omega
  | succ d ih =>
    intro i hd h
    by_cases hb : isBlank (gb L i)
    · have hlt := blank_in hb
      have e1 : bl L i = bl L (i + 1) := by rw [bl, dif_pos hb]
      rw [e1] at h ⊢
      have hb' : isBlank (gb M (i + o)) := by rw [hE i hlt]; exact hb
      rw [bl, dif_pos hb', show i + o + 1 = (i + 1) + o by omega, ih (i + 1) (by omega) h]
    · have hi : bl L i = i := by rw [bl, dif_neg hb]
      rw [hi] at h ⊢
      rw [bl, dif_neg (by rw [hE i h]; exact hb)]
include hE in
theorem e_dg : ∀ (d i : Nat), L.length - i ≤ d → i ≤ L.length → (dg L i < L.length ∨ ¬ isDig (gb M (L.length + o))) → dg M (i + o) = dg L i + o := by
  intro d
  induction d with
  | zero =>
    intro i hd hi hT
    have h1 : ¬ isDig (gb L i) := fun hb => by have := dig_in hb; omega
    have h2 : dg L i = i := by rw [dg, dif_neg h1]
    rw [h2] at hT ⊢
    obtain rfl : i = L.length := by omega
    rw [dg, dif_neg (hT.resolve_left (by omega))]
  | succ d ih =>
    intro i hd hi hT
    by_cases hb : isDig (gb L i)
    · have hlt := dig_in hb
      have h2 : dg L i = dg L (i + 1) := by rw [dg, dif_pos hb]
      rw [h2] at hT ⊢
      rw [dg, dif_pos (by rw [hE i hlt]; exact hb), show i + o + 1 = (i + 1) + o by omega, ih (i + 1) (by omega) (by omega) hT]
    · have h2 : dg L i = i := by rw [dg, dif_neg hb]
      rw [h2] at hT ⊢
      by_cases hlt : i < L.length
      · rw [dg, dif_neg (by rw [hE i hlt]; exact hb)]
      · obtain rfl : i = L.length := by omega
        rw [dg, dif_neg (hT.resolve_left (by omega))]
include hE in
theorem e_esc {i j : Nat} (h : escE L i = some j) : escE M (i + o) = some (j + o) := by
  unfold escE at h ⊢
  split at h
  · rename_i h1
    have hlt := short_in h1
    injection h with h
    rw [if_pos (by rw [hE i hlt]; exact h1)]
    congr 1
    omega
  · rename_i h1
    split at h
    · rename_i h2
      have hlt : i < L.length := gb_in (by rw [h2]; decide)
      split at h
      · rename_i h3
        injection h with h
        obtain ⟨x1, x2, x3, x4⟩ := h3
        have y1 := hex_in x1
        have y2 := hex_in x2
        have y3 := hex_in x3
        have y4 := hex_in x4
        rw [if_neg (by rw [hE i hlt]; exact h1), if_pos (by rw [hE i hlt]; exact h2), if_pos ⟨by rw [show i + o + 1 = (i + 1) + o by omega, hE _ y1]; exact x1, by rw [show i + o + 2 = (i + 2) + o by omega, hE _ y2]; exact x2, by rw [show i + o + 3 = (i + 3) + o by omega, hE _ y3]; exact x3, by rw [show i + o + 4 = (i + 4) + o by omega, hE _ y4]; exact x4⟩]
        congr 1
        omega
      · cases h
    · cases h
include hE hM in
theorem e_st : ∀ (d i j : Nat), L.length - i ≤ d → st L i = some j → st M (i + o) = some (j + o) := by
  intro d
  induction d with
  | zero =>
    intro i j hd h
    rw [st, dif_neg (by omega)] at h
    cases h
  | succ d ih =>
    intro i j hd h
    rw [st] at h
    split at h
    · rename_i hlt
      have hg := hE i hlt
      rw [st, dif_pos (by omega), hg]
      split at h
      · rename_i h1
        injection h with h
        rw [if_pos h1]
        congr 1
        omega
      · rename_i h1
        rw [if_neg h1]
        split at h
        · cases h
        · rename_i h2
          rw [if_neg h2]
          split at h
          · rename_i h3
            rw [if_pos h3]
            split at h
            · cases h
            · rename_i m hm
              have hme := escE_le hm
              have hm' := e_esc hE hm
              rw [show i + 1 + o = i + o + 1 by omega] at hm'
              split
              · rename_i hn
                rw [hm'] at hn
                cases hn
              · rename_i m' hn
                rw [hm'] at hn
                injection hn with hn
                rw [← hn]
                exact ih m j (by omega) h
          · rename_i h3
            rw [if_neg h3, show i + o + 1 = (i + 1) + o by omega]
            exact ih (i + 1) j (by omega) h
    · cases h
include hE hM in
theorem e_sign {i : Nat} (hi : i < L.length) : signE M (i + o) = signE L i + o := by
  unfold signE
  by_cases h : at_ L i 43 ∨ at_ L i 45
  · rw [if_pos h, if_pos (h.imp (e_at hE hM) (e_at hE hM))]
    omega
  · rw [if_neg h, if_neg (fun h2 => h2.elim (e_not hE hi (fun h1 => h (.inl h1))) (e_not hE hi (fun h1 => h (.inr h1))))]
include hE hM in
theorem e_exp {i e : Nat} (hi : i ≤ L.length) (h : expE L i = some e) (hT : e < L.length ∨ ¬ NumC (gb M (L.length + o))) : expE M (i + o) = some (e + o) := by
  unfold expE at h ⊢
  split at h
  · rename_i h1
    have hil : i < L.length := h1.elim (fun h => h.1) (fun h => h.1)
    rw [if_pos (h1.imp (e_at hE hM) (e_at hE hM))]
    split at h
    · rename_i h2
      injection h with h
      subst h
      have hs := signE_le (L := L) (i := i + 1) (by omega)
      have hl : i + 1 < L.length := by
        rcases Nat.lt_or_ge (i + 1) L.length with h | h
        · exact h
        · exfalso
          have hd : ¬ isDig (gb L (signE L (i + 1))) := fun hb => by have := dig_in hb; omega
          rw [dg, dif_neg hd] at h2
          omega
      have hd := e_dg hE _ (signE L (i + 1)) (Nat.le_refl _) hs.2 (hT.imp id (fun h hb => h (.inl hb)))
      rw [show i + o + 1 = (i + 1) + o by omega, e_sign hE hM hl, hd, if_pos (by omega)]
    · cases h
  · rename_i h1
    injection h with h
    subst h
    rw [if_neg (fun h2 => h2.elim (e_notT hE hi (hT.imp id (fun h e => h (by rw [e]; exact .inr (.inr (.inl rfl))))) (fun h => h1 (.inl h))) (e_notT hE hi (hT.imp id (fun h e => h (by rw [e]; exact .inr (.inr (.inr (.inl rfl)))))) (fun h => h1 (.inr h))))]
include hE hM in
theorem e_frac {i e : Nat} (hi : i ≤ L.length) (h : fracE L i = some e) (hT : e < L.length ∨ ¬ NumC (gb M (L.length + o))) : fracE M (i + o) = some (e + o) := by
  unfold fracE at h ⊢
  split at h
  · rename_i h1
    have hil := h1.1
    rw [if_pos (e_at hE hM h1)]
    split at h
    · rename_i h2
      have hl := dg_le L (i + 1) (by omega)
      have he := expE_le hl.2 h
      have hd := e_dg hE _ (i + 1) (Nat.le_refl _) (by omega) (by
        rcases Nat.lt_or_ge (dg L (i + 1)) L.length with h | h
        · exact .inl h
        · exact .inr (fun hb => (hT.resolve_left (by omega)) (.inl hb)))
      rw [show i + o + 1 = (i + 1) + o by omega, hd, if_pos (by omega)]
      exact e_exp hE hM hl.2 h hT
    · cases h
  · rename_i h1
    have he := expE_le hi h
    rw [if_neg (e_notT hE hi (by
      rcases Nat.lt_or_ge i L.length with h | h
      · exact .inl h
      · exact .inr (fun e => (hT.resolve_left (by omega)) (by rw [e]; exact .inr (.inl rfl)))) h1)]
    exact e_exp hE hM hi h hT
include hE hM in
theorem e_num {i e : Nat} (hi : i < L.length) (h : numE L i = some e) (hT : e < L.length ∨ ¬ NumC (gb M (L.length + o))) : numE M (i + o) = some (e + o) := by
  have hm : minusE M (i + o) = minusE L i + o := by
    unfold minusE
    by_cases h : at_ L i 45
    · rw [if_pos h, if_pos (e_at hE hM h)]
      omega
    · rw [if_neg h, if_neg (e_not hE hi h)]
  have hml := minusE_le (L := L) (i := i) (by omega)
  unfold numE at h ⊢
  rw [hm]
  split at h
  · rename_i h1
    have := h1.1
    rw [if_pos (e_at hE hM h1), show minusE L i + o + 1 = (minusE L i + 1) + o by omega]
    exact e_frac hE hM (by omega) h hT
  · rename_i h1
    split at h
    · rename_i h2
      have hl := dg_le L (minusE L i) hml.2
      have he := fracE_le hl.2 h
      have hlt : minusE L i < L.length := by omega
      have hd := e_dg hE _ (minusE L i) (Nat.le_refl _) hml.2 (by
        rcases Nat.lt_or_ge (dg L (minusE L i)) L.length with h | h
        · exact .inl h
        · exact .inr (fun hb => (hT.resolve_left (by omega)) (.inl hb)))
      rw [if_neg (e_not hE hlt h1), hd, if_pos (by omega)]
      exact e_frac hE hM hl.2 h hT
    · cases h
include hE hM in
theorem e_word {i : Nat} {w : List Int} (hi : i ≤ L.length) (h : wordE L i w) : wordE M (i + o) w := by
  have hl := wordE_le h hi
  unfold wordE at h ⊢
  apply List.ext_getElem?
  intro k
  by_cases hk : k < w.length
  · have hh := congrArg (fun l => l[k]?) h
    simp only [List.getElem?_take_of_lt hk, List.getElem?_drop] at hh ⊢
    rw [← hh]
    have h1 : i + k < L.length := by omega
    have h2 : i + o + k < M.length := by omega
    have hg := hE (i + k) h1
    unfold gb at hg
    rw [List.getD_eq_getElem?_getD, List.getD_eq_getElem?_getD, show i + k + o = i + o + k by omega, List.getElem?_eq_getElem h2, List.getElem?_eq_getElem h1] at hg
    rw [List.getElem?_eq_getElem h2, List.getElem?_eq_getElem h1]
    simpa using hg
  · rw [List.getElem?_eq_none (by simp; omega), List.getElem?_eq_none (by omega)]
include hE in
theorem e_noword {i : Nat} {w v : List Int} (hi : i < L.length) (hw : w.head? ≠ v.head?) (hw0 : w ≠ []) (hv0 : v ≠ []) (h : wordE L i w) : ¬ wordE M (i + o) v := by
  intro h2
  have hh : ∀ (N : List Int) (k : Nat) (u : List Int), u ≠ [] → wordE N k u → u.head? = N[k]? := by
    intro N k u hu h
    unfold wordE at h
    cases u with
    | nil => exact absurd rfl hu
    | cons x u =>
      rw [← h, List.length_cons]
      cases hd : N.drop k with
      | nil =>
        rw [hd] at h
        simp at h
      | cons y r =>
        have := List.head?_drop (l := N) (i := k)
        rw [hd] at this
        simpa using this
  have h3 := hh L i w hw0 h
  have h4 := hh M (i + o) v hv0 h2
  have hg := hE i hi
  apply hw
  rw [h3, h4]
  have hM' : i + o < M.length := by
    rcases Nat.lt_or_ge (i + o) M.length with h | h
    · exact h
    · rw [List.getElem?_eq_none h] at h4
      cases v with
      | nil => exact absurd rfl hv0
      | cons x v => simp at h4
  unfold gb at hg
  rw [List.getD_eq_getElem?_getD, List.getD_eq_getElem?_getD, List.getElem?_eq_getElem hM', List.getElem?_eq_getElem hi] at hg
  rw [List.getElem?_eq_getElem hM', List.getElem?_eq_getElem hi]
  simp at hg
  rw [hg]
theorem val_far {L : List Int} {n i : Nat} (h1 : L.length ≤ i) (h2 : i ≤ L.length) : val L n i = none := by
  cases n with
  | zero => rw [val]
  | succ n =>
    have hw : ∀ w : List Int, 0 < w.length → ¬ wordE L i w := fun w hw h => by
      have := wordE_le h h2
      omega
    rw [val, if_neg (fun h1 => by have := h1.1; omega), if_neg (fun h1 => by have := h1.1; omega), if_neg (fun h1 => by have := h1.1; omega), if_neg (fun h => h.elim (fun h1 => by have := h1.1; omega) (fun h => by have := dig_in h; omega)), if_neg (hw _ (by decide)), if_neg (hw _ (by decide)), if_neg (hw _ (by decide))]
theorem elts_end {L : List Int} {n i : Nat} {ks : List S25} (h1 : L.length ≤ i) (h2 : i ≤ L.length) : elts L n i ks = none := by
  cases n with
  | zero => rw [elts]
  | succ n => rw [elts, val_far h1 h2]
theorem e_all (hE : ∀ i, i < L.length → gb M (i + o) = gb L i) (hM : L.length + o ≤ M.length) : ∀ n : Nat,
    (∀ i p e, val L n i = some (p, e) → (e < L.length ∨ ¬ NumC (gb M (L.length + o)) ∨ (at_ L i 123 ∨ at_ L i 91 ∨ at_ L i 34)) → i ≤ L.length → ∃ p', val M n (i + o) = some (p', e + o)) ∧
    (∀ i a b e, mem0 L n i = some (a, b, e) → i < L.length → ∃ a' b', mem0 M n (i + o) = some (a', b', e + o)) ∧
    (∀ i ns ks ns' ks' a b e, mems L n i ns ks = some (a, b, e) → i ≤ L.length → ∃ a' b', mems M n (i + o) ns' ks' = some (a', b', e + o)) ∧
    (∀ i b e, elt0 L n i = some (b, e) → i < L.length → ∃ b', elt0 M n (i + o) = some (b', e + o)) ∧
    (∀ i ks ks' b e, elts L n i ks = some (b, e) → i ≤ L.length → ∃ b', elts M n (i + o) ks' = some (b', e + o)) := by
  intro n
  induction n with
  | zero =>
    refine ⟨fun i p e h => ?_, fun i a b e h => ?_, fun i ns ks ns' ks' a b e h => ?_, fun i b e h => ?_, fun i ks ks' b e h => ?_⟩
    · rw [val] at h; cases h
    · rw [mem0] at h; cases h
    · rw [mems] at h; cases h
    · rw [elt0] at h; cases h
    · rw [elts] at h; cases h
  | succ n ih =>
    obtain ⟨ihv, ihm0, ihm, ihe0, ihe⟩ := ih
    refine ⟨fun i p e h hT hi => ?_, fun i a b e h hi => ?_, fun i ns ks ns' ks' a b e h hi => ?_, fun i b e h hi => ?_, fun i ks ks' b e h hi => ?_⟩
    · rw [val] at h ⊢
      split at h
      · rename_i h1
        obtain ⟨⟨a, b, e1⟩, hm, h⟩ := Option.map_eq_some_iff.mp h
        simp only [Prod.mk.injEq] at h
        obtain ⟨rfl, rfl⟩ := h
        obtain ⟨a', b', hm'⟩ := ihm0 _ _ _ _ hm h1.1
        rw [if_pos (e_at hE hM h1), hm']
        exact ⟨_, rfl⟩
      · rename_i h1
        split at h
        · rename_i h2
          obtain ⟨⟨b, e1⟩, hm, h⟩ := Option.map_eq_some_iff.mp h
          simp only [Prod.mk.injEq] at h
          obtain ⟨rfl, rfl⟩ := h
          obtain ⟨b', hm'⟩ := ihe0 _ _ _ hm h2.1
          rw [if_neg (e_not hE h2.1 h1), if_pos (e_at hE hM h2), hm']
          exact ⟨_, rfl⟩
        · rename_i h2
          split at h
          · rename_i h3
            obtain ⟨j, hm, h⟩ := Option.map_eq_some_iff.mp h
            simp only [Prod.mk.injEq] at h
            obtain ⟨rfl, rfl⟩ := h
            have hs := e_st hE hM _ _ _ (Nat.le_refl _) hm
            rw [show i + 1 + o = i + o + 1 by omega] at hs
            rw [if_neg (e_not hE h3.1 h1), if_neg (e_not hE h3.1 h2), if_pos (e_at hE hM h3), hs]
            exact ⟨_, rfl⟩
          · rename_i h3
            split at h
            · rename_i h4
              obtain ⟨j, hm, h⟩ := Option.map_eq_some_iff.mp h
              simp only [Prod.mk.injEq] at h
              obtain ⟨rfl, rfl⟩ := h
              have hil : i < L.length := h4.elim (fun h => h.1) dig_in
              have hT' : j < L.length ∨ ¬ NumC (gb M (L.length + o)) := by
                rcases hT with h | h | h
                · exact .inl h
                · exact .inr h
                · exact absurd h (fun h => h.elim h1 (fun h => h.elim h2 h3))
              rw [if_neg (e_not hE hil h1), if_neg (e_not hE hil h2), if_neg (e_not hE hil h3), if_pos (h4.imp (e_at hE hM) (fun h => by rw [hE i hil]; exact h)), e_num hE hM hil hm hT']
              exact ⟨_, rfl⟩
            · rename_i h4
              have key : ∀ w : List Int, 0 < w.length → wordE L i w → i < L.length := fun w h0 hw => by
                have := wordE_le hw hi
                omega
              have n4 : i < L.length → ¬ (at_ M (i + o) 45 ∨ isDig (gb M (i + o))) := fun hil h => h4 (h.imp (fun h => ⟨hil, by rw [← hE i hil]; exact h.2⟩) (fun h => by rw [← hE i hil]; exact h))
              split at h
              · rename_i hw
                simp only [Option.some.injEq, Prod.mk.injEq] at h
                obtain ⟨rfl, rfl⟩ := h
                have hil := key _ (by decide) hw
                rw [if_neg (e_not hE hil h1), if_neg (e_not hE hil h2), if_neg (e_not hE hil h3), if_neg (n4 hil), if_pos (e_word hE hM hi hw)]
                exact ⟨_, by rw [show i + o + 4 = i + 4 + o by omega]⟩
              · split at h
                · rename_i hw
                  simp only [Option.some.injEq, Prod.mk.injEq] at h
                  obtain ⟨rfl, rfl⟩ := h
                  have hil := key _ (by decide) hw
                  rw [if_neg (e_not hE hil h1), if_neg (e_not hE hil h2), if_neg (e_not hE hil h3), if_neg (n4 hil), if_neg (e_noword hE hil (by simp) (by simp) (by simp) hw), if_pos (e_word hE hM hi hw)]
                  exact ⟨_, by rw [show i + o + 5 = i + 5 + o by omega]⟩
                · split at h
                  · rename_i hw
                    simp only [Option.some.injEq, Prod.mk.injEq] at h
                    obtain ⟨rfl, rfl⟩ := h
                    have hil := key _ (by decide) hw
                    rw [if_neg (e_not hE hil h1), if_neg (e_not hE hil h2), if_neg (e_not hE hil h3), if_neg (n4 hil), if_neg (e_noword hE hil (by simp) (by simp) (by simp) hw), if_neg (e_noword hE hil (by simp) (by simp) (by simp) hw), if_pos (e_word hE hM hi hw)]
                    exact ⟨_, by rw [show i + o + 4 = i + 4 + o by omega]⟩
                  · cases h
    · rw [mem0] at h ⊢
      have hb := bl_le L (i + 1) (by omega)
      have hbl : bl L (i + 1) < L.length := by
        split at h
        · rename_i h1
          exact h1.1
        · rcases Nat.lt_or_ge (bl L (i + 1)) L.length with hl | hl
          · exact hl
          · cases n with
            | zero => rw [mems] at h; cases h
            | succ n =>
              rw [mems, if_neg (fun h1 => by have := h1.1; omega)] at h
              cases h
      have hbb := e_bl hE _ (i + 1) (Nat.le_refl _) hbl
      rw [show i + o + 1 = i + 1 + o by omega, hbb]
      split at h
      · rename_i h1
        simp only [Option.some.injEq, Prod.mk.injEq] at h
        obtain ⟨rfl, rfl, rfl⟩ := h
        rw [if_pos (e_at hE hM h1)]
        exact ⟨_, _, by rw [show bl L (i + 1) + o + 1 = bl L (i + 1) + 1 + o by omega]⟩
      · rename_i h1
        rw [if_neg (e_not hE hbl h1)]
        exact ihm _ _ _ _ _ _ _ _ h hb.2
    · rw [mems] at h ⊢
      split at h
      case isFalse => cases h
      case isTrue h1 =>
      rw [if_pos (e_at hE hM h1)]
      split at h
      · cases h
      · rename_i j hj
        have hjl := st_le L _ _ _ (Nat.le_refl _) hj
        have hs := e_st hE hM _ _ _ (Nat.le_refl _) hj
        rw [show i + 1 + o = i + o + 1 by omega] at hs
        rw [hs]
        split at h
        case isFalse => cases h
        case isTrue h2 =>
        have hb1 := e_bl hE _ j (Nat.le_refl _) h2.1
        simp only [hb1, if_pos (e_at hE hM h2)]
        split at h
        · cases h
        · rename_i p e1 hv
          have h2l := h2.1
          have hbl2 := bl_le L (bl L j + 1) (by omega)
          have hvl : bl L (bl L j + 1) < L.length ∧ e1 < L.length ∧ bl L e1 < L.length := by
            have hx : bl L e1 < L.length := by
              split at h
              · rename_i h3
                exact h3.1
              · split at h
                · rename_i h3
                  exact h3.1
                · cases h
            have hge : e1 ≤ bl L e1 ∨ L.length < e1 := by
              rcases Nat.lt_or_ge L.length e1 with h | h
              · exact .inr h
              · exact .inl (bl_le L e1 h).1
            have he1 : e1 ≤ L.length := by
              rcases Nat.lt_or_ge L.length e1 with h | h
              · rw [bl, dif_neg (fun hb => by have := blank_in hb; omega)] at hx
                omega
              · exact h
            have := (bl_le L e1 he1).1
            refine ⟨?_, by omega, hx⟩
            rcases Nat.lt_or_ge (bl L (bl L j + 1)) L.length with h | h
            · exact h
            · exfalso
              cases n with
              | zero => rw [val] at hv; cases hv
              | succ n =>
                have hw : ∀ w : List Int, 0 < w.length → ¬ wordE L (bl L (bl L j + 1)) w := fun w hw h => by
                  have := wordE_le h hbl2.2
                  omega
                rw [val, if_neg (fun h1 => by have := h1.1; omega), if_neg (fun h1 => by have := h1.1; omega), if_neg (fun h1 => by have := h1.1; omega), if_neg (fun h => h.elim (fun h1 => by have := h1.1; omega) (fun h => by have := dig_in h; omega)), if_neg (hw _ (by decide)), if_neg (hw _ (by decide)), if_neg (hw _ (by decide))] at hv
                cases hv
          have hb2 := e_bl hE _ (bl L j + 1) (Nat.le_refl _) hvl.1
          obtain ⟨p', hv'⟩ := ihv _ _ _ hv (.inl hvl.2.1) hbl2.2
          have hb3 := e_bl hE _ e1 (Nat.le_refl _) hvl.2.2
          rw [show bl L j + o + 1 = bl L j + 1 + o by omega, hb2, hv']
          simp only [hb3]
          split at h
          · rename_i h3
            simp only [Option.some.injEq, Prod.mk.injEq] at h
            obtain ⟨rfl, rfl, rfl⟩ := h
            rw [if_pos (e_at hE hM h3)]
            exact ⟨_, _, by rw [show bl L e1 + o + 1 = bl L e1 + 1 + o by omega]⟩
          · rename_i h3
            rw [if_neg (e_not hE hvl.2.2 h3)]
            split at h
            case isFalse => cases h
            case isTrue h4 =>
            rw [if_pos (e_at hE hM h4)]
            have hbl4 := bl_le L (bl L e1 + 1) (by omega)
            have hb4l : bl L (bl L e1 + 1) < L.length := by
              rcases Nat.lt_or_ge (bl L (bl L e1 + 1)) L.length with hl | hl
              · exact hl
              · cases n with
                | zero => rw [mems] at h; cases h
                | succ n =>
                  rw [mems, if_neg (fun h1 => by have := h1.1; omega)] at h
                  cases h
            have hb4 := e_bl hE _ (bl L e1 + 1) (Nat.le_refl _) hb4l
            rw [show bl L e1 + o + 1 = bl L e1 + 1 + o by omega, hb4]
            exact ihm _ _ _ _ _ _ _ _ h hbl4.2
    · rw [elt0] at h ⊢
      have hb := bl_le L (i + 1) (by omega)
      have hbl : bl L (i + 1) < L.length := by
        split at h
        · rename_i h1
          exact h1.1
        · rcases Nat.lt_or_ge (bl L (i + 1)) L.length with hl | hl
          · exact hl
          · exact absurd h (by rw [elts_end (by omega) (by omega)]; simp)
      have hbb := e_bl hE _ (i + 1) (Nat.le_refl _) hbl
      rw [show i + o + 1 = i + 1 + o by omega, hbb]
      split at h
      · rename_i h1
        simp only [Option.some.injEq, Prod.mk.injEq] at h
        obtain ⟨rfl, rfl⟩ := h
        rw [if_pos (e_at hE hM h1)]
        exact ⟨_, by rw [show bl L (i + 1) + o + 1 = bl L (i + 1) + 1 + o by omega]⟩
      · rename_i h1
        rw [if_neg (e_not hE hbl h1)]
        exact ihe _ _ _ _ _ h hb.2
    · rw [elts] at h ⊢
      split at h
      · cases h
      · rename_i p e1 hv
        have hx : bl L e1 < L.length := by
          split at h
          · rename_i h3
            exact h3.1
          · split at h
            · rename_i h3
              exact h3.1
            · cases h
        have he1 : e1 ≤ L.length := by
          rcases Nat.lt_or_ge L.length e1 with h | h
          · rw [bl, dif_neg (fun hb => by have := blank_in hb; omega)] at hx
            omega
          · exact h
        have hle := (bl_le L e1 he1).1
        obtain ⟨p', hv'⟩ := ihv _ _ _ hv (.inl (by omega)) hi
        have hb3 := e_bl hE _ e1 (Nat.le_refl _) hx
        rw [hv']
        simp only [hb3]
        split at h
        · rename_i h3
          simp only [Option.some.injEq, Prod.mk.injEq] at h
          obtain ⟨rfl, rfl⟩ := h
          rw [if_pos (e_at hE hM h3)]
          exact ⟨_, by rw [show bl L e1 + o + 1 = bl L e1 + 1 + o by omega]⟩
        · rename_i h3
          rw [if_neg (e_not hE hx h3)]
          split at h
          case isFalse => cases h
          case isTrue h4 =>
          rw [if_pos (e_at hE hM h4)]
          have hbl4 := bl_le L (bl L e1 + 1) (by omega)
          have hb4l : bl L (bl L e1 + 1) < L.length := by
            rcases Nat.lt_or_ge (bl L (bl L e1 + 1)) L.length with hl | hl
            · exact hl
            · exact absurd h (by rw [elts_end (by omega) (by omega)]; simp)
          have hb4 := e_bl hE _ (bl L e1 + 1) (Nat.le_refl _) hb4l
          rw [show bl L e1 + o + 1 = bl L e1 + 1 + o by omega, hb4]
          exact ihe _ _ _ _ _ h hbl4.2
end
/-! ### The law -/
theorem val_end {L : List Int} {n i e : Nat} {p : S25} (h : val L n i = some (p, e)) : p.f2 = (e : Int) := by
  cases n with
  | zero => rw [val] at h; cases h
  | succ n =>
    rw [val] at h
    repeat' split at h
    all_goals first
      | (obtain ⟨q, _, hq⟩ := Option.map_eq_some_iff.mp h; simp only [Prod.mk.injEq] at hq; obtain ⟨rfl, rfl⟩ := hq; rfl)
      | (simp only [Option.some.injEq, Prod.mk.injEq] at h; obtain ⟨rfl, rfl⟩ := h; rfl)
      | cases h
end Go.Proofs.Ytphpjboljlkdkaa.Pure
