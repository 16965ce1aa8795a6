/- What an escape of a JSON string stands for, as jsonparser reads it: plain functions, and that the printed functions are these. -/
import Derived.Test.YtgbliniamkpocaaDoorPEscx1
import Derived.Lib.RuneBytes
namespace Go.Proofs.YtgbliniamkpocaaDoor.Jp
open Go.RowKit Go.Proofs.YtgbliniamkpocaaDoorW.PrintWords Go.Proofs.YtgbliniamkpocaaDoor.PEsc

def hx (c : Int) : Int := if 48 ≤ c ∧ c ≤ 57 then c - 48 else if 65 ≤ c ∧ c ≤ 70 then c - 55 else if 97 ≤ c ∧ c ≤ 102 then c - 87 else -1
theorem hx_range (c : Int) : hx c = -1 ∨ (0 ≤ hx c ∧ hx c ≤ 15) := by unfold hx; repeat' split <;> omega
theorem h2I_ev (c : Int) : Ev (fun k => jsonparser_h2I.f k c) (hx c) := by
  refine ⟨2, fun k hk => ?_⟩
  obtain ⟨k, rfl⟩ : ∃ m, k = m + 2 := ⟨k - 2, by omega⟩
  show jsonparser_h2I.f (k + 2) c = some (hx c)
  unfold jsonparser_h2I.f hx
  by_cases h1 : 48 ≤ c <;> by_cases h2 : c ≤ 57 <;> by_cases h3 : 65 ≤ c <;> by_cases h4 : c ≤ 70 <;> by_cases h5 : 97 ≤ c <;> by_cases h6 : c ≤ 102 <;> first | omega | (simp [jsonparser_h2I.j0, jsonparser_h2I.j1, h1, h2, h3, h4, h5, h6] <;> omega)
/-- Four hexadecimal digits behind \u. -/
def sg (l : List Int) : Int × Bool :=
  if l.length < 6 then (65533, false)
  else if hx (l.getD 2 0) = -1 ∨ hx (l.getD 3 0) = -1 ∨ hx (l.getD 4 0) = -1 ∨ hx (l.getD 5 0) = -1 then (65533, false)
  else (hx (l.getD 2 0) * 4096 + hx (l.getD 3 0) * 256 + hx (l.getD 4 0) * 16 + hx (l.getD 5 0), true)
theorem sg_range (l : List Int) : 0 ≤ (sg l).1 ∧ (sg l).1 ≤ 65535 := by
  unfold sg
  have h2 := hx_range (l.getD 2 0)
  have h3 := hx_range (l.getD 3 0)
  have h4 := hx_range (l.getD 4 0)
  have h5 := hx_range (l.getD 5 0)
  split
  · simp
  · split
    · simp
    · simp only
      omega
theorem sg_ev (l : List Int) : Ev (fun k => jsonparser_decodeSingleUnicodeEscape.f k l) (sg l) := by
  unfold jsonparser_decodeSingleUnicodeEscape.f sg
  by_cases hl : l.length < 6
  · simp only [if_pos hl, if_pos (show (l.length : Int) < 6 by omega)]
    exact Ev.now _
  · simp only [if_neg hl, if_neg (show ¬ (l.length : Int) < 6 by omega), if_pos (show 2 < (l.length : Int) by omega), if_pos (show 3 < (l.length : Int) by omega), if_pos (show 4 < (l.length : Int) by omega), if_pos (show 5 < (l.length : Int) by omega)]
    have r : ∀ i : Nat, rd l (i : Int) = l.getD i 0 := fun i => by simp [rd]
    have r2 : rd l 2 = l.getD 2 0 := r 2
    have r3 : rd l 3 = l.getD 3 0 := r 3
    have r4 : rd l 4 = l.getD 4 0 := r 4
    have r5 : rd l 5 = l.getD 5 0 := r 5
    rw [r2, r3, r4, r5]
    refine Ev.bind (h2I_ev _) (Ev.bind (h2I_ev _) (Ev.bind (h2I_ev _) (Ev.bind (h2I_ev _) ?_)))
    have h2 := hx_range (l.getD 2 0)
    have h3 := hx_range (l.getD 3 0)
    have h4 := hx_range (l.getD 4 0)
    have h5 := hx_range (l.getD 5 0)
    generalize hx (l.getD 2 0) = a at h2 ⊢
    generalize hx (l.getD 3 0) = b at h3 ⊢
    generalize hx (l.getD 4 0) = c at h4 ⊢
    generalize hx (l.getD 5 0) = d at h5 ⊢
    by_cases e2 : a = -1
    · simp only [e2, true_or, if_true]
      exact Ev.now _
    by_cases e3 : b = -1
    · simp only [e3, true_or, or_true, if_true, if_neg e2]
      exact Ev.now _
    by_cases e4 : c = -1
    · simp only [e4, true_or, or_true, if_true, if_neg e2, if_neg e3]
      exact Ev.now _
    by_cases e5 : d = -1
    · simp only [e5, or_true, if_true, if_neg e2, if_neg e3, if_neg e4]
      exact Ev.now _
    · rw [if_neg (show ¬ (a = -1 ∨ b = -1 ∨ c = -1 ∨ d = -1) by omega)]
      simp only [if_neg e2, if_neg e3, if_neg e4, if_neg e5]
      rw [show wrap32 (wrap64 (wrap64 (wrap64 (wrap64 (a * 4096) + wrap64 (b * 256)) + wrap64 (c * 16)) + d)) = a * 4096 + b * 256 + c * 16 + d by unfold wrap32 wrap64; omega]
      exact Ev.now _
/-- What \uXXXX stands for, and how many bytes it takes; -1: none. -/
def dec (l : List Int) : Int × Int :=
  if (sg l).2 = false then (65533, -1)
  else if ¬ (55296 ≤ (sg l).1 ∧ (sg l).1 ≤ 57343) then ((sg l).1, 6)
  else if 56320 ≤ (sg l).1 then (65533, 6)
  else if l.length < 8 ∨ l.getD 6 0 ≠ 92 ∨ l.getD 7 0 ≠ 117 then (65533, 6)
  else if (sg (l.drop 6)).2 = false then (65533, -1)
  else if (sg (l.drop 6)).1 < 56320 ∨ 57343 < (sg (l.drop 6)).1 then (65533, 6)
  else (65536 + ((sg l).1 - 55296) * 1024 + ((sg (l.drop 6)).1 - 56320), 12)
theorem sg_len {l : List Int} (h : (sg l).2 = true) : 6 ≤ l.length := by
  unfold sg at h
  split at h
  · cases h
  · omega
theorem dec_range (l : List Int) : 0 ≤ (dec l).1 ∧ (dec l).1 ≤ 1114111 ∧ ((dec l).2 = -1 ∨ ((dec l).2 = 6 ∧ 6 ≤ l.length ∧ (dec l).1 ≤ 65535) ∨ ((dec l).2 = 12 ∧ 12 ≤ l.length)) := by
  have h1 := sg_range l
  have h2 := sg_range (l.drop 6)
  unfold dec
  cases hs : (sg l).2 with
  | false => simp
  | true =>
    have hl := sg_len hs
    rw [if_neg (by simp)]
    split
    · exact ⟨h1.1, Int.le_trans h1.2 (by decide), .inr (.inl ⟨rfl, hl, h1.2⟩)⟩
    · split
      · exact ⟨by decide, by decide, .inr (.inl ⟨rfl, hl, by decide⟩)⟩
      · split
        · exact ⟨by decide, by decide, .inr (.inl ⟨rfl, hl, by decide⟩)⟩
        · cases hs2 : (sg (l.drop 6)).2 with
          | false => simp
          | true =>
            have hl2 := sg_len hs2
            rw [List.length_drop] at hl2
            rw [if_neg (by simp)]
            split
            · exact ⟨by decide, by decide, .inr (.inl ⟨rfl, hl, by decide⟩)⟩
            · rename_i g1 g2 _ g3
              have g1' : 55296 ≤ (sg l).1 ∧ (sg l).1 ≤ 57343 := Decidable.not_not.1 g1
              refine ⟨?_, ?_, .inr (.inr ⟨rfl, by omega⟩)⟩ <;> (show _ ≤ _; dsimp only; omega)
theorem j0_yes (l : List Int) (a : Int) : Ev (fun k => jsonparser_decodeUnicodeEscape.j0 k l a true) (65533, 6) := by
  refine Ev.step (f := fun _ => some (65533, 6)) (fun k => ?_) (Ev.now _)
  simp [jsonparser_decodeUnicodeEscape.j0]
theorem dec_ev (l : List Int) : Ev (fun k => jsonparser_decodeUnicodeEscape.f k l) (dec l) := by
  unfold jsonparser_decodeUnicodeEscape.f
  refine Ev.bind (sg_ev l) ?_
  have h1 := sg_range l
  have h2 := sg_range (l.drop 6)
  unfold dec
  cases hs : (sg l).2 with
  | false =>
    simp only [if_true, Bool.false_eq_true, if_false]
    exact Ev.now _
  | true =>
    have hl := sg_len hs
    simp only [if_true, Bool.true_eq_false, if_false]
    generalize (sg l).1 = a at h1 ⊢
    unfold jsonparser_isUTF16EncodedRune.f
    by_cases ha : 55296 ≤ a ∧ a ≤ 57343
    · rw [if_neg (show ¬ ¬ (55296 ≤ a ∧ a ≤ 57343) by simpa using ha)]
      simp only [if_pos ha.1, decide_eq_true ha.2, Option.bind_some, if_true]
      by_cases hlo : 56320 ≤ a
      · simp only [if_pos hlo]
        exact Ev.now _
      · simp only [if_neg hlo]
        by_cases hl8 : l.length < 8
        · rw [if_pos (.inl hl8)]
          simp only [if_pos (show (l.length : Int) < 8 by omega)]
          exact j0_yes l a
        · have r6 : rd l 6 = l.getD 6 0 := by simp [rd]
          have r7 : rd l 7 = l.getD 7 0 := by simp [rd]
          simp only [if_neg (show ¬ (l.length : Int) < 8 by omega), if_pos (show 6 < (l.length : Int) by omega), if_pos (show 7 < (l.length : Int) by omega), r6, r7]
          by_cases e6 : l.getD 6 0 = 92
          · simp only [if_pos e6]
            by_cases e7 : l.getD 7 0 = 117
            · rw [if_neg (fun h => by rcases h with h | h | h; exact hl8 h; exact h e6; exact h e7)]
              have eb : (l.getD 7 0 != 117) = false := by rw [e7]; rfl
              rw [eb]
              have hgo : ∀ k, jsonparser_decodeUnicodeEscape.j0 (k + 1) l a false = (jsonparser_decodeSingleUnicodeEscape.f k (l.drop 6)).bind fun bt115 => (if bt115.2 = true then (if bt115.1 < 56320 then (some (65533, 6)) else (if bt115.1 > 57343 then (some (65533, 6)) else ((jsonparser_combineUTF16Surrogates.f a bt115.1).bind fun t117 => (some (t117, 12))))) else (some (65533, (-1)))) := by
                intro k
                simp only [jsonparser_decodeUnicodeEscape.j0, Bool.false_eq_true, if_false]
                rw [if_pos (by omega)]
              refine Ev.step hgo (Ev.bind (sg_ev _) ?_)
              cases hs2 : (sg (l.drop 6)).2 with
              | false =>
                simp only [if_true, Bool.false_eq_true, if_false]
                exact Ev.now _
              | true =>
                simp only [if_true, Bool.true_eq_false, if_false]
                generalize (sg (l.drop 6)).1 = b at h2 ⊢
                by_cases b1 : b < 56320
                · simp only [b1, true_or, if_true]
                  exact Ev.now _
                by_cases b2 : 57343 < b
                · simp only [b1, b2, if_true, if_false, or_true]
                  exact Ev.now _
                · simp only [b1, b2, if_false, or_self, jsonparser_combineUTF16Surrogates.f, Option.bind_some]
                  rw [show wrap32 (wrap32 (65536 + wrap32 (wrap32 (a - 55296) * 1024)) + wrap32 (b - 56320)) = 65536 + (a - 55296) * 1024 + (b - 56320) by unfold wrap32; omega]
                  exact Ev.now _
            · rw [if_pos (.inr (.inr e7))]
              have eb : (l.getD 7 0 != 117) = true := by simpa using e7
              rw [eb]
              exact j0_yes l a
          · rw [if_pos (.inr (.inl e6))]
            simp only [if_neg e6]
            exact j0_yes l a
    · rw [if_pos ha]
      by_cases h3 : 55296 ≤ a
      · simp only [if_pos h3, decide_eq_false (show ¬ a ≤ 57343 by omega), Option.bind_some, Bool.false_eq_true, if_false]
        exact Ev.now _
      · simp only [if_neg h3, Option.bind_some, Bool.false_eq_true, if_false]
        exact Ev.now _
theorem dec_calls (A : Option Addr) (c : Nat) (l : List Int) (w : World) (hr : ReadsInt w .u8 A l.length l) (hc : l.length ≤ c) :
    Calls Tryd.prog 75 #[.slice A l.length c] w fun e w' => e = .returned (.tuple #[.int .i32 (dec l).1, .int .i64 (dec l).2]) ∧ Drawn0 w w' := by
  obtain ⟨k, hk⟩ := (dec_ev l).rounds
  exact jsonparser_decodeUnicodeEscape.calls k A c l _ _ w (Kd.C_of_reads (d := (0 : Int)) (h1 := fun _ => rfl) hr) hc hk
/-! ### One escape, and all of a string -/
def isSh (c : Int) : Prop := c = 34 ∨ c = 92 ∨ c = 47 ∨ c = 98 ∨ c = 102 ∨ c = 110 ∨ c = 114 ∨ c = 116
instance (c : Int) : Decidable (isSh c) := by unfold isSh; infer_instance
def sh (c : Int) : Int := if c = 98 then 8 else if c = 102 then 12 else if c = 110 then 10 else if c = 114 then 13 else if c = 116 then 9 else c
/-- The escape that begins here: how many bytes it takes, and what it gives. -/
def u1 (l : List Int) : Option (Nat × List Int) :=
  if l.length < 2 then none
  else if isSh (l.getD 1 0) then some (2, [sh (l.getD 1 0)])
  else if l.getD 1 0 = 117 then (if (dec l).2 = -1 then none else some ((dec l).2.toNat, Lib.encodeRuneZ (dec l).1))
  else none
theorem enc_len (r : Int) (h0 : 0 ≤ r) (h1 : r ≤ 1114111) : 1 ≤ (Lib.encodeRuneZ r).length ∧ (Lib.encodeRuneZ r).length ≤ 4 ∧ (r ≤ 65535 → (Lib.encodeRuneZ r).length ≤ 3) := by
  unfold Lib.encodeRuneZ
  repeat' split
  all_goals simp
  all_goals omega
theorem u1_le {l : List Int} {m : Nat} {bs : List Int} (h : u1 l = some (m, bs)) : 2 ≤ m ∧ m ≤ l.length ∧ 1 ≤ bs.length ∧ bs.length + 1 ≤ m := by
  unfold u1 at h
  split at h
  · cases h
  · split at h
    · simp only [Option.some.injEq, Prod.mk.injEq] at h
      obtain ⟨rfl, rfl⟩ := h
      simp
      omega
    · split at h
      · split at h
        · cases h
        · simp only [Option.some.injEq, Prod.mk.injEq] at h
          obtain ⟨rfl, rfl⟩ := h
          have hd := dec_range l
          have he := enc_len (dec l).1 hd.1 hd.2.1
          omega
      · cases h
/-- All of a string: what jsonparser's Unescape gives. -/
def un (l : List Int) : Option (List Int) :=
  match l with
  | [] => some []
  | c :: r =>
    if c = 92 then
      match _h : u1 (c :: r) with
      | none => none
      | some (m, bs) => (un ((c :: r).drop m)).map (bs ++ ·)
    else (un r).map (c :: ·)
termination_by l.length
decreasing_by
  · have := u1_le _h; simp only [List.length_drop, List.length_cons] at this ⊢; omega
  · simp
theorem un_nil : un [] = some [] := by rw [un]
theorem un_cons {c : Int} (r : List Int) (h : c ≠ 92) : un (c :: r) = (un r).map (c :: ·) := by rw [un, if_neg h]
theorem un_none {r : List Int} (h : u1 (92 :: r) = none) : un (92 :: r) = none := by
  rw [un, if_pos rfl]
  split
  · rfl
  · rename_i h2
    rw [h] at h2
    cases h2
theorem un_some {r bs : List Int} {m : Nat} (h : u1 (92 :: r) = some (m, bs)) : un (92 :: r) = (un ((92 :: r).drop m)).map (bs ++ ·) := by
  rw [un, if_pos rfl]
  split
  · rename_i h2
    rw [h] at h2
    cases h2
  · rename_i m' bs' h2
    rw [h] at h2
    injection h2 with h2
    injection h2 with a b
    subst a
    subst b
    rfl
theorem un_plain : ∀ (p r : List Int), (∀ x ∈ p, x ≠ 92) → un (p ++ r) = (un r).map (p ++ ·)
  | [], r, _ => by simp
  | c :: p, r, h => by
    rw [List.cons_append, un_cons _ (h c (by simp)), un_plain p r (fun x hx => h x (by simp [hx]))]
    cases un r <;> rfl
theorem un_all (l : List Int) (h : ∀ x ∈ l, x ≠ 92) : un l = some l := by
  have := un_plain l [] h
  rw [List.append_nil, un_nil] at this
  simpa using this
/-- The first backslash. -/
def bs0 : List Int → Nat
  | [] => 0
  | c :: r => if c = 92 then 0 else bs0 r + 1
theorem bs0_le : ∀ l : List Int, bs0 l ≤ l.length
  | [] => by simp [bs0]
  | c :: r => by
    have := bs0_le r
    unfold bs0
    split <;> simp <;> omega
theorem bs0_take : ∀ (l : List Int), ∀ x ∈ l.take (bs0 l), x ≠ 92
  | [] => by simp
  | c :: r => by
    unfold bs0
    split
    · simp
    · rename_i h
      intro x hx
      rw [List.take_succ_cons] at hx
      rcases List.mem_cons.1 hx with rfl | hx
      · exact h
      · exact bs0_take r x hx
theorem bs0_drop : ∀ (l : List Int), bs0 l < l.length → ∃ r, l.drop (bs0 l) = 92 :: r
  | [], h => by simp at h
  | c :: r, h => by
    unfold bs0 at h ⊢
    split
    · rename_i e
      exact ⟨r, by rw [e]; rfl⟩
    · rename_i e
      rw [if_neg e] at h
      obtain ⟨t, ht⟩ := bs0_drop r (by simp at h; omega)
      exact ⟨t, by rw [List.drop_succ_cons]; exact ht⟩
theorem un_step (l : List Int) : un l = (un (l.drop (bs0 l))).map (l.take (bs0 l) ++ ·) := by
  have := un_plain (l.take (bs0 l)) (l.drop (bs0 l)) (bs0_take l)
  rwa [List.take_append_drop] at this
end Go.Proofs.YtgbliniamkpocaaDoor.Jp
