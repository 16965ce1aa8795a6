/- Characters in UTF-8, terms of a pattern, what fits: no program in sight. -/
import Derived.Shelf.Unicode.DecodeLast
namespace Go.Proofs.YtphpjboljlkdkaaDoor.Mt
open Go
/-! ### Characters in UTF-8, terms of a pattern, what fits -/
open Go.Lib
/-- A character that UTF-8 can write. -/
def okc (c : Nat) : Prop := c < 55296 ∨ (57344 ≤ c ∧ c ≤ 1114111)
/-- Its bytes. -/
def enc (c : Nat) : List UInt8 :=
  if c < 128 then [UInt8.ofNat c]
  else if c < 2048 then [UInt8.ofNat (192 + c / 64), UInt8.ofNat (128 + c % 64)]
  else if c < 65536 then [UInt8.ofNat (224 + c / 4096), UInt8.ofNat (128 + c / 64 % 64), UInt8.ofNat (128 + c % 64)]
  else [UInt8.ofNat (240 + c / 262144), UInt8.ofNat (128 + c / 4096 % 64), UInt8.ofNat (128 + c / 64 % 64), UInt8.ofNat (128 + c % 64)]
theorem u8 {n : Nat} (h : n < 256) : (UInt8.ofNat n).toNat = n := by
  rw [UInt8.toNat_ofNat']
  omega
theorem enc1 {c : Nat} (h : c < 128) : enc c = [UInt8.ofNat c] := if_pos h
theorem enc2 {c : Nat} (h : ¬ c < 128) (h2 : c < 2048) : enc c = [UInt8.ofNat (192 + c / 64), UInt8.ofNat (128 + c % 64)] := by unfold enc; rw [if_neg h, if_pos h2]
theorem enc3 {c : Nat} (h : ¬ c < 128) (h2 : ¬ c < 2048) (h3 : c < 65536) : enc c = [UInt8.ofNat (224 + c / 4096), UInt8.ofNat (128 + c / 64 % 64), UInt8.ofNat (128 + c % 64)] := by unfold enc; rw [if_neg h, if_neg h2, if_pos h3]
theorem enc4 {c : Nat} (h : ¬ c < 128) (h2 : ¬ c < 2048) (h3 : ¬ c < 65536) : enc c = [UInt8.ofNat (240 + c / 262144), UInt8.ofNat (128 + c / 4096 % 64), UInt8.ofNat (128 + c / 64 % 64), UInt8.ofNat (128 + c % 64)] := by unfold enc; rw [if_neg h, if_neg h2, if_neg h3]
theorem enc_pos (c : Nat) : 0 < (enc c).length := by
  unfold enc
  repeat' split
  all_goals simp
theorem decL (l : List UInt8) : decodeL l = decodeN l.length (l.getD 0 0).toNat (l.getD 1 0).toNat (l.getD 2 0).toNat (l.getD 3 0).toNat := by
  unfold decodeL
  rw [decode_at]
  have h : ∀ i, (ByteArray.mk l.toArray).get! i = l.getD i 0 := fun i => (getD_get! ⟨l.toArray⟩ i).symm
  have hs : (ByteArray.mk l.toArray).size = l.length := by simp [size_eq]
  rw [h, h, h, h, hs, Nat.sub_zero]
theorem dn1 {n b0 b1 b2 b3 : Nat} (h : b0 < 128) : decodeN n b0 b1 b2 b3 = (b0, 1) := by unfold decodeN; rw [if_pos h]
theorem dn2 {n c x b2 b3 : Nat} (hn : 1 < n) (h : 128 ≤ c) (h2 : c < 2048) (hx : x = 192 + c / 64) : decodeN n x (128 + c % 64) b2 b3 = (c, 2) := by
  unfold decodeN
  rw [if_neg (by omega), if_pos (by omega), if_pos (by omega)]
  congr 1
  omega
theorem dn3 {n c b3 : Nat} (hn : 2 < n) (h : 2048 ≤ c) (h2 : c < 65536) (hc : okc c) : decodeN n (224 + c / 4096) (128 + c / 64 % 64) (128 + c % 64) b3 = (c, 3) := by
  unfold okc at hc
  have e : (224 + c / 4096) % 16 * 4096 + (128 + c / 64 % 64) % 64 * 64 + (128 + c % 64) % 64 = c := by omega
  unfold decodeN
  rw [if_neg (by omega), if_neg (by omega), if_pos (by omega), e, if_pos (by omega)]
theorem dn4 {n c : Nat} (hn : 3 < n) (h : 65536 ≤ c) (hc : okc c) : decodeN n (240 + c / 262144) (128 + c / 4096 % 64) (128 + c / 64 % 64) (128 + c % 64) = (c, 4) := by
  unfold okc at hc
  have e : (240 + c / 262144) % 8 * 262144 + (128 + c / 4096 % 64) % 64 * 4096 + (128 + c / 64 % 64) % 64 * 64 + (128 + c % 64) % 64 = c := by omega
  unfold decodeN
  rw [if_neg (by omega), if_neg (by omega), if_neg (by omega), if_pos (by omega), e, if_pos (by omega)]
theorem dec_enc {c : Nat} (hc : okc c) (r : List UInt8) : decodeL (enc c ++ r) = (c, (enc c).length) := by
  have hm : c ≤ 1114111 := by unfold okc at hc; omega
  rw [decL]
  by_cases h1 : c < 128
  · rw [enc1 h1]
    simp only [List.cons_append, List.getD_cons_zero, List.length_cons, List.length_nil]
    rw [u8 (by omega), dn1 h1]
  by_cases h2 : c < 2048
  · rw [enc2 h1 h2]
    simp only [List.cons_append, List.getD_cons_zero, List.getD_cons_succ, List.length_cons, List.length_nil, List.nil_append]
    rw [u8 (by omega), u8 (by omega), dn2 (by omega) (by omega) h2 rfl]
  by_cases h3 : c < 65536
  · rw [enc3 h1 h2 h3]
    simp only [List.cons_append, List.getD_cons_zero, List.getD_cons_succ, List.length_cons, List.length_nil, List.nil_append]
    rw [u8 (by omega), u8 (by omega), u8 (by omega), dn3 (by omega) (by omega) h3 hc]
  · rw [enc4 h1 h2 h3]
    simp only [List.cons_append, List.getD_cons_zero, List.getD_cons_succ, List.length_cons, List.length_nil, List.nil_append]
    rw [u8 (by omega), u8 (by omega), u8 (by omega), u8 (by omega), dn4 (by omega) (by omega) hc]
theorem get_app (p q : List UInt8) (k : Nat) : (p ++ q).getD (p.length + k) 0 = q.getD k 0 := by
  rw [List.getD_eq_getElem?_getD, List.getD_eq_getElem?_getD, List.getElem?_append_right (Nat.le_add_right _ _), Nat.add_sub_cancel_left]
theorem rs_no {n : Nat} (h : n < 64) : runeStartB (UInt8.ofNat (128 + n)) = false := by
  unfold runeStartB
  rw [u8 (by omega)]
  simp
  omega
theorem rs_yes {n : Nat} (h : n < 256) (h2 : 192 ≤ n) : runeStartB (UInt8.ofNat n) = true := by
  unfold runeStartB
  rw [u8 h]
  simp
  omega
theorem last_of {p : List UInt8} {c : Nat} (hc : okc c) (h128 : ¬ c < 128) (hl : lastStart (p ++ enc c) = p.length) (hb : 128 ≤ ((p ++ enc c).getD ((p ++ enc c).length - 1) 0).toNat) : decodeLastL (p ++ enc c) = (c, (enc c).length) := by
  have _ := h128
  have hp := enc_pos c
  unfold decodeLastL
  rw [if_neg (by intro e; have := congrArg List.length e; rw [List.length_append, List.length_nil] at this; omega), if_neg (show ¬ ((p ++ enc c).getD ((p ++ enc c).length - 1) 0).toNat < 128 by omega), hl, List.drop_left]
  have hd := dec_enc hc []
  rw [List.append_nil] at hd
  simp only
  rw [hd, if_pos (by simp)]
theorem decLast_enc {c : Nat} (hc : okc c) (p : List UInt8) : decodeLastL (p ++ enc c) = (c, (enc c).length) := by
  have hm : c ≤ 1114111 := by unfold okc at hc; omega
  by_cases h1 : c < 128
  · unfold decodeLastL
    have hl : (p ++ enc c).length - 1 = p.length + 0 := by rw [enc1 h1]; simp
    rw [if_neg (by rw [enc1 h1]; simp), hl, get_app, enc1 h1]
    simp only [List.getD_cons_zero, List.length_cons, List.length_nil]
    rw [u8 (by omega), if_pos h1]
  by_cases h2 : c < 2048
  · refine last_of hc h1 ?_ ?_
    · refine lastStart_at2 _ p.length (by rw [enc2 h1 h2]; simp) ?_
      have := get_app p (enc c) 0
      rw [Nat.add_zero] at this
      rw [this, enc2 h1 h2]
      exact rs_yes (by omega) (by omega)
    · have hl : (p ++ enc c).length - 1 = p.length + 1 := by rw [enc2 h1 h2]; simp
      rw [hl, get_app, enc2 h1 h2]
      simp only [List.getD_cons_zero, List.getD_cons_succ]
      rw [u8 (by omega)]
      omega
  by_cases h3 : c < 65536
  · refine last_of hc h1 ?_ ?_
    · refine lastStart_at3 _ p.length (by rw [enc3 h1 h2 h3]; simp) ?_ ?_
      · rw [get_app, enc3 h1 h2 h3]
        exact rs_no (by omega)
      · have := get_app p (enc c) 0
        rw [Nat.add_zero] at this
        rw [this, enc3 h1 h2 h3]
        exact rs_yes (by omega) (by omega)
    · have hl : (p ++ enc c).length - 1 = p.length + 2 := by rw [enc3 h1 h2 h3]; simp
      rw [hl, get_app, enc3 h1 h2 h3]
      simp only [List.getD_cons_zero, List.getD_cons_succ]
      rw [u8 (by omega)]
      omega
  · refine last_of hc h1 ?_ ?_
    · refine lastStart_at4 _ p.length (by rw [enc4 h1 h2 h3]; simp) ?_ ?_ ?_
      · rw [get_app, enc4 h1 h2 h3]
        exact rs_no (by omega)
      · rw [get_app, enc4 h1 h2 h3]
        exact rs_no (by omega)
      · have := get_app p (enc c) 0
        rw [Nat.add_zero] at this
        rw [this, enc4 h1 h2 h3]
        exact rs_yes (by omega) (by omega)
    · have hl : (p ++ enc c).length - 1 = p.length + 3 := by rw [enc4 h1 h2 h3]; simp
      rw [hl, get_app, enc4 h1 h2 h3]
      simp only [List.getD_cons_zero, List.getD_cons_succ]
      rw [u8 (by omega)]
      omega
/-- A term: a star, any one character, a character. -/
inductive Tm where
  | star : Tm
  | one : Tm
  | ch (c : Nat) : Tm
/-- Characters that a pattern writes behind a backslash. -/
def spc (c : Nat) : Prop := c = 42 ∨ c = 63 ∨ c = 92
instance (c : Nat) : Decidable (spc c) := by unfold spc; infer_instance
def pr : Tm → List UInt8
  | .star => [42]
  | .one => [63]
  | .ch c => if spc c then [92, UInt8.ofNat c] else enc c
def okt : Tm → Prop
  | .ch c => okc c
  | _ => True
def encL (C : List Nat) : List UInt8 := C.flatMap enc
def prL (T : List Tm) : List UInt8 := T.flatMap pr
/-- A term that is no star fits a character. -/
def fit1 : Tm → Nat → Prop
  | .star, _ => False
  | .one, _ => True
  | .ch d, c => d = c
inductive Ft : List Nat → List Tm → Prop
  | nil : Ft [] []
  | star0 (C : List Nat) (T : List Tm) : Ft C T → Ft C (.star :: T)
  | star1 (c : Nat) (C : List Nat) (T : List Tm) : Ft C (.star :: T) → Ft (c :: C) (.star :: T)
  | step (c : Nat) (C : List Nat) (t : Tm) (T : List Tm) : fit1 t c → Ft C T → Ft (c :: C) (t :: T)
theorem Ft.one {C : List Nat} {t : Tm} {T : List Tm} (h : Ft C (t :: T)) (ht : t ≠ .star) : ∃ c C', C = c :: C' ∧ fit1 t c ∧ Ft C' T := by
  cases h with
  | star0 => exact absurd rfl ht
  | star1 => exact absurd rfl ht
  | step c C t T h1 h2 => exact ⟨c, C, rfl, h1, h2⟩
theorem Ft.star_or {c : Nat} {C : List Nat} {T : List Tm} (h : Ft (c :: C) (.star :: T)) : Ft (c :: C) T ∨ Ft C (.star :: T) := by
  cases h with
  | star0 _ _ h => exact .inl h
  | star1 _ _ _ h => exact .inr h
  | step _ _ _ _ h => exact absurd h (by simp [fit1])
theorem Ft.star_nil {T : List Tm} (h : Ft [] (.star :: T)) : Ft [] T := by
  cases h with
  | star0 _ _ h => exact h
/-- The last term, if it is no star, fits the last character. -/
theorem Ft.last {C : List Nat} {T : List Tm} {t : Tm} (ht : t ≠ .star) (h : Ft C (T ++ [t])) : ∃ C' c, C = C' ++ [c] ∧ fit1 t c ∧ Ft C' T := by
  generalize hS : T ++ [t] = S at h
  induction h generalizing T with
  | nil => simp at hS
  | star0 C T' h ih =>
    cases T with
    | nil =>
      simp at hS
      exact absurd hS.1 ht
    | cons a T =>
      simp at hS
      obtain ⟨rfl, hS⟩ := hS
      obtain ⟨C', c, rfl, h1, h2⟩ := ih hS
      exact ⟨C', c, rfl, h1, .star0 _ _ h2⟩
  | star1 c C T' h ih =>
    obtain ⟨C', d, rfl, h1, h2⟩ := ih hS
    cases T with
    | nil =>
      simp at hS
      exact absurd hS.1 ht
    | cons a T =>
      simp at hS
      obtain ⟨rfl, hS⟩ := hS
      exact ⟨c :: C', d, rfl, h1, .star1 _ _ _ h2⟩
  | step c C t' T' h1 h ih =>
    cases T with
    | nil =>
      simp at hS
      obtain ⟨rfl, rfl⟩ := hS
      cases h
      exact ⟨[], c, rfl, h1, .nil⟩
    | cons a T =>
      simp at hS
      obtain ⟨rfl, hS⟩ := hS
      obtain ⟨C', d, rfl, h2, h3⟩ := ih hS
      exact ⟨c :: C', d, rfl, h2, .step _ _ _ _ h1 h3⟩
/-- Two stars are one. -/
theorem Ft.two {C : List Nat} {T : List Tm} (h : Ft C (.star :: .star :: T)) : Ft C (.star :: T) := by
  generalize hS : Tm.star :: Tm.star :: T = S at h
  induction h with
  | nil => cases hS
  | star0 C T' h => cases hS; exact h
  | star1 c C T' h ih => exact .star1 _ _ _ (ih hS)
  | step c C t' T' h1 h ih => cases hS; exact absurd h1 (by simp [fit1])
/-- A wider term fits as well. -/
theorem Ft.wider : ∀ {T : List Tm} {C : List Nat} (k : Nat), Ft C T → k < T.length → Ft C (T.set k .star) := by
  intro T
  induction T with
  | nil => intro C k _ hk; simp at hk
  | cons t T ih =>
    intro C k h hk
    cases k with
    | zero =>
      rw [List.set_cons_zero]
      by_cases ht : t = .star
      · subst ht
        exact h
      · obtain ⟨c, C', rfl, _, h2⟩ := h.one ht
        exact .star1 _ _ _ (.star0 _ _ h2)
    | succ k =>
      rw [List.set_cons_succ]
      have hk' : k < T.length := by simpa using hk
      by_cases ht : t = .star
      · subst ht
        generalize hS : Tm.star :: T = S at h
        induction h with
        | nil => cases hS
        | star0 C T' h => cases hS; exact .star0 _ _ (ih k h hk')
        | star1 c C T' h ih2 => exact .star1 _ _ _ (ih2 hS)
        | step c C t' T' h1 h ih2 => cases hS; exact absurd h1 (by simp [fit1])
      · obtain ⟨c, C', rfl, h1, h2⟩ := h.one ht
        exact .step _ _ _ _ h1 (ih k h2 hk')
theorem Ft.onely : ∀ {T : List Tm} {C : List Nat} (k : Nat), Ft C T → (∃ t, T[k]? = some t ∧ t ≠ .star) → Ft C (T.set k .one) := by
  intro T
  induction T with
  | nil => intro C k _ hk; simp at hk
  | cons t T ih =>
    intro C k h hk
    obtain ⟨t0, hk, h0⟩ := hk
    cases k with
    | zero =>
      rw [List.set_cons_zero]
      simp only [List.getElem?_cons_zero, Option.some.injEq] at hk
      subst hk
      obtain ⟨c, C', rfl, _, h2⟩ := h.one h0
      exact .step _ _ _ _ trivial h2
    | succ k =>
      rw [List.set_cons_succ]
      have hk' : ∃ t, T[k]? = some t ∧ t ≠ .star := ⟨t0, by simpa using hk, h0⟩
      by_cases ht : t = .star
      · subst ht
        generalize hS : Tm.star :: T = S at h
        induction h with
        | nil => cases hS
        | star0 C T' h => cases hS; exact .star0 _ _ (ih k h hk')
        | star1 c C T' h ih2 => exact .star1 _ _ _ (ih2 hS)
        | step c C t' T' h1 h ih2 => cases hS; exact absurd h1 (by simp [fit1])
      · obtain ⟨c, C', rfl, h1, h2⟩ := h.one ht
        exact .step _ _ _ _ h1 (ih k h2 hk')
/-! ### Backslashes at the end -/
/-- How many backslashes end a text. -/
def tb (l : List UInt8) : Nat := (l.reverse.takeWhile (fun x => x == 92)).length
theorem tb_snoc (l : List UInt8) (x : UInt8) : tb (l ++ [x]) = if x = 92 then tb l + 1 else 0 := by
  unfold tb
  rw [List.reverse_append, List.reverse_cons, List.reverse_nil, List.nil_append, List.singleton_append, List.takeWhile_cons]
  by_cases h : x = 92
  · rw [if_pos (by simpa using h), if_pos h]
    simp
  · rw [if_neg (by simpa using h), if_neg h]
    rfl
theorem tb_enc {c : Nat} (hc : okc c) (h : c ≠ 92) (l : List UInt8) : tb (l ++ enc c) = 0 := by
  have hm : c ≤ 1114111 := by unfold okc at hc; omega
  have ne : ∀ n, n < 256 → n ≠ 92 → UInt8.ofNat n ≠ 92 := fun n h1 h2 e => by
    have := congrArg UInt8.toNat e
    rw [u8 h1] at this
    exact h2 this
  by_cases h1 : c < 128
  · rw [enc1 h1, tb_snoc, if_neg (ne c (by omega) h)]
  by_cases h2 : c < 2048
  · rw [enc2 h1 h2, show l ++ [UInt8.ofNat (192 + c / 64), UInt8.ofNat (128 + c % 64)] = (l ++ [UInt8.ofNat (192 + c / 64)]) ++ [UInt8.ofNat (128 + c % 64)] by simp, tb_snoc, if_neg (ne _ (by omega) (by omega))]
  by_cases h3 : c < 65536
  · rw [enc3 h1 h2 h3, show l ++ [UInt8.ofNat (224 + c / 4096), UInt8.ofNat (128 + c / 64 % 64), UInt8.ofNat (128 + c % 64)] = (l ++ [UInt8.ofNat (224 + c / 4096), UInt8.ofNat (128 + c / 64 % 64)]) ++ [UInt8.ofNat (128 + c % 64)] by simp, tb_snoc, if_neg (ne _ (by omega) (by omega))]
  · rw [enc4 h1 h2 h3, show l ++ [UInt8.ofNat (240 + c / 262144), UInt8.ofNat (128 + c / 4096 % 64), UInt8.ofNat (128 + c / 64 % 64), UInt8.ofNat (128 + c % 64)] = (l ++ [UInt8.ofNat (240 + c / 262144), UInt8.ofNat (128 + c / 4096 % 64), UInt8.ofNat (128 + c / 64 % 64)]) ++ [UInt8.ofNat (128 + c % 64)] by simp, tb_snoc, if_neg (ne _ (by omega) (by omega))]
theorem prL_snoc (T : List Tm) (t : Tm) : prL (T ++ [t]) = prL T ++ pr t := by simp [prL]
theorem encL_snoc (C : List Nat) (c : Nat) : encL (C ++ [c]) = encL C ++ enc c := by simp [encL]
theorem tb_even : ∀ (n : Nat) (T : List Tm), T.length = n → (∀ t ∈ T, okt t) → tb (42 :: prL T) % 2 = 0 := by
  intro n
  induction n with
  | zero =>
    intro T h _
    obtain rfl := List.eq_nil_of_length_eq_zero h
    rfl
  | succ n ih =>
    intro T h hT
    obtain ⟨S, t, rfl⟩ : ∃ S t, T = S ++ [t] := ⟨T.dropLast, T.getLast (by intro e; rw [e] at h; simp at h), (List.dropLast_concat_getLast _).symm⟩
    have hS := ih S (by simpa using h) (fun t ht => hT t (by simp [ht]))
    have ht := hT t (by simp)
    rw [prL_snoc, ← List.cons_append]
    cases t with
    | star =>
      rw [show pr .star = [42] from rfl, tb_snoc, if_neg (by decide)]
    | one =>
      rw [show pr .one = [63] from rfl, tb_snoc, if_neg (by decide)]
    | ch c =>
      unfold pr
      simp only
      split
      · rename_i hsp
        rw [show (42 :: prL S) ++ [92, UInt8.ofNat c] = ((42 :: prL S) ++ [92]) ++ [UInt8.ofNat c] by simp, tb_snoc, tb_snoc, if_pos rfl]
        unfold spc at hsp
        rcases hsp with rfl | rfl | rfl
        · rw [if_neg (by decide)]
        · rw [if_neg (by decide)]
        · rw [if_pos (by decide)]
          omega
      · rename_i hsp
        have h92 : c ≠ 92 := fun e => hsp (.inr (.inr e))
        rw [tb_enc ht h92]
/-! ### The reference's character and Go's rune -/
open Go.Lib
def badC : Nat × Nat × Bool := (65533, 1, false)
def finC (c least k : Nat) : Nat × Nat × Bool := if c < least ∨ 1114111 < c ∨ (55296 ≤ c ∧ c ≤ 57343) then badC else (c, k, true)
/-- spec.Character at a place with n bytes from there on. -/
def chr (n b0 b1 b2 b3 : Nat) : Nat × Nat × Bool :=
  if b0 < 128 then (b0, 1, true)
  else if 194 ≤ b0 ∧ b0 ≤ 223 then (if n ≤ 1 then badC else if b1 < 128 ∨ 191 < b1 then badC else finC ((b0 - 192) * 64 + b1 - 128) 128 2)
  else if 224 ≤ b0 ∧ b0 ≤ 239 then (if n ≤ 2 then badC else if b1 < 128 ∨ 191 < b1 then badC else if b2 < 128 ∨ 191 < b2 then badC else finC (((b0 - 224) * 64 + b1 - 128) * 64 + b2 - 128) 2048 3)
  else if 240 ≤ b0 ∧ b0 ≤ 244 then (if n ≤ 3 then badC else if b1 < 128 ∨ 191 < b1 then badC else if b2 < 128 ∨ 191 < b2 then badC else if b3 < 128 ∨ 191 < b3 then badC else finC ((((b0 - 240) * 64 + b1 - 128) * 64 + b2 - 128) * 64 + b3 - 128) 65536 4)
  else badC
theorem chr2 {n b0 b1 b2 b3 : Nat} (h : 194 ≤ b0 ∧ b0 ≤ 223) (h1 : b1 < 256) : decodeN n b0 b1 b2 b3 = ((chr n b0 b1 b2 b3).1, (chr n b0 b1 b2 b3).2.1) ∧ ((chr n b0 b1 b2 b3).2.2 = false ↔ decodeN n b0 b1 b2 b3 = (65533, 1)) := by
  unfold chr
  rw [if_neg (by omega), if_pos h]
  unfold decodeN
  rw [if_neg (by omega)]
  by_cases a : n ≤ 1
  · rw [if_pos a, if_neg (by omega), if_neg (by omega), if_neg (by omega)]
    simp [badC]
  by_cases b : b1 < 128 ∨ 191 < b1
  · rw [if_neg a, if_pos b, if_neg (by omega), if_neg (by omega), if_neg (by omega)]
    simp [badC]
  · rw [if_neg a, if_neg b, if_pos (by omega), if_pos (by omega)]
    have e : (b0 - 192) * 64 + b1 - 128 = b0 % 32 * 64 + b1 % 64 := by omega
    unfold finC
    rw [if_neg (by omega), e]
    simp
theorem chr3 {n b0 b1 b2 b3 : Nat} (h : 224 ≤ b0 ∧ b0 ≤ 239) (h1 : b1 < 256) (h2 : b2 < 256) : decodeN n b0 b1 b2 b3 = ((chr n b0 b1 b2 b3).1, (chr n b0 b1 b2 b3).2.1) ∧ ((chr n b0 b1 b2 b3).2.2 = false ↔ decodeN n b0 b1 b2 b3 = (65533, 1)) := by
  unfold chr
  rw [if_neg (by omega), if_neg (by omega), if_pos h]
  unfold decodeN
  rw [if_neg (by omega), if_neg (by omega)]
  by_cases a : n ≤ 2
  · rw [if_pos a, if_neg (by omega), if_neg (by omega)]
    simp [badC]
  by_cases b : b1 < 128 ∨ 191 < b1
  · rw [if_neg a, if_pos b, if_neg (by omega), if_neg (by omega)]
    simp [badC]
  by_cases c : b2 < 128 ∨ 191 < b2
  · rw [if_neg a, if_neg b, if_pos c, if_neg (by omega), if_neg (by omega)]
    simp [badC]
  · rw [if_neg a, if_neg b, if_neg c, if_pos (by omega)]
    have e : ((b0 - 224) * 64 + b1 - 128) * 64 + b2 - 128 = b0 % 16 * 4096 + b1 % 64 * 64 + b2 % 64 := by omega
    unfold finC
    rw [e]
    generalize b0 % 16 * 4096 + b1 % 64 * 64 + b2 % 64 = x
    by_cases d : x < 2048 ∨ 1114111 < x ∨ (55296 ≤ x ∧ x ≤ 57343)
    · rw [if_pos d, if_neg (by omega)]
      simp [badC]
    · rw [if_neg d, if_pos (by omega)]
      simp
theorem chr4 {n b0 b1 b2 b3 : Nat} (h : 240 ≤ b0 ∧ b0 < 256) (h1 : b1 < 256) (h2 : b2 < 256) (h3 : b3 < 256) : decodeN n b0 b1 b2 b3 = ((chr n b0 b1 b2 b3).1, (chr n b0 b1 b2 b3).2.1) ∧ ((chr n b0 b1 b2 b3).2.2 = false ↔ decodeN n b0 b1 b2 b3 = (65533, 1)) := by
  unfold chr
  rw [if_neg (by omega), if_neg (by omega), if_neg (by omega)]
  unfold decodeN
  rw [if_neg (by omega), if_neg (by omega), if_neg (by omega)]
  by_cases a : n ≤ 3
  · rw [if_neg (by omega)]
    repeat' split
    all_goals simp [badC]
  by_cases b : b1 < 128 ∨ 191 < b1
  · rw [if_neg (by omega)]
    repeat' split
    all_goals simp [badC]
  by_cases c : b2 < 128 ∨ 191 < b2
  · rw [if_neg (by omega)]
    repeat' split
    all_goals simp [badC]
  by_cases d : b3 < 128 ∨ 191 < b3
  · rw [if_neg (by omega)]
    repeat' split
    all_goals simp [badC]
  by_cases g : b0 ≤ 244
  · rw [if_pos (show b0 / 8 = 30 ∧ (1 < n ∧ b1 / 64 = 2) ∧ (2 < n ∧ b2 / 64 = 2) ∧ (3 < n ∧ b3 / 64 = 2) by omega), if_pos (show 240 ≤ b0 ∧ b0 ≤ 244 by omega), if_neg a, if_neg b, if_neg c, if_neg d]
    have e : (((b0 - 240) * 64 + b1 - 128) * 64 + b2 - 128) * 64 + b3 - 128 = b0 % 8 * 262144 + b1 % 64 * 4096 + b2 % 64 * 64 + b3 % 64 := by omega
    unfold finC
    rw [e]
    generalize b0 % 8 * 262144 + b1 % 64 * 4096 + b2 % 64 * 64 + b3 % 64 = x
    by_cases k : x < 65536 ∨ 1114111 < x ∨ (55296 ≤ x ∧ x ≤ 57343)
    · rw [if_pos k, if_neg (by omega)]
      simp [badC]
    · rw [if_neg k, if_pos (by omega)]
      simp
  · rw [if_neg (show ¬ (240 ≤ b0 ∧ b0 ≤ 244) by omega)]
    by_cases f : b0 / 8 = 30 ∧ (1 < n ∧ b1 / 64 = 2) ∧ (2 < n ∧ b2 / 64 = 2) ∧ (3 < n ∧ b3 / 64 = 2)
    · rw [if_pos f, if_neg (by omega)]
      simp [badC]
    · rw [if_neg f]
      simp [badC]
theorem chr_dec {n b0 b1 b2 b3 : Nat} (h0 : b0 < 256) (h1 : b1 < 256) (h2 : b2 < 256) (h3 : b3 < 256) : decodeN n b0 b1 b2 b3 = ((chr n b0 b1 b2 b3).1, (chr n b0 b1 b2 b3).2.1) ∧ ((chr n b0 b1 b2 b3).2.2 = false ↔ decodeN n b0 b1 b2 b3 = (65533, 1)) := by
  by_cases a : b0 < 128
  · unfold chr decodeN
    rw [if_pos a, if_pos a]
    simp
    omega
  by_cases b : b0 < 194
  · have hd : decodeN n b0 b1 b2 b3 = (65533, 1) := by
      unfold decodeN
      rw [if_neg a]
      by_cases c : b0 / 32 = 6 ∧ (1 < n ∧ b1 / 64 = 2)
      · rw [if_pos c, if_neg (by omega)]
      · rw [if_neg c, if_neg (by omega), if_neg (by omega)]
    have hc : chr n b0 b1 b2 b3 = badC := by
      unfold chr
      rw [if_neg a, if_neg (by omega), if_neg (by omega), if_neg (by omega)]
    rw [hd, hc]
    simp [badC]
  by_cases c : b0 ≤ 223
  · exact chr2 ⟨by omega, c⟩ h1
  by_cases d : b0 ≤ 239
  · exact chr3 ⟨by omega, d⟩ h1 h2
  · exact chr4 ⟨by omega, h0⟩ h1 h2 h3
/-! ### A character that stands in a text is written so -/
theorem fin_some {c least k x m : Nat} (h : finC c least k = (x, m, true)) : x = c ∧ m = k ∧ least ≤ c ∧ okc c := by
  unfold finC badC at h
  split at h
  · simp at h
  · rename_i hn
    simp only [Prod.mk.injEq, and_true] at h
    obtain ⟨rfl, rfl⟩ := h
    exact ⟨rfl, rfl, by omega, by unfold okc; omega⟩
theorem chr_enc {n b0 b1 b2 b3 c k : Nat} (hn : 1 ≤ n) (h : chr n b0 b1 b2 b3 = (c, k, true)) : okc c ∧ k ≤ n ∧ enc c = ([b0, b1, b2, b3].take k).map UInt8.ofNat := by
  unfold chr at h
  split at h
  · rename_i h0
    simp only [Prod.mk.injEq, and_true] at h
    obtain ⟨rfl, rfl⟩ := h
    exact ⟨by unfold okc; omega, hn, by rw [enc1 h0]; rfl⟩
  rename_i h0
  split at h
  · rename_i hb
    split at h
    · simp [badC] at h
    split at h
    · simp [badC] at h
    rename_i hn1 hb1
    generalize hx : (b0 - 192) * 64 + b1 - 128 = x at h
    obtain ⟨e1, e2, h1, h2⟩ := fin_some h
    subst e1
    subst e2
    refine ⟨h2, by omega, ?_⟩
    rw [enc2 (by omega) (by omega)]
    simp only [List.take_succ_cons, List.take_zero, List.map_cons, List.map_nil]
    rw [show 192 + c / 64 = b0 by omega, show 128 + c % 64 = b1 by omega]
  split at h
  · rename_i hb
    split at h
    · simp [badC] at h
    split at h
    · simp [badC] at h
    split at h
    · simp [badC] at h
    rename_i hn1 hb1 hb2
    generalize hx : ((b0 - 224) * 64 + b1 - 128) * 64 + b2 - 128 = x at h
    obtain ⟨e1, e2, h1, h2⟩ := fin_some h
    subst e1
    subst e2
    refine ⟨h2, by omega, ?_⟩
    rw [enc3 (by omega) (by omega) (by omega)]
    simp only [List.take_succ_cons, List.take_zero, List.map_cons, List.map_nil]
    rw [show 224 + c / 4096 = b0 by omega, show 128 + c / 64 % 64 = b1 by omega, show 128 + c % 64 = b2 by omega]
  split at h
  · rename_i hb
    split at h
    · simp [badC] at h
    split at h
    · simp [badC] at h
    split at h
    · simp [badC] at h
    split at h
    · simp [badC] at h
    rename_i hn1 hb1 hb2 hb3
    generalize hx : (((b0 - 240) * 64 + b1 - 128) * 64 + b2 - 128) * 64 + b3 - 128 = x at h
    obtain ⟨e1, e2, h1, h2⟩ := fin_some h
    subst e1
    subst e2
    have hm : c ≤ 1114111 := by unfold okc at h2; omega
    refine ⟨h2, by omega, ?_⟩
    rw [enc4 (by omega) (by omega) (by omega)]
    simp only [List.take_succ_cons, List.take_zero, List.map_cons, List.map_nil]
    rw [show 240 + c / 262144 = b0 by omega, show 128 + c / 4096 % 64 = b1 by omega, show 128 + c / 64 % 64 = b2 by omega, show 128 + c % 64 = b3 by omega]
  · simp [badC] at h
/-! ### What fits, term by term from the left (the reference's table) -/
theorem Ft.snoc_star0 {C : List Nat} {T : List Tm} (h : Ft C T) : Ft C (T ++ [.star]) := by
  induction h with
  | nil => exact .star0 _ _ .nil
  | star0 C T _ ih => exact .star0 _ _ ih
  | star1 c C T _ ih => exact .star1 _ _ _ ih
  | step c C t T h1 _ ih => exact .step _ _ _ _ h1 ih
theorem Ft.snoc_star1 {C : List Nat} {S : List Tm} (h : Ft C S) : ∀ (T : List Tm) (c : Nat), S = T ++ [.star] → Ft (C ++ [c]) S := by
  induction h with
  | nil => intro T c e; simp at e
  | star0 C T' h ih =>
    intro T c e
    cases T with
    | nil =>
      simp at e
      subst e
      cases h
      exact .star1 _ _ _ (.star0 _ _ .nil)
    | cons a T =>
      simp at e
      exact .star0 _ _ (ih T c e.2)
  | star1 d C T' h ih =>
    intro T c e
    exact .star1 _ _ _ (ih T c e)
  | step d C t T' h1 h ih =>
    intro T c e
    cases T with
    | nil =>
      simp at e
      rw [e.1] at h1
      exact absurd h1 (by simp [fit1])
    | cons a T =>
      simp at e
      exact .step _ _ _ _ h1 (ih T c e.2)
theorem Ft.snoc {C : List Nat} {T : List Tm} (h : Ft C T) {t : Tm} {c : Nat} (ht : fit1 t c) : Ft (C ++ [c]) (T ++ [t]) := by
  induction h with
  | nil => exact .step _ _ _ _ ht .nil
  | star0 C T _ ih => exact .star0 _ _ ih
  | star1 c C T _ ih => exact .star1 _ _ _ ih
  | step c C t T h1 _ ih => exact .step _ _ _ _ h1 ih
/-- A row of the table tells what fits. -/
def RowOk (C : List Nat) (T : List Tm) (R : List Bool) : Prop := R.length = C.length + 1 ∧ ∀ k, R.getD k false = true → Ft (C.take k) T
theorem row0 (C : List Nat) (R : List Bool) (hl : R.length = C.length + 1) (h : ∀ k, R.getD k false = true → k = 0) : RowOk C [] R :=
  ⟨hl, fun k hk => by rw [h k hk, List.take_zero]; exact .nil⟩
theorem take_snoc {C : List Nat} {k : Nat} (hk : k < C.length) : C.take (k + 1) = C.take k ++ [C.getD k 0] := by
  rw [List.take_add_one, List.getElem?_eq_getElem hk, List.getD_eq_getElem?_getD, List.getElem?_eq_getElem hk]
  rfl
/-- The next row, place by place. -/
theorem row_star {C : List Nat} {T : List Tm} {R N : List Bool} (h : RowOk C T R) (hl : N.length = C.length + 1) (hN : ∀ k, N.getD k false = true → R.getD k false = true ∨ (0 < k ∧ N.getD (k - 1) false = true)) : RowOk C (T ++ [.star]) N := by
  refine ⟨hl, fun k => ?_⟩
  induction k with
  | zero =>
    intro hk
    rcases hN 0 hk with h1 | ⟨h1, _⟩
    · exact (h.2 0 h1).snoc_star0
    · omega
  | succ k ih =>
    intro hk
    rcases hN (k + 1) hk with h1 | ⟨_, h1⟩
    · exact (h.2 (k + 1) h1).snoc_star0
    · have h2 := ih h1
      by_cases hlt : k < C.length
      · rw [take_snoc hlt]
        exact h2.snoc_star1 T _ rfl
      · rw [List.take_of_length_le (by omega)]
        rwa [List.take_of_length_le (by omega)] at h2
theorem row_step {C : List Nat} {T : List Tm} {R N : List Bool} {t : Tm} (h : RowOk C T R) (hl : N.length = C.length + 1) (hN : ∀ k, N.getD k false = true → 0 < k ∧ R.getD (k - 1) false = true ∧ k - 1 < C.length ∧ fit1 t (C.getD (k - 1) 0)) : RowOk C (T ++ [t]) N := by
  refine ⟨hl, fun k hk => ?_⟩
  obtain ⟨h1, h2, h3, h4⟩ := hN k hk
  obtain ⟨j, rfl⟩ : ∃ j, k = j + 1 := ⟨k - 1, by omega⟩
  rw [Nat.add_sub_cancel] at h2 h3 h4
  rw [take_snoc h3]
  exact (h.2 j h2).snoc h4
theorem row_end {C : List Nat} {T : List Tm} {R : List Bool} (h : RowOk C T R) (hk : R.getD C.length false = true) : Ft C T := by
  have := h.2 _ hk
  rwa [List.take_length] at this
/-! ### Texts as byte arrays -/
/-- A text of these bytes. -/
def Bs (s : ByteArray) (l : List UInt8) : Prop := s.data.toList = l
theorem Bs.size {s : ByteArray} {l : List UInt8} (h : Bs s l) : s.size = l.length := by rw [size_eq, h]
theorem Bs.drop {s : ByteArray} {p l : List UInt8} (h : Bs s (p ++ l)) : Bs (s.extract p.length s.size) l := by
  have hs := h.size
  unfold Bs at h ⊢
  rw [ByteArray.data_extract, Array.toList_extract, h, hs]
  simp
theorem Bs.take {s : ByteArray} {l p : List UInt8} (h : Bs s (l ++ p)) : Bs (s.extract 0 (s.size - p.length)) l := by
  have hs := h.size
  unfold Bs at h ⊢
  rw [ByteArray.data_extract, Array.toList_extract, h, hs]
  simp
theorem Bs.get {s : ByteArray} {l : List UInt8} (h : Bs s l) (i : Nat) (hi : i < s.size) : s[i] = l.getD i 0 := by
  have h1 : s.data.toList[i]? = some s[i] := by
    rw [Array.getElem?_toList, Array.getElem?_eq_getElem hi]
    rfl
  rw [h] at h1
  rw [List.getD_eq_getElem?_getD, h1]
  rfl
theorem Bs.inj {s t : ByteArray} {l : List UInt8} (h : Bs s l) (k : Bs t l) : s = t := by
  apply ByteArray.ext
  apply Array.ext'
  rw [h, k]
theorem Bs.first {s : ByteArray} {c : Nat} {r : List UInt8} (h : Bs s (enc c ++ r)) (hc : okc c) : decodeGo s = (c, (enc c).length) := by
  have hp := enc_pos c
  have hs := h.size
  rw [List.length_append] at hs
  unfold decodeGo
  rw [if_neg (by omega)]
  have e : s = ⟨(enc c ++ r).toArray⟩ := h.inj (by unfold Bs; simp)
  have := dec_enc hc r
  unfold decodeL at this
  rw [e]
  exact this
theorem Bs.last {s : ByteArray} {c : Nat} {p : List UInt8} (h : Bs s (p ++ enc c)) (hc : okc c) : decodeLastL s.data.toList = (c, (enc c).length) := by
  rw [h]
  exact decLast_enc hc p
theorem enc_head {c : Nat} (hc : okc c) (r : List UInt8) : (c < 128 ∧ ((enc c ++ r).getD 0 0).toNat = c ∧ (enc c).length = 1) ∨ (128 ≤ c ∧ 128 ≤ ((enc c ++ r).getD 0 0).toNat) := by
  have hm : c ≤ 1114111 := by unfold okc at hc; omega
  by_cases h1 : c < 128
  · left
    rw [enc1 h1]
    exact ⟨h1, by simp only [List.cons_append, List.getD_cons_zero]; exact u8 (by omega), rfl⟩
  · right
    refine ⟨by omega, ?_⟩
    by_cases h2 : c < 2048
    · rw [enc2 h1 h2]
      simp only [List.cons_append, List.getD_cons_zero]
      rw [u8 (by omega)]
      omega
    by_cases h3 : c < 65536
    · rw [enc3 h1 h2 h3]
      simp only [List.cons_append, List.getD_cons_zero]
      rw [u8 (by omega)]
      omega
    · rw [enc4 h1 h2 h3]
      simp only [List.cons_append, List.getD_cons_zero]
      rw [u8 (by omega)]
      omega
theorem encL_cons (c : Nat) (C : List Nat) : encL (c :: C) = enc c ++ encL C := by simp [encL]
theorem prL_cons (t : Tm) (T : List Tm) : prL (t :: T) = pr t ++ prL T := by simp [prL]
theorem pr_pos (t : Tm) : 0 < (pr t).length := by
  cases t with
  | star => simp [pr]
  | one => simp [pr]
  | ch c =>
    unfold pr
    simp only
    split
    · simp
    · exact enc_pos c
theorem prL_nil {T : List Tm} (h : prL T = []) : T = [] := by
  cases T with
  | nil => rfl
  | cons t T =>
    rw [prL_cons] at h
    have := pr_pos t
    have := congrArg List.length h
    rw [List.length_append, List.length_nil] at this
    omega
theorem encL_nil {C : List Nat} (h : encL C = []) : C = [] := by
  cases C with
  | nil => rfl
  | cons c C =>
    rw [encL_cons] at h
    have := enc_pos c
    have := congrArg List.length h
    rw [List.length_append, List.length_nil] at this
    omega
/-! ### The last term of a pattern, as its bytes tell it -/
theorem tb_le (l : List UInt8) : tb l ≤ l.length := by
  unfold tb
  have := List.IsPrefix.length_le (List.takeWhile_prefix (p := fun x : UInt8 => x == 92) (l := l.reverse))
  simpa using this
/-- Behind the star that begins a pattern some byte is no backslash. -/
theorem tb_lt : ∀ (n : Nat) (l : List UInt8), l.length = n → tb (42 :: l) < (42 :: l).length := by
  intro n
  induction n with
  | zero =>
    intro l h
    obtain rfl := List.eq_nil_of_length_eq_zero h
    decide
  | succ n ih =>
    intro l h
    obtain ⟨m, x, rfl⟩ : ∃ m x, l = m ++ [x] := ⟨l.dropLast, l.getLast (by intro e; rw [e] at h; simp at h), (List.dropLast_concat_getLast _).symm⟩
    have := ih m (by simpa using h)
    rw [← List.cons_append, tb_snoc]
    simp only [List.length_cons, List.length_append, List.length_nil] at this ⊢
    split
    · omega
    · omega
/-- The bytes that end a text: backslashes up to their number, then another byte. -/
theorem tb_bytes : ∀ (n : Nat) (l : List UInt8), l.length = n → (∀ j, j < tb l → l.getD (l.length - 1 - j) 0 = 92) ∧ (tb l < l.length → l.getD (l.length - 1 - tb l) 0 ≠ 92) := by
  intro n
  induction n with
  | zero =>
    intro l h
    obtain rfl := List.eq_nil_of_length_eq_zero h
    refine ⟨fun j hj => ?_, fun h => ?_⟩
    · have : tb ([] : List UInt8) = 0 := rfl
      omega
    · simp at h
  | succ n ih =>
    intro l h
    obtain ⟨m, x, rfl⟩ : ∃ m x, l = m ++ [x] := ⟨l.dropLast, l.getLast (by intro e; rw [e] at h; simp at h), (List.dropLast_concat_getLast _).symm⟩
    obtain ⟨h1, h2⟩ := ih m (by simpa using h)
    have hlast : (m ++ [x]).getD m.length 0 = x := by
      have := get_app m [x] 0
      rw [Nat.add_zero] at this
      rw [this]
      rfl
    have hbef : ∀ k, k < m.length → (m ++ [x]).getD k 0 = m.getD k 0 := fun k hk => by
      rw [List.getD_eq_getElem?_getD, List.getD_eq_getElem?_getD, List.getElem?_append_left hk]
    have hlen : (m ++ [x]).length = m.length + 1 := by simp
    have hle := tb_le m
    rw [tb_snoc, hlen]
    by_cases hx : x = 92
    · rw [if_pos hx]
      refine ⟨fun j hj => ?_, fun hlt => ?_⟩
      · cases j with
        | zero => rw [Nat.add_sub_cancel, Nat.sub_zero, hlast, hx]
        | succ j =>
          rw [show m.length + 1 - 1 - (j + 1) = m.length - 1 - j by omega, hbef _ (by omega)]
          exact h1 j (by omega)
      · rw [show m.length + 1 - 1 - (tb m + 1) = m.length - 1 - tb m by omega, hbef _ (by omega)]
        exact h2 (by omega)
    · rw [if_neg hx]
      refine ⟨fun j hj => by omega, fun _ => ?_⟩
      rw [Nat.add_sub_cancel, Nat.sub_zero, hlast]
      exact hx
/-- What a term's last character is, and whether a backslash stands ahead of it. -/
def lastC : Tm → Nat
  | .star => 42
  | .one => 63
  | .ch c => c
def escT : Tm → Bool
  | .ch c => decide (spc c)
  | _ => false
theorem okc_last {t : Tm} (h : okt t) : okc (lastC t) := by
  cases t with
  | star => show okc 42; unfold okc; omega
  | one => show okc 63; unfold okc; omega
  | ch c => exact h
/-- The bytes ahead of a pattern's last character. -/
def preT (S : List Tm) (t : Tm) : List UInt8 := 42 :: prL S ++ (bif escT t then [92] else [])
theorem pat_last {S : List Tm} {t : Tm} : 42 :: prL (S ++ [t]) = preT S t ++ enc (lastC t) := by
  unfold preT
  rw [prL_snoc]
  cases t with
  | star => simp [pr, escT, lastC, enc]
  | one => simp [pr, escT, lastC, enc]
  | ch c =>
    by_cases h : spc c
    · have hE : escT (.ch c) = true := decide_eq_true h
      have hp : pr (.ch c) = [92, UInt8.ofNat c] := if_pos h
      have h128 : c < 128 := by unfold spc at h; omega
      have hl : lastC (.ch c) = c := rfl
      rw [hE, hp, hl, cond_true, enc1 h128]
      simp
    · have hE : escT (.ch c) = false := decide_eq_false h
      have hp : pr (.ch c) = enc c := if_neg h
      have hl : lastC (.ch c) = c := rfl
      rw [hE, hp, hl, cond_false]
      simp
theorem pre_odd {S : List Tm} {t : Tm} (hS : ∀ x ∈ S, okt x) : tb (preT S t) < (preT S t).length ∧ (tb (preT S t) % 2 = 1 ↔ escT t = true) := by
  have he := tb_even _ S rfl hS
  have hl := tb_lt _ (prL S) rfl
  unfold preT
  cases hE : escT t with
  | true =>
    rw [cond_true, tb_snoc, if_pos rfl]
    simp only [List.length_append, List.length_cons, List.length_nil] at hl ⊢
    exact ⟨by omega, fun _ => trivial, fun _ => by omega⟩
  | false =>
    rw [cond_false, List.append_nil]
    exact ⟨hl, fun h => by omega, fun h => by cases h⟩
/-- The bytes that a pattern's last term takes. -/
theorem pr_len {t : Tm} : (pr t).length = (enc (lastC t)).length + (bif escT t then 1 else 0) := by
  have := congrArg List.length (pat_last (S := []) (t := t))
  unfold preT at this
  rw [List.nil_append] at this
  have e : prL [t] = pr t := by simp [prL]
  have e0 : prL [] = [] := rfl
  rw [e, e0] at this
  simp only [List.length_cons, List.length_append, List.length_nil] at this
  cases hE : escT t with
  | true => rw [hE] at this; simp only [cond_true, List.length_cons, List.length_nil] at this ⊢; omega
  | false => rw [hE] at this; simp only [cond_false, List.length_nil] at this ⊢; omega
/-- The three kinds of a term, by its last character and the backslash. -/
theorem term_kind (t : Tm) : (t = .star ↔ lastC t = 42 ∧ escT t = false) ∧ (t = .one ↔ lastC t = 63 ∧ escT t = false) := by
  cases t with
  | star => simp [lastC, escT]
  | one => simp [lastC, escT]
  | ch c =>
    simp only [lastC, escT, reduceCtorEq, false_iff, not_and, decide_eq_false_iff_not, Classical.not_not]
    exact ⟨fun h => .inl h, fun h => .inr (.inl h)⟩
/-- A term that is no star fits a character: it is a question mark, or its character is that one. -/
theorem fit_iff {t : Tm} {c : Nat} (h : t ≠ .star) : fit1 t c ↔ (t = .one ∨ lastC t = c) := by
  cases t with
  | star => exact absurd rfl h
  | one => simp [fit1]
  | ch d => simp [fit1, lastC]
/-! ### What the trimming of the ends keeps -/
structure TrI (C0 : List Nat) (T0 : List Tm) (C : List Nat) (T : List Tm) : Prop where
  pc : ∃ D, C0 = C ++ D
  pt : ∃ D, T0 = T ++ D
  fit : Ft C0 (.star :: T0) → Ft C (.star :: T)
theorem TrI.refl (C : List Nat) (T : List Tm) : TrI C T C T := ⟨⟨[], by simp⟩, ⟨[], by simp⟩, id⟩
theorem TrI.step {C0 C : List Nat} {T0 T : List Tm} {c : Nat} {t : Tm} (h : TrI C0 T0 (C ++ [c]) (T ++ [t])) (ht : t ≠ .star) : TrI C0 T0 C T := by
  refine ⟨?_, ?_, fun hf => ?_⟩
  · obtain ⟨D, hD⟩ := h.pc
    exact ⟨c :: D, by rw [hD]; simp⟩
  · obtain ⟨D, hD⟩ := h.pt
    exact ⟨t :: D, by rw [hD]; simp⟩
  · have h1 := h.fit hf
    rw [← List.cons_append] at h1
    obtain ⟨C', c', e, _, h2⟩ := h1.last ht
    have e2 := List.append_inj_left' e rfl
    rw [e2]
    exact h2
theorem TrI.miss {C0 C : List Nat} {T0 T : List Tm} {c : Nat} {t : Tm} (h : TrI C0 T0 (C ++ [c]) (T ++ [t])) (ht : t ≠ .star) (hn : ¬ fit1 t c) : ¬ Ft C0 (.star :: T0) := by
  intro hf
  have h1 := h.fit hf
  rw [← List.cons_append] at h1
  obtain ⟨C', c', e, hfit, _⟩ := h1.last ht
  have e2 := List.append_inj_right' e rfl
  simp only [List.cons.injEq, and_true] at e2
  subst e2
  exact hn hfit
theorem TrI.ok {C0 C : List Nat} {T0 T : List Tm} (h : TrI C0 T0 C T) (hC : ∀ c ∈ C0, okc c) (hT : ∀ t ∈ T0, okt t) : (∀ c ∈ C, okc c) ∧ ∀ t ∈ T, okt t := by
  obtain ⟨D, rfl⟩ := h.pc
  obtain ⟨E, rfl⟩ := h.pt
  exact ⟨fun c hc => hC c (by simp [hc]), fun t ht => hT t (by simp [ht])⟩
theorem snoc_of {α : Type} {l : List α} (h : l ≠ []) : ∃ m x, l = m ++ [x] := ⟨l.dropLast, l.getLast h, (List.dropLast_concat_getLast h).symm⟩
end Go.Proofs.YtphpjboljlkdkaaDoor.Mt
