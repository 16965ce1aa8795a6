/- match.match and what calls it. -/
import Derived.Test.YtphpjboljlkdkaaDoorMtTrim
namespace Go.Proofs.YtphpjboljlkdkaaDoor.Mt
open Go.RowKit Go.Proofs.YtphpjboljlkdkaaDoorW.PrintWords Go.Lib

/-- What match gives: 0 or 1, and 1 where the text is made of what the pattern says. -/
def MaP (C0 : List Nat) (T0 : List Tm) (w : World) (e : Ending) (w' : World) : Prop :=
  (∃ b : Bool, e = .returned (.int .i64 (bif b then 1 else 0)) ∧ (Ft C0 T0 → b = true)) ∧ Below w.heap.size w w'
theorem first_c (s : ByteArray) (r : List UInt8) (c : Nat) (hc : okc c) (h : Bs s (enc c ++ r)) (w : World) (hT : Lib.Utf8Tabs 7 8 w) :
    Calls Tryd.prog 94 #[.string s] w fun e w' => e = .returned (.tuple #[.int .i32 (c : Int), .int .i64 ((enc c).length : Int)]) ∧ Below w.heap.size w w' := by
  have := Tryd.utf8_DecodeRuneInString s w hT
  rwa [h.first hc] at this
/-- What is left to match. -/
structure Mi (C0 : List Nat) (T0 : List Tm) (s p : ByteArray) (C : List Nat) (T : List Tm) : Prop where
  bs : Bs s (encL C)
  bp : Bs p (prL T)
  oc : ∀ c ∈ C, okc c
  ot : ∀ t ∈ T, okt t
  fit : Ft C0 T0 → Ft C T
section
variable {C0 C : List Nat} {T0 T : List Tm} {s p : ByteArray} {c : Nat} {t : Tm}
theorem Mi.s_nil (h : Mi C0 T0 s p C T) (hz : s.size = 0) : C = [] := encL_nil (List.eq_nil_of_length_eq_zero (by rw [← h.bs.size]; exact hz))
theorem Mi.p_nil (h : Mi C0 T0 s p C T) (hz : p.size = 0) : T = [] := prL_nil (List.eq_nil_of_length_eq_zero (by rw [← h.bp.size]; exact hz))
theorem Mi.s_cons (h : Mi C0 T0 s p C T) (hz : 0 < s.size) : ∃ c C1, C = c :: C1 := by
  cases C with
  | nil =>
    have := h.bs.size
    rw [show encL [] = [] from rfl, List.length_nil] at this
    omega
  | cons c C1 => exact ⟨c, C1, rfl⟩
theorem Mi.p_cons (h : Mi C0 T0 s p C T) (hz : 0 < p.size) : ∃ t T1, T = t :: T1 := by
  cases T with
  | nil =>
    have := h.bp.size
    rw [show prL [] = [] from rfl, List.length_nil] at this
    omega
  | cons c C1 => exact ⟨c, C1, rfl⟩
/-- One character and one term fit: both are taken away. -/
theorem Mi.step (h : Mi C0 T0 s p (c :: C) (t :: T)) (ht : t ≠ .star) : Mi C0 T0 (s.extract (enc c).length s.size) (p.extract (pr t).length p.size) C T := by
  refine ⟨?_, ?_, fun x hx => h.oc x (by simp [hx]), fun x hx => h.ot x (by simp [hx]), fun hf => ?_⟩
  · have := h.bs
    rw [encL_cons] at this
    exact this.drop
  · have := h.bp
    rw [prL_cons] at this
    exact this.drop
  · obtain ⟨c', C', e, _, h2⟩ := (h.fit hf).one ht
    cases e
    exact h2
theorem Mi.miss (h : Mi C0 T0 s p (c :: C) (t :: T)) (ht : t ≠ .star) (hn : ¬ fit1 t c) : ¬ Ft C0 T0 := by
  intro hf
  obtain ⟨c', C', e, h1, _⟩ := (h.fit hf).one ht
  cases e
  exact hn h1
theorem Mi.none (h : Mi C0 T0 s p [] (t :: T)) (ht : t ≠ .star) : ¬ Ft C0 T0 := by
  intro hf
  obtain ⟨c', C', e, _⟩ := (h.fit hf).one ht
  cases e
/-- A star beside a star is taken away. -/
theorem Mi.two (h : Mi C0 T0 s p C (.star :: .star :: T)) : Mi C0 T0 s (p.extract 1 p.size) C (.star :: T) := by
  refine ⟨h.bs, ?_, h.oc, fun x hx => h.ot x (by simp at hx ⊢; rcases hx with rfl | hx; exact .inl rfl; exact .inr hx), fun hf => (h.fit hf).two⟩
  have := h.bp
  rw [prL_cons] at this
  exact Bs.drop (p := [42]) this
theorem encL_app (A B : List Nat) : encL (A ++ B) = encL A ++ encL B := by simp [encL]
theorem prL_app (A B : List Tm) : prL (A ++ B) = prL A ++ prL B := by simp [prL]
/-- Behind the trimming. -/
theorem Mi.trim {T1 : List Tm} {s2 p3 : ByteArray} (h : Mi C0 T0 s p C (.star :: T1)) (hok : ∃ C2 T2, TrI C T1 C2 T2 ∧ Bs s2 (encL C2) ∧ Bs p3 (42 :: prL T2)) :
    ∃ C2 T2, Mi C0 T0 s2 p3 C2 (.star :: T2) ∧ s2.size ≤ s.size ∧ p3.size ≤ p.size ∧ 1 ≤ p3.size ∧ ∃ D, C = C2 ++ D := by
  obtain ⟨C2, T2, hI, hs, hp⟩ := hok
  obtain ⟨o1, o2⟩ := hI.ok h.oc (fun x hx => h.ot x (by simp [hx]))
  have z1 := hs.size
  have z2 := hp.size
  have z3 := h.bs.size
  have z4 := h.bp.size
  have hI' := hI
  obtain ⟨D, hD⟩ := hI.pc
  obtain ⟨E, hE⟩ := hI.pt
  rw [hD, encL_app, List.length_append] at z3
  rw [prL_cons, hE, prL_app, List.length_append, List.length_append, show (pr .star).length = 1 from rfl] at z4
  rw [List.length_cons] at z2
  exact ⟨C2, T2, ⟨hs, hp, o1, fun x hx => by simp at hx; rcases hx with rfl | hx; trivial; exact o2 x hx, fun hf => hI'.fit (h.fit hf)⟩, by omega, by omega, by omega, D, hD⟩
theorem Mi.rest (h : Mi C0 T0 s p C (.star :: T)) : Bs (p.extract 1 p.size) (prL T) := by
  have := h.bp
  rw [prL_cons] at this
  exact Bs.drop (p := [42]) this
/-- The star eats a character. -/
theorem Mi.eat (h : Mi C0 T0 s p (c :: C) (.star :: T)) (hn : ¬ Ft (c :: C) T) : Mi C0 T0 (s.extract (enc c).length s.size) p C (.star :: T) := by
  refine ⟨?_, h.bp, fun x hx => h.oc x (by simp [hx]), h.ot, fun hf => ?_⟩
  · have := h.bs
    rw [encL_cons] at this
    exact this.drop
  · rcases (h.fit hf).star_or with h1 | h1
    · exact absurd h1 hn
    · exact h1
theorem nat_of_u8 {x : UInt8} {n : Nat} (h : x.toNat = n) : (x.toNat : Int) = (n : Int) := by rw [h]
/-- The first byte of a text. -/
theorem Mi.byte (h : Mi C0 T0 s p (c :: C) T) (hz : 0 < s.size) : (c < 128 ∧ (s[0].toNat : Int) = (c : Int) ∧ (enc c).length = 1) ∨ (128 ≤ c ∧ ∃ y : Nat, s[0].toNat = y ∧ 128 ≤ y ∧ y ≤ 255) := by
  have hb := h.bs
  rw [encL_cons] at hb
  have hg := hb.get 0 hz
  rcases enc_head (h.oc c (by simp)) (encL C) with ⟨h1, h2, h3⟩ | ⟨h1, h2⟩
  · exact .inl ⟨h1, by rw [hg, h2], h3⟩
  · refine .inr ⟨h1, _, rfl, ?_, ?_⟩
    · rw [hg]; omega
    · have := s[0].toNat_lt; omega
theorem Mi.size (h : Mi C0 T0 s p (c :: C) T) : (enc c).length ≤ s.size := by
  have := h.bs.size
  rw [encL_cons, List.length_append] at this
  omega
/-- The first byte of a pattern's text that begins with a character. -/
theorem Mi.pbyte {d : Nat} (h : Mi C0 T0 s p C (.ch d :: T)) (hd : ¬ spc d) (hz : 0 < p.size) : (d < 128 ∧ (p[0].toNat : Int) = (d : Int) ∧ (enc d).length = 1) ∨ (128 ≤ d ∧ ∃ y : Nat, p[0].toNat = y ∧ 128 ≤ y ∧ y ≤ 255) := by
  have hb := h.bp
  rw [prL_cons, show pr (.ch d) = enc d from if_neg hd] at hb
  have hg := hb.get 0 hz
  rcases enc_head (h.ot (.ch d) (by simp) : okc d) (prL T) with ⟨h1, h2, h3⟩ | ⟨h1, h2⟩
  · exact .inl ⟨h1, by rw [hg, h2], h3⟩
  · refine .inr ⟨h1, _, rfl, ?_, ?_⟩
    · rw [hg]; omega
    · have := p[0].toNat_lt; omega
/-- The byte behind a star. -/
theorem Mi.second {t2 : Tm} (h : Mi C0 T0 s p C (.star :: t2 :: T)) (h1 : 1 < p.size) : (t2 = .star → p[1] = 42) ∧ (t2 ≠ .star → (p[1].toNat : Int) ≠ 42) := by
  have hb := h.bp
  rw [prL_cons, prL_cons] at hb
  have hg := hb.get 1 h1
  rw [show (pr .star ++ (pr t2 ++ prL T)).getD 1 0 = (pr t2 ++ prL T).getD 0 0 from rfl] at hg
  refine ⟨fun e => by rw [hg, e]; rfl, fun hne he => ?_⟩
  rw [hg] at he
  cases t2 with
  | star => exact hne rfl
  | one => exact absurd (show ((63 : UInt8).toNat : Int) = 42 from he) (by decide)
  | ch d =>
    by_cases hd : spc d
    · rw [show pr (.ch d) = [92, UInt8.ofNat d] from if_pos hd] at he
      exact absurd (show ((92 : UInt8).toNat : Int) = 42 from he) (by decide)
    · rw [show pr (.ch d) = enc d from if_neg hd] at he
      rcases enc_head (h.ot (.ch d) (by simp) : okc d) (prL T) with ⟨_, h2, _⟩ | ⟨_, h2⟩
      · rw [h2] at he
        exact hd (.inl (by omega))
      · omega
theorem p_len_star (h : Mi C0 T0 s p C [.star]) : p.size = 1 := by
  have := h.bp.size
  simpa [prL, pr] using this
theorem p_len_more {t2 : Tm} (h : Mi C0 T0 s p C (.star :: t2 :: T)) : 1 < p.size := by
  have := h.bp.size
  rw [prL_cons, prL_cons, List.length_append, List.length_append, show (pr .star).length = 1 from rfl] at this
  have := pr_pos t2
  omega
end
theorem p3_pos {C0 C : List Nat} {T0 T1 : List Tm} {s p s2 p3 : ByteArray} (h : Mi C0 T0 s p C (.star :: T1)) (hok : ∃ C2 T2, TrI C T1 C2 T2 ∧ Bs s2 (encL C2) ∧ Bs p3 (42 :: prL T2)) : 1 ≤ p3.size := by
  obtain ⟨_, _, _, _, _, h, _⟩ := h.trim hok
  exact h
theorem head_of {C0 : List Nat} {T0 : List Tm} {C1 C2 D : List Nat} {s2 p3 : ByteArray} {T3 : List Tm} {c : Nat} (h : Mi C0 T0 s2 p3 C2 (.star :: T3)) (hD : c :: C1 = C2 ++ D) (hz : ¬ s2.size = 0) : ∃ C3, C2 = c :: C3 := by
  obtain ⟨c', C3, rfl⟩ := h.s_cons (by omega)
  rw [List.cons_append] at hD
  exact ⟨C3, by rw [(List.cons.inj hD).1]⟩
theorem head_size {C0 : List Nat} {T0 : List Tm} {C1 C2 D : List Nat} {s2 p3 : ByteArray} {T3 : List Tm} {c e : Nat} (h : Mi C0 T0 s2 p3 C2 (.star :: T3)) (hD : c :: C1 = C2 ++ D) (he : (enc c).length = e) (hz : ¬ s2.size = 0) : e ≤ s2.size := by
  obtain ⟨C3, rfl⟩ := head_of h hD hz
  rw [← he]
  exact h.size
theorem nil_fit {C0 : List Nat} {T0 : List Tm} {C2 : List Nat} {s2 p3 : ByteArray} {T3 : List Tm} (h : Mi C0 T0 s2 p3 C2 (.star :: T3)) (hz : s2.size = 0) (hf : Ft C0 T0) : Ft C2 T3 := by
  have hC := h.s_nil hz
  subst hC
  exact (h.fit hf).star_nil
theorem eat_next {C0 : List Nat} {T0 : List Tm} {C1 C2 D : List Nat} {s2 p3 : ByteArray} {T3 : List Tm} {c e : Nat} (h : Mi C0 T0 s2 p3 C2 (.star :: T3)) (hD : c :: C1 = C2 ++ D) (he : (enc c).length = e) (hz : ¬ s2.size = 0) (hn : ¬ Ft C2 T3) : ∃ C T, Mi C0 T0 (s2.extract e s2.size) p3 C T := by
  obtain ⟨C3, rfl⟩ := head_of h hD hz
  have := h.eat hn
  rw [he] at this
  exact ⟨_, _, this⟩
/-- What DecodeRuneInString gives of a text; of a text behind its first byte. Named, so that no walk's simplifier goes into them. -/
def Fc (s : ByteArray) (c e : Nat) : Prop := ∀ W : World, Lib.Utf8Tabs 7 8 W → Calls Tryd.prog 94 #[.string s] W fun x w' => x = .returned (.tuple #[.int .i32 (c : Int), .int .i64 (e : Int)]) ∧ Below W.heap.size W w'
theorem Fc.out {s : ByteArray} {c e : Nat} (h : Fc s c e) (W : World) (hW : Lib.Utf8Tabs 7 8 W) : Calls Tryd.prog 94 #[.string s] W fun x w' => x = .returned (.tuple #[.int .i32 (c : Int), .int .i64 (e : Int)]) ∧ Below W.heap.size W w' := h W hW
def Fq (p : ByteArray) (c : Nat) : Prop := ∀ W : World, Lib.Utf8Tabs 7 8 W → Calls Tryd.prog 94 #[.string (p.extract 1 p.size)] W fun x w' => x = .returned (.tuple #[.int .i32 (c : Int), .int .i64 1]) ∧ Below W.heap.size W w'
theorem Fq.out {p : ByteArray} {c : Nat} (h : Fq p c) (W : World) (hW : Lib.Utf8Tabs 7 8 W) : Calls Tryd.prog 94 #[.string (p.extract 1 p.size)] W fun x w' => x = .returned (.tuple #[.int .i32 (c : Int), .int .i64 1]) ∧ Below W.heap.size W w' := h W hW
def Qb (p : ByteArray) (T : List Tm) : Prop := Bs ((p.extract 1 p.size).extract 1 (p.extract 1 p.size).size) (prL T)
theorem Qb.out {p : ByteArray} {T : List Tm} (h : Qb p T) : Bs ((p.extract 1 p.size).extract 1 (p.extract 1 p.size).size) (prL T) := h
theorem hq_of {C0 C : List Nat} {T0 T : List Tm} {s p : ByteArray} {d : Nat} (h : Mi C0 T0 s p C (.ch d :: T)) (hd : spc d) : Bs (p.extract 1 p.size) (enc d ++ prL T) := by
  have hd128 : d < 128 := by unfold spc at hd; omega
  have := h.bp
  rw [prL_cons, show pr (.ch d) = [92] ++ [UInt8.ofNat d] from if_pos hd, List.append_assoc] at this
  rw [enc1 hd128]
  exact Bs.drop (p := [92]) this
theorem fq_of {C0 C : List Nat} {T0 T : List Tm} {s p : ByteArray} {d : Nat} (h : Mi C0 T0 s p C (.ch d :: T)) (hd : spc d) : Fq p d := fun W hW => by
  have hd128 : d < 128 := by unfold spc at hd; omega
  have := first_c (p.extract 1 p.size) (prL T) d (h.ot (.ch d) (by simp) : okc d) (hq_of h hd) W hW
  rwa [show (enc d).length = 1 by rw [enc1 hd128]; rfl] at this
theorem qb_of {C0 C : List Nat} {T0 T : List Tm} {s p : ByteArray} {d : Nat} (h : Mi C0 T0 s p C (.ch d :: T)) (hd : spc d) : Qb p T := by
  have hd128 : d < 128 := by unfold spc at hd; omega
  have h := hq_of h hd
  rw [enc1 hd128] at h
  exact Bs.drop (p := [UInt8.ofNat d]) h
/-- What a call within may be asked. -/
def Ih (n : Nat) : Prop := ∀ (s p : ByteArray) (C : List Nat) (T : List Tm), (∀ c ∈ C, okc c) → (∀ t ∈ T, okt t) → Bs s (encL C) → Bs p (prL T) → s.size ≤ 1000000 → p.size < n → p.size ≤ 1000000 → ∀ W : World, Lib.Utf8Tabs 7 8 W →
    Calls Tryd.prog 81 #[.string s, .string p, .int .i64 0, .pointer none, .int .i64 (-1), .bool false] W (MaP C T W)
set_option maxHeartbeats 16000000 in
set_option maxRecDepth 100000 in
theorem match_step (n : Nat) (ih : Ih n) (str pat : ByteArray) (C0 : List Nat) (T0 : List Tm) (hC : ∀ c ∈ C0, okc c) (hT : ∀ t ∈ T0, okt t) (hs : Bs str (encL C0)) (hp : Bs pat (prL T0)) (z1 : str.size ≤ 1000000) (z2 : pat.size < n + 1) (z3 : pat.size ≤ 1000000) (w : World) (hU : Lib.Utf8Tabs 7 8 w) :
    Calls Tryd.prog 81 #[.string str, .string pat, .int .i64 0, .pointer none, .int .i64 (-1), .bool false] w (MaP C0 T0 w) := by
  have HI : Hid (∃ C T, Mi C0 T0 str pat C T) := Lib.hid ⟨C0, T0, hs, hp, hC, hT, id⟩
  have HIH := Lib.hid ih
  have HU := Lib.hid hU
  obtain ⟨PP, hPP⟩ : ∃ PP, MaP C0 T0 w = PP := ⟨_, rfl⟩
  rw [hPP]
  have HPP := Lib.hid hPP
  clear hC hT hs hp hU hPP ih
  go_enter Tryd.func81, Tryd.ntmps81
  go_wp2
  go_loopw [0, 1] (fun v0 v1 wr => ∃ (s p : ByteArray), s.size ≤ 1000000 ∧ p.size ≤ pat.size ∧ v0 = .string s ∧ v1 = .string p ∧ Hid (∃ C T, Mi C0 T0 s p C T) ∧ Hid (Below w.heap.size w wr)) (fun v0 v1 _ => (match v0 with | .string s => s.size | _ => 0) + (match v1 with | .string s => s.size | _ => 0))
  case atStart => exact ⟨str, pat, z1, Nat.le_refl _, rfl, rfl, HI, Lib.hid (Below.refl _ _)⟩
  case round =>
    clear HI
    obtain ⟨s, p, zs, zp, rfl, rfl, HI, HB⟩ := hrel
    obtain ⟨C, T, hI⟩ := HI.out
    clear HI
    by_cases hp0 : p.size = 0
    · have hT := hI.p_nil hp0
      subst hT
      by_cases hs0 : s.size = 0
      · have HM := Lib.hid hI
        clear hI
        go_wp2
        rw [← HPP.out]
        exact ⟨⟨true, rfl, fun _ => rfl⟩, HB.out⟩
      · obtain ⟨c, C1, rfl⟩ := hI.s_cons (by omega)
        have HM := Lib.hid hI
        clear hI
        go_wp2
        rw [← HPP.out]
        exact ⟨⟨false, rfl, fun hf => by cases HM.out.fit hf⟩, HB.out⟩
    have hp1 : 0 < p.size := by omega
    obtain ⟨t, T1, rfl⟩ := hI.p_cons hp1
    cases t with
    | star =>
      have gp : p[0] = 42 := by
        have := hI.bp.get 0 hp1
        rw [this, prL_cons]
        rfl
      have hzp1 : p.size ≤ 1000000 := by omega
      have hzn : p.size ≤ n := by omega
      by_cases hs0 : s.size = 0
      · have hC := hI.s_nil hs0
        subst hC
        have HM := Lib.hid hI
        clear hI
        go_wp2
        go_loop [1] (fun v1 => ∃ (p2 : ByteArray), p2.size ≤ p.size ∧ 0 < p2.size ∧ v1 = .string p2 ∧ Hid (∃ T2, Mi C0 T0 s p2 [] (.star :: T2))) (fun v1 => match v1 with | .string s => s.size | _ => 0)
        case atStart => exact ⟨p, Nat.le_refl _, hp1, rfl, Lib.hid ⟨T1, HM.out⟩⟩
        case round =>
          clear gp hp1 HM hp0
          obtain ⟨p2, hp2, hp0, rfl, HI⟩ := hrel
          obtain ⟨T2, hI⟩ := HI.out
          clear HI
          cases T2 with
          | nil =>
            have hz := p_len_star hI
            clear hI
            go_wp2
            rw [← HPP.out]
            exact ⟨⟨true, rfl, fun _ => rfl⟩, HB.out⟩
          | cons t2 T2 =>
            have hz := p_len_more hI
            obtain ⟨k1, k2⟩ := hI.second hz
            by_cases ht2 : t2 = .star
            · subst ht2
              have g1 := k1 rfl
              have HM := Lib.hid hI.two
              clear k1 k2 hI
              go_wp2
              go_round
              case rel => exact ⟨p2.extract 1 p2.size, by rw [ByteArray.size_extract]; omega, by rw [ByteArray.size_extract]; omega, rfl, Lib.hid ⟨_, HM.out⟩⟩
              case measure => show (p2.extract 1 p2.size).size < p2.size; rw [ByteArray.size_extract]; omega
            · have g1 : ((p2[1].toNat : Int) == 42) = false := beq_false_of_ne (k2 ht2)
              have HTR : Hid (∀ W, Lib.Utf8Tabs 7 8 W → Calls Tryd.prog 95 #[.string s, .string p2, .bool false] W (TrP [] (t2 :: T2) W)) := Lib.hid (fun W hW => trim_c [] (t2 :: T2) hI.oc (fun x hx => hI.ot x (by simp at hx ⊢; exact .inr hx)) s p2 hI.bs (by have := hI.bp; rwa [prL_cons] at this) zs (by omega) W hW)
              have HM := Lib.hid hI
              clear k1 k2 hI ht2
              go_wp2_with (first | (go_at_call 95; (with_reducible refine (HTR.out _ (tabs_below HU.out HB.out)).mono ?_); rintro e w3 ⟨⟨s2, p3, ok, rfl, hok, hno⟩, hb3⟩; have HB3 := Lib.hid (bl_step HB.out hb3); have HOK := Lib.hid hok; have HNO := Lib.hid hno; clear hok hno hb3; rcases ok with _ | _; all_goals (first | (have hp3 : 1 ≤ p3.size := (p3_pos HM.out (HOK.out (by trivial)))) | skip)) | (go_at_call 81; obtain ⟨C2, T3, hM2, y1, y2, y3, D, hD⟩ := HM.out.trim (HOK.out (by trivial)); refine (HIH.out s2 (p3.extract 1 p3.size) C2 T3 hM2.oc (fun x hx => hM2.ot x (by simp [hx])) hM2.bs hM2.rest (by omega) (by rw [ByteArray.size_extract]; omega) (by rw [ByteArray.size_extract]; omega) _ (tabs_below HU.out HB3.out)).mono ?_; rintro e w4 ⟨⟨b, rfl, hb⟩, hb4⟩; have HB4 := Lib.hid (bl_step HB3.out hb4); have HBB := Lib.hid hb; have HM2 := Lib.hid hM2; have HD := Lib.hid hD; clear hb hb4 hM2 hD; rcases b with _ | _; all_goals (have hz : s2.size = 0 := (by omega))))
              all_goals first
                | (rw [← HPP.out]; exact ⟨⟨false, rfl, fun hf => absurd (HM.out.fit hf) (HNO.out (by trivial))⟩, HB3.out⟩)
                | (rw [← HPP.out]; exact ⟨⟨true, rfl, fun _ => rfl⟩, HB3.out⟩)
                | (rw [← HPP.out]; exact ⟨⟨true, rfl, fun _ => rfl⟩, HB4.out⟩)
                | (rw [← HPP.out]; exact ⟨⟨false, rfl, fun hf => HBB.out (nil_fit HM2.out hz hf)⟩, HB4.out⟩)
      have hs1 : 0 < s.size := by omega
      obtain ⟨c, C1, rfl⟩ := hI.s_cons hs1
      have hby := hI.byte hs1
      have hsz := hI.size
      have HFs := Lib.hid (fun W hW => first_c s (encL C1) c (hI.oc c (by simp)) (by have := hI.bs; rwa [encL_cons] at this) W hW)
      have he := enc_pos c
      have HE : Hid (∀ h : c < 128, (enc c).length = 1) := Lib.hid (fun h => by rw [enc1 h]; rfl)
      have HM := Lib.hid hI
      obtain ⟨e2, he2⟩ : ∃ e, (enc c).length = e := ⟨_, rfl⟩
      rw [he2] at HFs HE he hsz
      have HN := Lib.hid he2
      clear hI he2
      rcases hby with ⟨h1, h2, h5⟩ | ⟨h1, y, h2, h3, h4⟩
      · clear h5
        have h2w : wrap32 (s[0].toNat : Int) = (c : Int) := by rw [h2]; unfold wrap32; omega
        clear h2
        have e1 := HE.out h1
        subst e1
        go_wp2
        go_loop [1] (fun v1 => ∃ (p2 : ByteArray), p2.size ≤ p.size ∧ 0 < p2.size ∧ v1 = .string p2 ∧ Hid (∃ T2, Mi C0 T0 s p2 (c :: C1) (.star :: T2))) (fun v1 => match v1 with | .string s => s.size | _ => 0)
        case atStart => exact ⟨p, Nat.le_refl _, hp1, rfl, Lib.hid ⟨T1, HM.out⟩⟩
        case round =>
          clear gp hp1 HM hp0
          obtain ⟨p2, hp2, hp0, rfl, HI⟩ := hrel
          obtain ⟨T2, hI⟩ := HI.out
          clear HI
          cases T2 with
          | nil =>
            have hz := p_len_star hI
            clear hI
            go_wp2
            rw [← HPP.out]
            exact ⟨⟨true, rfl, fun _ => rfl⟩, HB.out⟩
          | cons t2 T2 =>
            have hz := p_len_more hI
            obtain ⟨k1, k2⟩ := hI.second hz
            by_cases ht2 : t2 = .star
            · subst ht2
              have g1 := k1 rfl
              have HM := Lib.hid hI.two
              clear k1 k2 hI
              go_wp2
              go_round
              case rel => exact ⟨p2.extract 1 p2.size, by rw [ByteArray.size_extract]; omega, by rw [ByteArray.size_extract]; omega, rfl, Lib.hid ⟨_, HM.out⟩⟩
              case measure => show (p2.extract 1 p2.size).size < p2.size; rw [ByteArray.size_extract]; omega
            · have g1 : ((p2[1].toNat : Int) == 42) = false := beq_false_of_ne (k2 ht2)
              have HTR : Hid (∀ W, Lib.Utf8Tabs 7 8 W → Calls Tryd.prog 95 #[.string s, .string p2, .bool false] W (TrP (c :: C1) (t2 :: T2) W)) := Lib.hid (fun W hW => trim_c (c :: C1) (t2 :: T2) hI.oc (fun x hx => hI.ot x (by simp at hx ⊢; exact .inr hx)) s p2 hI.bs (by have := hI.bp; rwa [prL_cons] at this) zs (by omega) W hW)
              have HM := Lib.hid hI
              clear k1 k2 hI ht2
              go_wp2_with (first | (go_at_call 95; (with_reducible refine (HTR.out _ (tabs_below HU.out HB.out)).mono ?_); rintro e w3 ⟨⟨s2, p3, ok, rfl, hok, hno⟩, hb3⟩; have HB3 := Lib.hid (bl_step HB.out hb3); have HOK := Lib.hid hok; have HNO := Lib.hid hno; clear hok hno hb3; rcases ok with _ | _; all_goals (first | (have hp3 : 1 ≤ p3.size := (p3_pos HM.out (HOK.out (by trivial)))) | skip)) | (go_at_call 81; obtain ⟨C2, T3, hM2, y1, y2, y3, D, hD⟩ := HM.out.trim (HOK.out (by trivial)); refine (HIH.out s2 (p3.extract 1 p3.size) C2 T3 hM2.oc (fun x hx => hM2.ot x (by simp [hx])) hM2.bs hM2.rest (by omega) (by rw [ByteArray.size_extract]; omega) (by rw [ByteArray.size_extract]; omega) _ (tabs_below HU.out HB3.out)).mono ?_; rintro e w4 ⟨⟨b, rfl, hb⟩, hb4⟩; have HB4 := Lib.hid (bl_step HB3.out hb4); have HBB := Lib.hid hb; have HM2 := Lib.hid hM2; have HD := Lib.hid hD; clear hb hb4 hM2 hD; rcases b with _ | _; all_goals (by_cases hz : s2.size = 0; all_goals (first | (have hes : 1 ≤ s2.size := (head_size HM2.out HD.out HN.out hz)) | skip))))
              all_goals first
                | (rw [← HPP.out]; exact ⟨⟨false, rfl, fun hf => absurd (HM.out.fit hf) (HNO.out (by trivial))⟩, HB3.out⟩)
                | (rw [← HPP.out]; exact ⟨⟨true, rfl, fun _ => rfl⟩, HB3.out⟩)
                | (rw [← HPP.out]; exact ⟨⟨true, rfl, fun _ => rfl⟩, HB4.out⟩)
                | (rw [← HPP.out]; exact ⟨⟨false, rfl, fun hf => HBB.out (nil_fit HM2.out hz hf)⟩, HB4.out⟩)
                | (refine ⟨⟨s2.extract 1 s2.size, p3, by rw [ByteArray.size_extract]; omega, by omega, rfl, rfl, Lib.hid (eat_next HM2.out HD.out HN.out hz (fun hf => by cases HBB.out hf)), HB4⟩, ?_⟩; (show (s2.extract 1 s2.size).size + p3.size < s.size + p.size); rw [ByteArray.size_extract]; omega)
      · have h2w : wrap32 (s[0].toNat : Int) = y := by rw [h2]; unfold wrap32; omega
        clear h2
        go_wp2_with (go_at_call 94; (with_reducible refine (HFs.out _ (tabs_below HU.out HB.out)).mono ?_); rintro e w1 ⟨rfl, hb1⟩; have HB1 := Lib.hid (bl_step HB.out hb1); clear hb1)
        go_loop [1] (fun v1 => ∃ (p2 : ByteArray), p2.size ≤ p.size ∧ 0 < p2.size ∧ v1 = .string p2 ∧ Hid (∃ T2, Mi C0 T0 s p2 (c :: C1) (.star :: T2))) (fun v1 => match v1 with | .string s => s.size | _ => 0)
        case atStart => exact ⟨p, Nat.le_refl _, hp1, rfl, Lib.hid ⟨T1, HM.out⟩⟩
        case round =>
          clear gp hp1 HM hp0
          obtain ⟨p2, hp2, hp0, rfl, HI⟩ := hrel
          obtain ⟨T2, hI⟩ := HI.out
          clear HI
          cases T2 with
          | nil =>
            have hz := p_len_star hI
            clear hI
            go_wp2
            rw [← HPP.out]
            exact ⟨⟨true, rfl, fun _ => rfl⟩, HB1.out⟩
          | cons t2 T2 =>
            have hz := p_len_more hI
            obtain ⟨k1, k2⟩ := hI.second hz
            by_cases ht2 : t2 = .star
            · subst ht2
              have g1 := k1 rfl
              have HM := Lib.hid hI.two
              clear k1 k2 hI
              go_wp2
              go_round
              case rel => exact ⟨p2.extract 1 p2.size, by rw [ByteArray.size_extract]; omega, by rw [ByteArray.size_extract]; omega, rfl, Lib.hid ⟨_, HM.out⟩⟩
              case measure => show (p2.extract 1 p2.size).size < p2.size; rw [ByteArray.size_extract]; omega
            · have g1 : ((p2[1].toNat : Int) == 42) = false := beq_false_of_ne (k2 ht2)
              have HTR : Hid (∀ W, Lib.Utf8Tabs 7 8 W → Calls Tryd.prog 95 #[.string s, .string p2, .bool false] W (TrP (c :: C1) (t2 :: T2) W)) := Lib.hid (fun W hW => trim_c (c :: C1) (t2 :: T2) hI.oc (fun x hx => hI.ot x (by simp at hx ⊢; exact .inr hx)) s p2 hI.bs (by have := hI.bp; rwa [prL_cons] at this) zs (by omega) W hW)
              have HM := Lib.hid hI
              clear k1 k2 hI ht2
              go_wp2_with (first | (go_at_call 95; (with_reducible refine (HTR.out _ (tabs_below HU.out HB1.out)).mono ?_); rintro e w3 ⟨⟨s2, p3, ok, rfl, hok, hno⟩, hb3⟩; have HB3 := Lib.hid (bl_step HB1.out hb3); have HOK := Lib.hid hok; have HNO := Lib.hid hno; clear hok hno hb3; rcases ok with _ | _; all_goals (first | (have hp3 : 1 ≤ p3.size := (p3_pos HM.out (HOK.out (by trivial)))) | skip)) | (go_at_call 81; obtain ⟨C2, T3, hM2, y1, y2, y3, D, hD⟩ := HM.out.trim (HOK.out (by trivial)); refine (HIH.out s2 (p3.extract 1 p3.size) C2 T3 hM2.oc (fun x hx => hM2.ot x (by simp [hx])) hM2.bs hM2.rest (by omega) (by rw [ByteArray.size_extract]; omega) (by rw [ByteArray.size_extract]; omega) _ (tabs_below HU.out HB3.out)).mono ?_; rintro e w4 ⟨⟨b, rfl, hb⟩, hb4⟩; have HB4 := Lib.hid (bl_step HB3.out hb4); have HBB := Lib.hid hb; have HM2 := Lib.hid hM2; have HD := Lib.hid hD; clear hb hb4 hM2 hD; rcases b with _ | _; all_goals (by_cases hz : s2.size = 0; all_goals (first | (have hes : e2 ≤ s2.size := (head_size HM2.out HD.out HN.out hz)) | skip))))
              all_goals first
                | (rw [← HPP.out]; exact ⟨⟨false, rfl, fun hf => absurd (HM.out.fit hf) (HNO.out (by trivial))⟩, HB3.out⟩)
                | (rw [← HPP.out]; exact ⟨⟨true, rfl, fun _ => rfl⟩, HB3.out⟩)
                | (rw [← HPP.out]; exact ⟨⟨true, rfl, fun _ => rfl⟩, HB4.out⟩)
                | (rw [← HPP.out]; exact ⟨⟨false, rfl, fun hf => HBB.out (nil_fit HM2.out hz hf)⟩, HB4.out⟩)
                | (refine ⟨⟨s2.extract e2 s2.size, p3, by rw [ByteArray.size_extract]; omega, by omega, rfl, rfl, Lib.hid (eat_next HM2.out HD.out HN.out hz (fun hf => by cases HBB.out hf)), HB4⟩, ?_⟩; (show (s2.extract e2 s2.size).size + p3.size < s.size + p.size); rw [ByteArray.size_extract]; omega)
    | one =>
      have gp : p[0] = 63 := by
        have := hI.bp.get 0 hp1
        rw [this, prL_cons]
        rfl
      by_cases hs0 : s.size = 0
      · have hC := hI.s_nil hs0
        subst hC
        have HM := Lib.hid hI
        clear hI
        go_wp2
        rw [← HPP.out]
        exact ⟨⟨false, rfl, fun hf => absurd hf (HM.out.none (by intro e; cases e))⟩, HB.out⟩
      have hs1 : 0 < s.size := by omega
      obtain ⟨c, C1, rfl⟩ := hI.s_cons hs1
      have hby := hI.byte hs1
      have hsz := hI.size
      have HFs : Fc s c (enc c).length := fun W hW => first_c s (encL C1) c (hI.oc c (by simp)) (by have := hI.bs; rwa [encL_cons] at this) W hW
      have he := enc_pos c
      have HE : Hid (∀ h : c < 128, (enc c).length = 1) := Lib.hid (fun h => by rw [enc1 h]; rfl)
      have HM := Lib.hid hI
      obtain ⟨e2, he2⟩ : ∃ e, (enc c).length = e := ⟨_, rfl⟩
      rw [he2] at HFs HE he hsz
      have HN := Lib.hid he2
      clear hI he2
      rcases hby with ⟨h1, h2, h5⟩ | ⟨h1, y, h2, h3, h4⟩
      · clear h5
        have h2w : Value.int .i32 (wrap32 (s[0].toNat : Int)) = .int .i32 (c : Int) := congrArg _ (by rw [h2]; unfold wrap32; omega)
        clear h2
        have e1 := HE.out h1
        subst e1
        go_wp2
        refine ⟨⟨s.extract 1 s.size, p.extract 1 p.size, by simp only [ByteArray.size_extract]; omega, by simp only [ByteArray.size_extract]; omega, rfl, rfl, Lib.hid ⟨_, _, by have := HM.out.step (t := .one) (by intro e; cases e); rwa [HN.out, show (pr Tm.one).length = 1 from rfl] at this⟩, HB⟩, ?_⟩
        show (s.extract 1 s.size).size + (p.extract 1 p.size).size < s.size + p.size
        simp only [ByteArray.size_extract]
        omega
      · have h2w : Value.int .i32 (wrap32 (s[0].toNat : Int)) = .int .i32 (y : Int) := congrArg _ (by rw [h2]; unfold wrap32; omega)
        clear h2
        go_wp2_with ((go_at_call 94; (with_reducible refine (Fc.out HFs _ (tabs_below HU.out HB.out)).mono ?_); rintro e w1 ⟨rfl, hb1⟩; have HB1 := Lib.hid (bl_step HB.out hb1); clear hb1))
        refine ⟨⟨s.extract e2 s.size, p.extract 1 p.size, by simp only [ByteArray.size_extract]; omega, by simp only [ByteArray.size_extract]; omega, rfl, rfl, Lib.hid ⟨_, _, by have := HM.out.step (t := .one) (by intro e; cases e); rwa [HN.out, show (pr Tm.one).length = 1 from rfl] at this⟩, HB1⟩, ?_⟩
        show (s.extract e2 s.size).size + (p.extract 1 p.size).size < s.size + p.size
        simp only [ByteArray.size_extract]
        omega
    | ch d =>
      by_cases hd : spc d
      · have hd128 : d < 128 := by unfold spc at hd; omega
        have gp : p[0] = 92 := by
          have := hI.bp.get 0 hp1
          rw [this, prL_cons, show pr (.ch d) = [92, UInt8.ofNat d] from if_pos hd]
          rfl
        have hz2 : 2 ≤ p.size := by
          have h := hI.bp.size
          rw [prL_cons, show pr (.ch d) = [92, UInt8.ofNat d] from if_pos hd, List.length_append, List.length_cons, List.length_cons] at h
          omega
        obtain ⟨q, hqe⟩ : ∃ q, p.extract 1 p.size = q := ⟨_, rfl⟩
        have hzs : q.size = p.size - 1 := by rw [← hqe, ByteArray.size_extract]; omega
        have hzq : 1 ≤ q.size := by omega
        have hzp : q.size < p.size := by omega
        have HFq : Fc q d 1 := fun W hW => by
          have := Fq.out (fq_of hI hd) W hW
          rw [hqe] at this
          exact this
        have HQ : Hid (Bs (q.extract 1 q.size) (prL T1)) := Lib.hid (by
          have := Qb.out (qb_of hI hd)
          rw [hqe] at this
          exact this)
        clear hd hzs hz2
        by_cases hs0 : s.size = 0
        · have hC := hI.s_nil hs0
          subst hC
          have HM := Lib.hid hI
          clear hI
          go_wp2
          rw [← HPP.out]
          exact ⟨⟨false, rfl, fun hf => absurd hf (HM.out.none (by intro e; cases e))⟩, HB.out⟩
        have hs1 : 0 < s.size := by omega
        obtain ⟨c, C1, rfl⟩ := hI.s_cons hs1
        have hby := hI.byte hs1
        have hsz := hI.size
        have HFs : Fc s c (enc c).length := fun W hW => first_c s (encL C1) c (hI.oc c (by simp)) (by have := hI.bs; rwa [encL_cons] at this) W hW
        have he := enc_pos c
        have HE : Hid (∀ h : c < 128, (enc c).length = 1) := Lib.hid (fun h => by rw [enc1 h]; rfl)
        have HM := Lib.hid hI
        obtain ⟨e2, he2⟩ : ∃ e, (enc c).length = e := ⟨_, rfl⟩
        rw [he2] at HFs HE he hsz
        have HN := Lib.hid he2
        clear hI he2
        rcases hby with ⟨h1, h2, h5⟩ | ⟨h1, y, h2, h3, h4⟩
        · clear h5
          have h2w : Value.int .i32 (wrap32 (s[0].toNat : Int)) = .int .i32 (c : Int) := congrArg _ (by rw [h2]; unfold wrap32; omega)
          clear h2
          have e1 := HE.out h1
          subst e1
          have HNE : Hid (((c : Int) != (d : Int)) = true → ¬ fit1 (.ch d) c) := Lib.hid (fun e h => by rw [show d = c from h] at e; simp at e)
          go_wp2_with ((go_at_call 94; (with_reducible refine (Fc.out HFq _ (tabs_below HU.out HB.out)).mono ?_); rintro e w2 ⟨rfl, hb2⟩; have HB2 := Lib.hid (bl_step HB.out hb2); clear hb2))
          all_goals first
            | (rw [← HPP.out]; exact ⟨⟨false, rfl, fun hf => absurd hf (HM.out.miss (by intro e; cases e) (HNE.out (by assumption)))⟩, HB2.out⟩)
            | (refine ⟨⟨s.extract 1 s.size, q.extract 1 q.size, by simp only [ByteArray.size_extract]; omega, by simp only [ByteArray.size_extract]; omega, rfl, rfl, Lib.hid ⟨_, _, ⟨(by have := HM.out.bs; rw [encL_cons] at this; have := this.drop; rwa [HN.out] at this), HQ.out, (fun x hx => HM.out.oc x (by simp [hx])), (fun x hx => HM.out.ot x (by simp [hx])), (fun hf => by obtain ⟨c', C', e, _, h2⟩ := (HM.out.fit hf).one (by intro e; cases e); cases e; exact h2)⟩⟩, HB2⟩, ?_⟩; (show (s.extract 1 s.size).size + (q.extract 1 q.size).size < s.size + p.size); simp only [ByteArray.size_extract]; omega)
        · have h2w : Value.int .i32 (wrap32 (s[0].toNat : Int)) = .int .i32 (y : Int) := congrArg _ (by rw [h2]; unfold wrap32; omega)
          clear h2
          have hne : ¬ d = c := fun h => absurd (h ▸ hd128 : c < 128) (Nat.not_lt_of_le h1)
          have edc : ((c : Int) == (d : Int)) = false := beq_false_of_ne (fun e => hne (Int.ofNat_inj.1 e).symm)
          have HNE : Hid (¬ fit1 (.ch d) c) := Lib.hid hne
          clear hne
          go_wp2_with (first | (go_at_call 94; (with_reducible refine (Fc.out HFs _ (tabs_below HU.out HB.out)).mono ?_); rintro e w1 ⟨rfl, hb1⟩; have HB1 := Lib.hid (bl_step HB.out hb1); clear hb1) | (go_at_call 94; (with_reducible refine (Fc.out HFq _ (tabs_below HU.out HB1.out)).mono ?_); rintro e w2 ⟨rfl, hb2⟩; have HB2 := Lib.hid (bl_step HB1.out hb2); clear hb2))
          all_goals
            rw [← HPP.out]
            exact ⟨⟨false, rfl, fun hf => absurd hf (HM.out.miss (by intro e; cases e) HNE.out)⟩, HB2.out⟩
      have hby0 := hI.pbyte hd hp1
      rcases hby0 with ⟨g1, g2, g3⟩ | ⟨g1, z, g2, g3, g4⟩
      · have g2w : Value.int .i32 (wrap32 (p[0].toNat : Int)) = .int .i32 (d : Int) := congrArg _ (by rw [g2]; unfold wrap32; omega)
        clear g2
        have e42 : ((d : Int) == 42) = false := beq_false_of_ne (fun e => hd (.inl (by omega)))
        have e63 : ((d : Int) == 63) = false := beq_false_of_ne (fun e => hd (.inr (.inl (by omega))))
        have e92 : ((d : Int) == 92) = false := beq_false_of_ne (fun e => hd (.inr (.inr (by omega))))
        have HPR : Hid ((pr (.ch d)).length = 1) := Lib.hid (by rw [show pr (.ch d) = enc d from if_neg hd]; exact g3)
        clear hd g3
        by_cases hs0 : s.size = 0
        · have hC := hI.s_nil hs0
          subst hC
          have HM := Lib.hid hI
          clear hI
          go_wp2
          rw [← HPP.out]
          exact ⟨⟨false, rfl, fun hf => absurd hf (HM.out.none (by intro e; cases e))⟩, HB.out⟩
        have hs1 : 0 < s.size := by omega
        obtain ⟨c, C1, rfl⟩ := hI.s_cons hs1
        have hby := hI.byte hs1
        have hsz := hI.size
        have HFs : Fc s c (enc c).length := fun W hW => first_c s (encL C1) c (hI.oc c (by simp)) (by have := hI.bs; rwa [encL_cons] at this) W hW
        have he := enc_pos c
        have HE : Hid (∀ h : c < 128, (enc c).length = 1) := Lib.hid (fun h => by rw [enc1 h]; rfl)
        have HM := Lib.hid hI
        obtain ⟨e2, he2⟩ : ∃ e, (enc c).length = e := ⟨_, rfl⟩
        rw [he2] at HFs HE he hsz
        have HN := Lib.hid he2
        clear hI he2
        rcases hby with ⟨h1, h2, h5⟩ | ⟨h1, y, h2, h3, h4⟩
        · clear h5
          have h2w : Value.int .i32 (wrap32 (s[0].toNat : Int)) = .int .i32 (c : Int) := congrArg _ (by rw [h2]; unfold wrap32; omega)
          clear h2
          have e1 := HE.out h1
          subst e1
          have HNE : Hid (((c : Int) != (d : Int)) = true → ¬ fit1 (.ch d) c) := Lib.hid (fun e h => by rw [show d = c from h] at e; simp at e)
          go_wp2
          all_goals first
            | (rw [← HPP.out]; exact ⟨⟨false, rfl, fun hf => absurd hf (HM.out.miss (by intro e; cases e) (HNE.out (by assumption)))⟩, HB.out⟩)
            | (refine ⟨⟨s.extract 1 s.size, p.extract 1 p.size, by simp only [ByteArray.size_extract]; omega, by simp only [ByteArray.size_extract]; omega, rfl, rfl, Lib.hid ⟨_, _, by have := HM.out.step (by intro e; cases e); rwa [HN.out, HPR.out] at this⟩, HB⟩, ?_⟩; (show (s.extract 1 s.size).size + (p.extract 1 p.size).size < s.size + p.size); simp only [ByteArray.size_extract]; omega)
        · have h2w : Value.int .i32 (wrap32 (s[0].toNat : Int)) = .int .i32 (y : Int) := congrArg _ (by rw [h2]; unfold wrap32; omega)
          clear h2
          have hne : ¬ d = c := fun h => absurd (h ▸ g1 : c < 128) (Nat.not_lt_of_le h1)
          have edc : ((c : Int) == (d : Int)) = false := beq_false_of_ne (fun e => hne (Int.ofNat_inj.1 e).symm)
          have HNE : Hid (¬ fit1 (.ch d) c) := Lib.hid hne
          clear hne
          go_wp2_with ((go_at_call 94; (with_reducible refine (Fc.out HFs _ (tabs_below HU.out HB.out)).mono ?_); rintro e w1 ⟨rfl, hb1⟩; have HB1 := Lib.hid (bl_step HB.out hb1); clear hb1))
          all_goals
            rw [← HPP.out]
            exact ⟨⟨false, rfl, fun hf => absurd hf (HM.out.miss (by intro e; cases e) HNE.out)⟩, HB1.out⟩
      · have g2w : Value.int .i32 (wrap32 (p[0].toNat : Int)) = .int .i32 (z : Int) := congrArg _ (by rw [g2]; unfold wrap32; omega)
        clear g2
        have e42 : ((d : Int) == 42) = false := beq_false_of_ne (fun e => by omega)
        have e63 : ((d : Int) == 63) = false := beq_false_of_ne (fun e => by omega)
        have e92 : ((d : Int) == 92) = false := beq_false_of_ne (fun e => by omega)
        have HFp : Fc p d (enc d).length := fun W hW => first_c p (prL T1) d (hI.ot (.ch d) (by simp) : okc d) (by have := hI.bp; rwa [prL_cons, show pr (.ch d) = enc d from if_neg hd] at this) W hW
        have hl1 := enc_pos d
        have hl2 : (enc d).length ≤ p.size := by
          have h := hI.bp.size
          rw [prL_cons, show pr (.ch d) = enc d from if_neg hd, List.length_append] at h
          omega
        obtain ⟨e1, he1⟩ : ∃ e, (enc d).length = e := ⟨_, rfl⟩
        rw [he1] at HFp hl1 hl2
        have HPR : Hid ((pr (.ch d)).length = e1) := Lib.hid (by rw [show pr (.ch d) = enc d from if_neg hd]; exact he1)
        clear hd he1
        by_cases hs0 : s.size = 0
        · have hC := hI.s_nil hs0
          subst hC
          have HM := Lib.hid hI
          clear hI
          go_wp2_with ((go_at_call 94; (with_reducible refine (Fc.out HFp _ (tabs_below HU.out HB.out)).mono ?_); rintro e w0 ⟨rfl, hb0⟩; have HBp := Lib.hid (bl_step HB.out hb0); clear hb0))
          rw [← HPP.out]
          exact ⟨⟨false, rfl, fun hf => absurd hf (HM.out.none (by intro e; cases e))⟩, HBp.out⟩
        have hs1 : 0 < s.size := by omega
        obtain ⟨c, C1, rfl⟩ := hI.s_cons hs1
        have hby := hI.byte hs1
        have hsz := hI.size
        have HFs : Fc s c (enc c).length := fun W hW => first_c s (encL C1) c (hI.oc c (by simp)) (by have := hI.bs; rwa [encL_cons] at this) W hW
        have he := enc_pos c
        have HE : Hid (∀ h : c < 128, (enc c).length = 1) := Lib.hid (fun h => by rw [enc1 h]; rfl)
        have HM := Lib.hid hI
        obtain ⟨e2, he2⟩ : ∃ e, (enc c).length = e := ⟨_, rfl⟩
        rw [he2] at HFs HE he hsz
        have HN := Lib.hid he2
        clear hI he2
        rcases hby with ⟨h1, h2, h5⟩ | ⟨h1, y, h2, h3, h4⟩
        · clear h5
          have h2w : Value.int .i32 (wrap32 (s[0].toNat : Int)) = .int .i32 (c : Int) := congrArg _ (by rw [h2]; unfold wrap32; omega)
          clear h2
          have e1 := HE.out h1
          subst e1
          have hne : ¬ d = c := fun h => absurd (h ▸ g1 : 128 ≤ c) (Nat.not_le_of_lt h1)
          have edc : ((c : Int) == (d : Int)) = false := beq_false_of_ne (fun e => hne (Int.ofNat_inj.1 e).symm)
          have HNE : Hid (¬ fit1 (.ch d) c) := Lib.hid hne
          clear hne
          go_wp2_with ((go_at_call 94; (with_reducible refine (Fc.out HFp _ (tabs_below HU.out HB.out)).mono ?_); rintro e w0 ⟨rfl, hb0⟩; have HBp := Lib.hid (bl_step HB.out hb0); clear hb0))
          all_goals
            rw [← HPP.out]
            exact ⟨⟨false, rfl, fun hf => absurd hf (HM.out.miss (by intro e; cases e) HNE.out)⟩, HBp.out⟩
        · have h2w : Value.int .i32 (wrap32 (s[0].toNat : Int)) = .int .i32 (y : Int) := congrArg _ (by rw [h2]; unfold wrap32; omega)
          clear h2
          have HNE : Hid (((c : Int) != (d : Int)) = true → ¬ fit1 (.ch d) c) := Lib.hid (fun e h => by rw [show d = c from h] at e; simp at e)
          go_wp2_with (first | (go_at_call 94; (with_reducible refine (Fc.out HFp _ (tabs_below HU.out HB.out)).mono ?_); rintro e w0 ⟨rfl, hb0⟩; have HBp := Lib.hid (bl_step HB.out hb0); clear hb0) | (go_at_call 94; (with_reducible refine (Fc.out HFs _ (tabs_below HU.out HBp.out)).mono ?_); rintro e w1 ⟨rfl, hb1⟩; have HB1 := Lib.hid (bl_step HBp.out hb1); clear hb1))
          all_goals first
            | (rw [← HPP.out]; exact ⟨⟨false, rfl, fun hf => absurd hf (HM.out.miss (by intro e; cases e) (HNE.out (by assumption)))⟩, HB1.out⟩)
            | (refine ⟨⟨s.extract e2 s.size, p.extract e1 p.size, by simp only [ByteArray.size_extract]; omega, by simp only [ByteArray.size_extract]; omega, rfl, rfl, Lib.hid ⟨_, _, by have := HM.out.step (by intro e; cases e); rwa [HN.out, HPR.out] at this⟩, HB1⟩, ?_⟩; (show (s.extract e2 s.size).size + (p.extract e1 p.size).size < s.size + p.size); simp only [ByteArray.size_extract]; omega)
end Go.Proofs.YtphpjboljlkdkaaDoor.Mt
