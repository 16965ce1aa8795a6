/- Written by a program of this session (a turned copy of the print) out of the translation. -/
import Derived.Test.YtphpjboljlkdkaaPFnGjValidCutx0
import Derived.Test.YtphpjboljlkdkaaPFnGjValidCutx5
import Derived.Test.YtphpjboljlkdkaaPFnGjValidCutx6
import Derived.Test.YtphpjboljlkdkaaPFnGjValidCutx7
import Derived.Test.YtphpjboljlkdkaaPFnGjValidCutx8
namespace Go.Proofs.Ytphpjboljlkdkaa.PFnGjValidCut
open Go.RowKit Go.Proofs.YtphpjboljlkdkaaW.PrintWords Go.Proofs.YtphpjboljlkdkaaW.PrintLast Go.Proofs.YtphpjboljlkdkaaW.PrintMore
attribute [local go_sem] max2_int min2_int max_two min_two max_three min_three max_four min_four   -- for this text's walks alone
set_option linter.unusedVariables false
set_option linter.unusedSimpArgs false
/-! ### gjson_validany: function 21 -/
/-! ### gjson_validobject, walked by hand -/
def isB (c : Int) : Prop := c = 32 ∨ c = 9 ∨ c = 10 ∨ c = 13
instance (c : Int) : Decidable (isB c) := by unfold isB; infer_instance
def bEnd (l : List Int) : Nat → Nat → Nat
  | 0, i => i
  | n + 1, i => if i < l.length then (if isB (l.getD i 0) then bEnd l n (i + 1) else i) else i
theorem bEnd_ge (l : List Int) : ∀ n i, i ≤ bEnd l n i
  | 0, i => Nat.le_refl _
  | n + 1, i => by
    unfold bEnd
    split
    · split
      · exact Nat.le_trans (Nat.le_succ i) (bEnd_ge l n (i + 1))
      · exact Nat.le_refl _
    · exact Nat.le_refl _
theorem bEnd_le (l : List Int) : ∀ n i, i ≤ l.length → bEnd l n i ≤ l.length
  | 0, i, h => h
  | n + 1, i, h => by
    unfold bEnd
    split
    · split
      · exact bEnd_le l n (i + 1) (by omega)
      · exact h
    · exact h
theorem bEnd_blank (l : List Int) : ∀ n i j, i ≤ j → j < bEnd l n i → isB (l.getD j 0)
  | 0, i, j, h1, h2 => by simp [bEnd] at h2; omega
  | n + 1, i, j, h1, h2 => by
    unfold bEnd at h2
    split at h2
    · split at h2
      · rename_i hp
        by_cases e : i = j
        · rw [← e]; exact hp
        · exact bEnd_blank l n (i + 1) j (by omega) h2
      · omega
    · omega
theorem bEnd_stop (l : List Int) : ∀ n i, l.length ≤ i + n → bEnd l n i < l.length → ¬ isB (l.getD (bEnd l n i) 0)
  | 0, i, h1, h2 => by simp [bEnd] at h2; omega
  | n + 1, i, h1, h2 => by
    unfold bEnd at h2 ⊢
    by_cases h3 : i < l.length
    · rw [if_pos h3] at h2 ⊢
      by_cases h4 : isB (l.getD i 0)
      · rw [if_pos h4] at h2 ⊢
        exact bEnd_stop l n (i + 1) (by omega) h2
      · rw [if_neg h4]
        exact h4
    · rw [if_neg h3] at h2
      omega
theorem wp_scope_label {P : Program} {rest : Code} {a : Act} {w : World} {Q : Exit → Act → World → Prop} (l : Nat) (J : Act → World → Prop) (μ : Act → World → Nat)
    (h0 : J a w) (pass : ∀ a w, J a w → ∀ Q' : Exit → Act → World → Prop, (∀ a' w', Q .ret a' w' → Q' .ret a' w') → (∀ a' w', J a' w' → μ a' w' < μ a w → Q' (.goto l) a' w') → rest.wp P Q' a w) : (Code.scope ((Code.label l).seq rest)).wp P Q a w := by
  have pass' : ∀ a w, J a w → rest.wp P (Exit.jump l (fun a' w' => J a' w' ∧ μ a' w' < μ a w) Q) a w := fun a w h => pass a w h _ (fun _ _ h => h) (fun _ _ h1 h2 => ⟨rfl, h1, h2⟩)
  refine wp_scope_jumps l J μ (rest := Code.skip.seq rest) (by simp [findLabel]) ?_ (fun a w h => wp_seq (wp_skip (pass' a w h)))
  apply wp_seq
  apply wp_label
  refine wp_mono (pass' a w h0) ?_
  intro e a' w' h
  cases e with
  | goto l' => exact ⟨h.1, h.2.1⟩
  | normal => exact h
  | exit id => exact h
  | ret => exact h
  | panic ch => exact h
  | outgrown => exact h
theorem C_drawn {w w' : World} {A : Option Addr} {l : List Int} (h : Drawn0 w w') (hr : Kd.C (Kd.int .u8) w A l.length l) : Kd.C (Kd.int .u8) w' A l.length l := by
  obtain ⟨⟨n, rfl⟩⟩ := h
  exact Kd.C_drewN hr n
theorem cell_drawn {w w' : World} (h : Drawn0 w w') (a : Addr) : w'.cell? a = w.cell? a := by
  obtain ⟨⟨n, rfl⟩⟩ := h
  rfl
theorem drawn_trans {w w1 w2 : World} (h : Drawn0 w w1) (k : Drawn0 w1 w2) : Drawn0 w w2 := by
  obtain ⟨⟨n, rfl⟩⟩ := k
  exact h.step n
/-! ### gjson_validarray: function 28 -/
mutual
def gjson_validany.l0 : Nat → List Int → Int → Option (Int × Bool)
  | 0, _, _ => none
  | k + 1, x0, x1 => if x1 < (x0.length : Int) then (if 0 ≤ x1 then (if (rd x0 x1) = 32 then (gjson_validany.j1 k x0 x1 (rd x0 x1) ((rd x0 x1) == 32)) else (if (rd x0 x1) = 9 then (gjson_validany.j1 k x0 x1 (rd x0 x1) ((rd x0 x1) == 9)) else (if (rd x0 x1) = 10 then (gjson_validany.j1 k x0 x1 (rd x0 x1) ((rd x0 x1) == 10)) else (gjson_validany.j1 k x0 x1 (rd x0 x1) ((rd x0 x1) == 13))))) else (none)) else (some (x1, false))
def gjson_validany.j1 : Nat → List Int → Int → Int → Bool → Option (Int × Bool)
  | 0, _, _, _, _ => none
  | k + 1, x0, x1, x15, x17 => if x17 = true then (gjson_validany.l0 k x0 (wrap64 (x1 + 1))) else (if x15 = 123 then ((gjson_validobject.f k x0 (wrap64 (x1 + 1))).bind fun bt284 => (some (bt284.1, bt284.2))) else (if x15 = 91 then ((gjson_validarray.f k x0 (wrap64 (x1 + 1))).bind fun bt286 => (some (bt286.1, bt286.2))) else (if x15 = 34 then ((gjson_validstring.f k x0 (wrap64 (x1 + 1))).bind fun bt288 => (some (bt288.1, bt288.2))) else (if x15 = 45 then (gjson_validany.j2 k x0 x1 x15 (x15 == 45)) else (if x15 = 48 then (gjson_validany.j2 k x0 x1 x15 (x15 == 48)) else (if x15 = 49 then (gjson_validany.j2 k x0 x1 x15 (x15 == 49)) else (if x15 = 50 then (gjson_validany.j2 k x0 x1 x15 (x15 == 50)) else (if x15 = 51 then (gjson_validany.j2 k x0 x1 x15 (x15 == 51)) else (if x15 = 52 then (gjson_validany.j2 k x0 x1 x15 (x15 == 52)) else (if x15 = 53 then (gjson_validany.j2 k x0 x1 x15 (x15 == 53)) else (if x15 = 54 then (gjson_validany.j2 k x0 x1 x15 (x15 == 54)) else (if x15 = 55 then (gjson_validany.j2 k x0 x1 x15 (x15 == 55)) else (if x15 = 56 then (gjson_validany.j2 k x0 x1 x15 (x15 == 56)) else (gjson_validany.j2 k x0 x1 x15 (x15 == 57)))))))))))))))
def gjson_validany.j2 : Nat → List Int → Int → Int → Bool → Option (Int × Bool)
  | 0, _, _, _, _ => none
  | k + 1, x0, x1, x15, x46 => if x46 = true then ((gjson_validnumber.f x0 (wrap64 (x1 + 1))).bind fun bt290 => (some (bt290.1, bt290.2))) else (if x15 = 116 then ((gjson_validtrue.f x0 (wrap64 (x1 + 1))).bind fun bt292 => (some (bt292.1, bt292.2))) else (if x15 = 102 then ((gjson_validfalse.f x0 (wrap64 (x1 + 1))).bind fun bt294 => (some (bt294.1, bt294.2))) else (if x15 = 110 then ((gjson_validnull.f x0 (wrap64 (x1 + 1))).bind fun bt296 => (some (bt296.1, bt296.2))) else (some (x1, false)))))
def gjson_validany.f : Nat → List Int → Int → Option (Int × Bool)
  | 0, _, _ => none
  | k + 1, l0, a1 => gjson_validany.l0 k l0 a1
def gjson_validobject.g0 : Nat → List Int → Nat → Option (Int × Bool)
  | 0, _, _ => none
  | k + 1, l, j => (gjson_validstring.f k l ((j : Int) + 1)).bind fun a => if a.2 = false then some (a.1, false) else (gjson_validcolon.f k l a.1).bind fun b => if b.2 = false then some (b.1, false) else (gjson_validany.f k l b.1).bind fun c => if c.2 = false then some (c.1, false) else (gjson_validcomma.f k l c.1 125).bind fun d => if d.2 = false then some (d.1, false) else if 0 ≤ d.1 ∧ d.1 < (l.length : Int) then (if l.getD d.1.toNat 0 = 125 then some (d.1 + 1, true) else if bEnd l l.length (d.1.toNat + 1) < l.length then (if l.getD (bEnd l l.length (d.1.toNat + 1)) 0 = 34 then (if j < bEnd l l.length (d.1.toNat + 1) then gjson_validobject.g0 k l (bEnd l l.length (d.1.toNat + 1)) else none) else some ((bEnd l l.length (d.1.toNat + 1) : Int), false)) else some ((bEnd l l.length (d.1.toNat + 1) : Int), false)) else none
def gjson_validobject.f : Nat → List Int → Int → Option (Int × Bool)
  | 0, _, _ => none
  | k + 1, l, i => if 0 ≤ i ∧ i ≤ (l.length : Int) ∧ l.length ≤ 4611686018427387904 then (if bEnd l l.length i.toNat < l.length then (if l.getD (bEnd l l.length i.toNat) 0 = 125 then some ((bEnd l l.length i.toNat : Int) + 1, true) else if l.getD (bEnd l l.length i.toNat) 0 = 34 then gjson_validobject.g0 k l (bEnd l l.length i.toNat) else some ((bEnd l l.length i.toNat : Int), false)) else some ((bEnd l l.length i.toNat : Int), false)) else none
def gjson_validarray.l0 : Nat → List Int → Int → Option (Int × Bool)
  | 0, _, _ => none
  | k + 1, x0, x1 => if x1 < (x0.length : Int) then (if 0 ≤ x1 then (if (rd x0 x1) = 32 then (gjson_validarray.j1 k x0 x1 (rd x0 x1) ((rd x0 x1) == 32)) else (if (rd x0 x1) = 9 then (gjson_validarray.j1 k x0 x1 (rd x0 x1) ((rd x0 x1) == 9)) else (if (rd x0 x1) = 10 then (gjson_validarray.j1 k x0 x1 (rd x0 x1) ((rd x0 x1) == 10)) else (gjson_validarray.j1 k x0 x1 (rd x0 x1) ((rd x0 x1) == 13))))) else (none)) else (some (x1, false))
def gjson_validarray.j1 : Nat → List Int → Int → Int → Bool → Option (Int × Bool)
  | 0, _, _, _, _ => none
  | k + 1, x0, x1, x15, x47 => if x47 = true then (gjson_validarray.l0 k x0 (wrap64 (x1 + 1))) else (if x15 = 93 then (some (wrap64 (x1 + 1), true)) else (gjson_validarray.l1 k x0 x1))
def gjson_validarray.l1 : Nat → List Int → Int → Option (Int × Bool)
  | 0, _, _ => none
  | k + 1, x0, x1 => if x1 < (x0.length : Int) then ((gjson_validany.f k x0 x1).bind fun bt299 => (if bt299.2 = true then ((gjson_validcomma.f k x0 bt299.1 93).bind fun bt301 => (if bt301.2 = true then (if 0 ≤ bt301.1 then (if bt301.1 < (x0.length : Int) then (if (rd x0 bt301.1) = 93 then (some (wrap64 (bt301.1 + 1), true)) else (gjson_validarray.l1 k x0 (wrap64 (bt301.1 + 1)))) else (none)) else (none)) else (some (bt301.1, false)))) else (some (bt299.1, false)))) else (gjson_validarray.l0 k x0 (wrap64 (x1 + 1)))
def gjson_validarray.f : Nat → List Int → Int → Option (Int × Bool)
  | 0, _, _ => none
  | k + 1, l0, a1 => gjson_validarray.l0 k l0 a1
end
theorem gjson_validany.mono_l : ∀ k, (∀ y0 y1, LeO (gjson_validany.f k y0 y1) (gjson_validany.f (k + 1) y0 y1)) ∧ (∀ y0 y1, LeO (gjson_validany.l0 k y0 y1) (gjson_validany.l0 (k + 1) y0 y1)) ∧ (∀ y0 y1 y2 y3, LeO (gjson_validany.j1 k y0 y1 y2 y3) (gjson_validany.j1 (k + 1) y0 y1 y2 y3)) ∧ (∀ y0 y1 y2 y3, LeO (gjson_validany.j2 k y0 y1 y2 y3) (gjson_validany.j2 (k + 1) y0 y1 y2 y3)) ∧ (∀ y0 y1, LeO (gjson_validobject.f k y0 y1) (gjson_validobject.f (k + 1) y0 y1)) ∧ (∀ y0 y1, LeO (gjson_validobject.g0 k y0 y1) (gjson_validobject.g0 (k + 1) y0 y1)) ∧ (∀ y0 y1, LeO (gjson_validarray.f k y0 y1) (gjson_validarray.f (k + 1) y0 y1)) ∧ (∀ y0 y1, LeO (gjson_validarray.l0 k y0 y1) (gjson_validarray.l0 (k + 1) y0 y1)) ∧ (∀ y0 y1 y2 y3, LeO (gjson_validarray.j1 k y0 y1 y2 y3) (gjson_validarray.j1 (k + 1) y0 y1 y2 y3)) ∧ (∀ y0 y1, LeO (gjson_validarray.l1 k y0 y1) (gjson_validarray.l1 (k + 1) y0 y1))
  | 0 => ⟨fun _ _ r h => by simp [gjson_validany.f] at h, fun _ _ r h => by simp [gjson_validany.l0] at h, fun _ _ _ _ r h => by simp [gjson_validany.j1] at h, fun _ _ _ _ r h => by simp [gjson_validany.j2] at h, fun _ _ r h => by simp [gjson_validobject.f] at h, fun _ _ r h => by simp [gjson_validobject.g0] at h, fun _ _ r h => by simp [gjson_validarray.f] at h, fun _ _ r h => by simp [gjson_validarray.l0] at h, fun _ _ _ _ r h => by simp [gjson_validarray.j1] at h, fun _ _ r h => by simp [gjson_validarray.l1] at h⟩
  | k + 1 => by
    obtain ⟨ih0, ih1, ih2, ih3, ih4, ih5, ih6, ih7, ih8, ih9⟩ := gjson_validany.mono_l k
    refine ⟨?_, ?_, ?_, ?_, ?_, ?_, ?_, ?_, ?_, ?_⟩
    · intro y0 y1
      unfold gjson_validany.f
      repeat' first
      | (with_reducible exact ih0 _ _)
      | (with_reducible exact ih1 _ _)
      | (with_reducible exact ih2 _ _ _ _)
      | (with_reducible exact ih3 _ _ _ _)
      | (with_reducible exact ih4 _ _)
      | (with_reducible exact ih5 _ _)
      | (with_reducible exact ih6 _ _)
      | (with_reducible exact ih7 _ _)
      | (with_reducible exact ih8 _ _ _ _)
      | (with_reducible exact ih9 _ _)
      | (with_reducible exact gjson_validcolon.mono _ _ _)
      | (with_reducible exact gjson_validcomma.mono _ _ _ _)
      | (with_reducible exact gjson_validstring.mono _ _ _)
      | (with_reducible exact LeO.refl _)
      | (with_reducible exact LeO.none _)
      | (with_reducible refine LeO.ite ?_ ?_)
      | (with_reducible refine LeO.bind ?_ (fun _ => ?_))
      | exact ih0 _ _
      | exact ih1 _ _
      | exact ih2 _ _ _ _
      | exact ih3 _ _ _ _
      | exact ih4 _ _
      | exact ih5 _ _
      | exact ih6 _ _
      | exact ih7 _ _
      | exact ih8 _ _ _ _
      | exact ih9 _ _
      | exact gjson_validcolon.mono _ _ _
      | exact gjson_validcomma.mono _ _ _ _
      | exact gjson_validstring.mono _ _ _
      | exact LeO.none _
      | refine LeO.ite ?_ ?_
      | refine LeO.bind ?_ (fun _ => ?_)
    · intro y0 y1
      unfold gjson_validany.l0
      repeat' first
      | (with_reducible exact ih0 _ _)
      | (with_reducible exact ih1 _ _)
      | (with_reducible exact ih2 _ _ _ _)
      | (with_reducible exact ih3 _ _ _ _)
      | (with_reducible exact ih4 _ _)
      | (with_reducible exact ih5 _ _)
      | (with_reducible exact ih6 _ _)
      | (with_reducible exact ih7 _ _)
      | (with_reducible exact ih8 _ _ _ _)
      | (with_reducible exact ih9 _ _)
      | (with_reducible exact gjson_validcolon.mono _ _ _)
      | (with_reducible exact gjson_validcomma.mono _ _ _ _)
      | (with_reducible exact gjson_validstring.mono _ _ _)
      | (with_reducible exact LeO.refl _)
      | (with_reducible exact LeO.none _)
      | (with_reducible refine LeO.ite ?_ ?_)
      | (with_reducible refine LeO.bind ?_ (fun _ => ?_))
      | exact ih0 _ _
      | exact ih1 _ _
      | exact ih2 _ _ _ _
      | exact ih3 _ _ _ _
      | exact ih4 _ _
      | exact ih5 _ _
      | exact ih6 _ _
      | exact ih7 _ _
      | exact ih8 _ _ _ _
      | exact ih9 _ _
      | exact gjson_validcolon.mono _ _ _
      | exact gjson_validcomma.mono _ _ _ _
      | exact gjson_validstring.mono _ _ _
      | exact LeO.none _
      | refine LeO.ite ?_ ?_
      | refine LeO.bind ?_ (fun _ => ?_)
    · intro y0 y1 y2 y3
      unfold gjson_validany.j1
      repeat' first
      | (with_reducible exact ih0 _ _)
      | (with_reducible exact ih1 _ _)
      | (with_reducible exact ih2 _ _ _ _)
      | (with_reducible exact ih3 _ _ _ _)
      | (with_reducible exact ih4 _ _)
      | (with_reducible exact ih5 _ _)
      | (with_reducible exact ih6 _ _)
      | (with_reducible exact ih7 _ _)
      | (with_reducible exact ih8 _ _ _ _)
      | (with_reducible exact ih9 _ _)
      | (with_reducible exact gjson_validcolon.mono _ _ _)
      | (with_reducible exact gjson_validcomma.mono _ _ _ _)
      | (with_reducible exact gjson_validstring.mono _ _ _)
      | (with_reducible exact LeO.refl _)
      | (with_reducible exact LeO.none _)
      | (with_reducible refine LeO.ite ?_ ?_)
      | (with_reducible refine LeO.bind ?_ (fun _ => ?_))
      | exact ih0 _ _
      | exact ih1 _ _
      | exact ih2 _ _ _ _
      | exact ih3 _ _ _ _
      | exact ih4 _ _
      | exact ih5 _ _
      | exact ih6 _ _
      | exact ih7 _ _
      | exact ih8 _ _ _ _
      | exact ih9 _ _
      | exact gjson_validcolon.mono _ _ _
      | exact gjson_validcomma.mono _ _ _ _
      | exact gjson_validstring.mono _ _ _
      | exact LeO.none _
      | refine LeO.ite ?_ ?_
      | refine LeO.bind ?_ (fun _ => ?_)
    · intro y0 y1 y2 y3
      unfold gjson_validany.j2
      repeat' first
      | (with_reducible exact ih0 _ _)
      | (with_reducible exact ih1 _ _)
      | (with_reducible exact ih2 _ _ _ _)
      | (with_reducible exact ih3 _ _ _ _)
      | (with_reducible exact ih4 _ _)
      | (with_reducible exact ih5 _ _)
      | (with_reducible exact ih6 _ _)
      | (with_reducible exact ih7 _ _)
      | (with_reducible exact ih8 _ _ _ _)
      | (with_reducible exact ih9 _ _)
      | (with_reducible exact gjson_validcolon.mono _ _ _)
      | (with_reducible exact gjson_validcomma.mono _ _ _ _)
      | (with_reducible exact gjson_validstring.mono _ _ _)
      | (with_reducible exact LeO.refl _)
      | (with_reducible exact LeO.none _)
      | (with_reducible refine LeO.ite ?_ ?_)
      | (with_reducible refine LeO.bind ?_ (fun _ => ?_))
      | exact ih0 _ _
      | exact ih1 _ _
      | exact ih2 _ _ _ _
      | exact ih3 _ _ _ _
      | exact ih4 _ _
      | exact ih5 _ _
      | exact ih6 _ _
      | exact ih7 _ _
      | exact ih8 _ _ _ _
      | exact ih9 _ _
      | exact gjson_validcolon.mono _ _ _
      | exact gjson_validcomma.mono _ _ _ _
      | exact gjson_validstring.mono _ _ _
      | exact LeO.none _
      | refine LeO.ite ?_ ?_
      | refine LeO.bind ?_ (fun _ => ?_)
    · intro y0 y1
      unfold gjson_validobject.f
      repeat' first
      | (with_reducible exact ih0 _ _)
      | (with_reducible exact ih1 _ _)
      | (with_reducible exact ih2 _ _ _ _)
      | (with_reducible exact ih3 _ _ _ _)
      | (with_reducible exact ih4 _ _)
      | (with_reducible exact ih5 _ _)
      | (with_reducible exact ih6 _ _)
      | (with_reducible exact ih7 _ _)
      | (with_reducible exact ih8 _ _ _ _)
      | (with_reducible exact ih9 _ _)
      | (with_reducible exact gjson_validcolon.mono _ _ _)
      | (with_reducible exact gjson_validcomma.mono _ _ _ _)
      | (with_reducible exact gjson_validstring.mono _ _ _)
      | (with_reducible exact LeO.refl _)
      | (with_reducible exact LeO.none _)
      | (with_reducible refine LeO.ite ?_ ?_)
      | (with_reducible refine LeO.bind ?_ (fun _ => ?_))
      | exact ih0 _ _
      | exact ih1 _ _
      | exact ih2 _ _ _ _
      | exact ih3 _ _ _ _
      | exact ih4 _ _
      | exact ih5 _ _
      | exact ih6 _ _
      | exact ih7 _ _
      | exact ih8 _ _ _ _
      | exact ih9 _ _
      | exact gjson_validcolon.mono _ _ _
      | exact gjson_validcomma.mono _ _ _ _
      | exact gjson_validstring.mono _ _ _
      | exact LeO.none _
      | refine LeO.ite ?_ ?_
      | refine LeO.bind ?_ (fun _ => ?_)
    · intro y0 y1
      unfold gjson_validobject.g0
      repeat' first
      | (with_reducible exact ih0 _ _)
      | (with_reducible exact ih1 _ _)
      | (with_reducible exact ih2 _ _ _ _)
      | (with_reducible exact ih3 _ _ _ _)
      | (with_reducible exact ih4 _ _)
      | (with_reducible exact ih5 _ _)
      | (with_reducible exact ih6 _ _)
      | (with_reducible exact ih7 _ _)
      | (with_reducible exact ih8 _ _ _ _)
      | (with_reducible exact ih9 _ _)
      | (with_reducible exact gjson_validcolon.mono _ _ _)
      | (with_reducible exact gjson_validcomma.mono _ _ _ _)
      | (with_reducible exact gjson_validstring.mono _ _ _)
      | (with_reducible exact LeO.refl _)
      | (with_reducible exact LeO.none _)
      | (with_reducible refine LeO.ite ?_ ?_)
      | (with_reducible refine LeO.bind ?_ (fun _ => ?_))
      | exact ih0 _ _
      | exact ih1 _ _
      | exact ih2 _ _ _ _
      | exact ih3 _ _ _ _
      | exact ih4 _ _
      | exact ih5 _ _
      | exact ih6 _ _
      | exact ih7 _ _
      | exact ih8 _ _ _ _
      | exact ih9 _ _
      | exact gjson_validcolon.mono _ _ _
      | exact gjson_validcomma.mono _ _ _ _
      | exact gjson_validstring.mono _ _ _
      | exact LeO.none _
      | refine LeO.ite ?_ ?_
      | refine LeO.bind ?_ (fun _ => ?_)
    · intro y0 y1
      unfold gjson_validarray.f
      repeat' first
      | (with_reducible exact ih0 _ _)
      | (with_reducible exact ih1 _ _)
      | (with_reducible exact ih2 _ _ _ _)
      | (with_reducible exact ih3 _ _ _ _)
      | (with_reducible exact ih4 _ _)
      | (with_reducible exact ih5 _ _)
      | (with_reducible exact ih6 _ _)
      | (with_reducible exact ih7 _ _)
      | (with_reducible exact ih8 _ _ _ _)
      | (with_reducible exact ih9 _ _)
      | (with_reducible exact gjson_validcolon.mono _ _ _)
      | (with_reducible exact gjson_validcomma.mono _ _ _ _)
      | (with_reducible exact gjson_validstring.mono _ _ _)
      | (with_reducible exact LeO.refl _)
      | (with_reducible exact LeO.none _)
      | (with_reducible refine LeO.ite ?_ ?_)
      | (with_reducible refine LeO.bind ?_ (fun _ => ?_))
      | exact ih0 _ _
      | exact ih1 _ _
      | exact ih2 _ _ _ _
      | exact ih3 _ _ _ _
      | exact ih4 _ _
      | exact ih5 _ _
      | exact ih6 _ _
      | exact ih7 _ _
      | exact ih8 _ _ _ _
      | exact ih9 _ _
      | exact gjson_validcolon.mono _ _ _
      | exact gjson_validcomma.mono _ _ _ _
      | exact gjson_validstring.mono _ _ _
      | exact LeO.none _
      | refine LeO.ite ?_ ?_
      | refine LeO.bind ?_ (fun _ => ?_)
    · intro y0 y1
      unfold gjson_validarray.l0
      repeat' first
      | (with_reducible exact ih0 _ _)
      | (with_reducible exact ih1 _ _)
      | (with_reducible exact ih2 _ _ _ _)
      | (with_reducible exact ih3 _ _ _ _)
      | (with_reducible exact ih4 _ _)
      | (with_reducible exact ih5 _ _)
      | (with_reducible exact ih6 _ _)
      | (with_reducible exact ih7 _ _)
      | (with_reducible exact ih8 _ _ _ _)
      | (with_reducible exact ih9 _ _)
      | (with_reducible exact gjson_validcolon.mono _ _ _)
      | (with_reducible exact gjson_validcomma.mono _ _ _ _)
      | (with_reducible exact gjson_validstring.mono _ _ _)
      | (with_reducible exact LeO.refl _)
      | (with_reducible exact LeO.none _)
      | (with_reducible refine LeO.ite ?_ ?_)
      | (with_reducible refine LeO.bind ?_ (fun _ => ?_))
      | exact ih0 _ _
      | exact ih1 _ _
      | exact ih2 _ _ _ _
      | exact ih3 _ _ _ _
      | exact ih4 _ _
      | exact ih5 _ _
      | exact ih6 _ _
      | exact ih7 _ _
      | exact ih8 _ _ _ _
      | exact ih9 _ _
      | exact gjson_validcolon.mono _ _ _
      | exact gjson_validcomma.mono _ _ _ _
      | exact gjson_validstring.mono _ _ _
      | exact LeO.none _
      | refine LeO.ite ?_ ?_
      | refine LeO.bind ?_ (fun _ => ?_)
    · intro y0 y1 y2 y3
      unfold gjson_validarray.j1
      repeat' first
      | (with_reducible exact ih0 _ _)
      | (with_reducible exact ih1 _ _)
      | (with_reducible exact ih2 _ _ _ _)
      | (with_reducible exact ih3 _ _ _ _)
      | (with_reducible exact ih4 _ _)
      | (with_reducible exact ih5 _ _)
      | (with_reducible exact ih6 _ _)
      | (with_reducible exact ih7 _ _)
      | (with_reducible exact ih8 _ _ _ _)
      | (with_reducible exact ih9 _ _)
      | (with_reducible exact gjson_validcolon.mono _ _ _)
      | (with_reducible exact gjson_validcomma.mono _ _ _ _)
      | (with_reducible exact gjson_validstring.mono _ _ _)
      | (with_reducible exact LeO.refl _)
      | (with_reducible exact LeO.none _)
      | (with_reducible refine LeO.ite ?_ ?_)
      | (with_reducible refine LeO.bind ?_ (fun _ => ?_))
      | exact ih0 _ _
      | exact ih1 _ _
      | exact ih2 _ _ _ _
      | exact ih3 _ _ _ _
      | exact ih4 _ _
      | exact ih5 _ _
      | exact ih6 _ _
      | exact ih7 _ _
      | exact ih8 _ _ _ _
      | exact ih9 _ _
      | exact gjson_validcolon.mono _ _ _
      | exact gjson_validcomma.mono _ _ _ _
      | exact gjson_validstring.mono _ _ _
      | exact LeO.none _
      | refine LeO.ite ?_ ?_
      | refine LeO.bind ?_ (fun _ => ?_)
    · intro y0 y1
      unfold gjson_validarray.l1
      repeat' first
      | (with_reducible exact ih0 _ _)
      | (with_reducible exact ih1 _ _)
      | (with_reducible exact ih2 _ _ _ _)
      | (with_reducible exact ih3 _ _ _ _)
      | (with_reducible exact ih4 _ _)
      | (with_reducible exact ih5 _ _)
      | (with_reducible exact ih6 _ _)
      | (with_reducible exact ih7 _ _)
      | (with_reducible exact ih8 _ _ _ _)
      | (with_reducible exact ih9 _ _)
      | (with_reducible exact gjson_validcolon.mono _ _ _)
      | (with_reducible exact gjson_validcomma.mono _ _ _ _)
      | (with_reducible exact gjson_validstring.mono _ _ _)
      | (with_reducible exact LeO.refl _)
      | (with_reducible exact LeO.none _)
      | (with_reducible refine LeO.ite ?_ ?_)
      | (with_reducible refine LeO.bind ?_ (fun _ => ?_))
      | exact ih0 _ _
      | exact ih1 _ _
      | exact ih2 _ _ _ _
      | exact ih3 _ _ _ _
      | exact ih4 _ _
      | exact ih5 _ _
      | exact ih6 _ _
      | exact ih7 _ _
      | exact ih8 _ _ _ _
      | exact ih9 _ _
      | exact gjson_validcolon.mono _ _ _
      | exact gjson_validcomma.mono _ _ _ _
      | exact gjson_validstring.mono _ _ _
      | exact LeO.none _
      | refine LeO.ite ?_ ?_
      | refine LeO.bind ?_ (fun _ => ?_)
theorem gjson_validany.mono : ∀ a0 a1 k, LeO (gjson_validany.f k a0 a1) (gjson_validany.f (k + 1) a0 a1) := by
  intro a0 a1 k
  obtain ⟨ih0, ih1, ih2, ih3, ih4, ih5, ih6, ih7, ih8, ih9⟩ := gjson_validany.mono_l k
  exact ih0 a0 a1
theorem gjson_validobject.mono : ∀ a0 a1 k, LeO (gjson_validobject.f k a0 a1) (gjson_validobject.f (k + 1) a0 a1) := by
  intro a0 a1 k
  obtain ⟨ih0, ih1, ih2, ih3, ih4, ih5, ih6, ih7, ih8, ih9⟩ := gjson_validany.mono_l k
  exact ih4 a0 a1
theorem gjson_validarray.mono : ∀ a0 a1 k, LeO (gjson_validarray.f k a0 a1) (gjson_validarray.f (k + 1) a0 a1) := by
  intro a0 a1 k
  obtain ⟨ih0, ih1, ih2, ih3, ih4, ih5, ih6, ih7, ih8, ih9⟩ := gjson_validany.mono_l k
  exact ih6 a0 a1
end Go.Proofs.Ytphpjboljlkdkaa.PFnGjValidCut
