/- match.Match at a text that is made of what the pattern says. -/
import Derived.Test.YtphpjboljlkdkaaDoorMtMatch
namespace Go.Proofs.YtphpjboljlkdkaaDoor.Mt
open Go.RowKit Go.Proofs.YtphpjboljlkdkaaDoorW.PrintWords Go.Lib

theorem match_all : ∀ n, Ih n := by
  intro n
  induction n with
  | zero => intro s p C T _ _ _ _ _ h; omega
  | succ n ih =>
    intro s p C T hC hT hs hp z1 z2 z3 W hU
    exact match_step n ih s p C T hC hT hs hp z1 z2 z3 W hU
set_option maxHeartbeats 8000000 in
set_option maxRecDepth 100000 in
theorem match0_c (s p : ByteArray) (C : List Nat) (T : List Tm) (hC : ∀ c ∈ C, okc c) (hT : ∀ t ∈ T, okt t) (hs : Bs s (encL C)) (hp : Bs p (prL T)) (z1 : s.size ≤ 1000000) (z3 : p.size ≤ 1000000) (hf : Ft C T) (w : World) (hU : Lib.Utf8Tabs 7 8 w) :
    Calls Tryd.prog 52 #[.string s, .string p, .bool false] w fun e w' => e = .returned (.bool true) ∧ Below w.heap.size w w' := by
  by_cases h1 : p = ⟨#[42]⟩
  · subst h1
    go_enter Tryd.func52, Tryd.ntmps52
    go_wp2_with fail
    go_ret
    exact ⟨rfl, Below.refl _ _⟩
  · have HM := Lib.hid (match_all (p.size + 1) s p C T hC hT hs hp z1 (Nat.lt_succ_self _) z3 w hU)
    have HF := Lib.hid hf
    clear hC hT hs hp hU hf
    go_enter Tryd.func52, Tryd.ntmps52
    go_wp2_with (go_at_call 81; refine HM.out.mono ?_; rintro e w1 ⟨⟨b, rfl, hb⟩, hb1⟩; obtain rfl := hb HF.out; clear hb)
    all_goals
      go_ret
      exact ⟨rfl, by first | assumption | exact Below.refl _ _⟩
set_option maxHeartbeats 8000000 in
theorem match1_c (s p : ByteArray) (C : List Nat) (T : List Tm) (hC : ∀ c ∈ C, okc c) (hT : ∀ t ∈ T, okt t) (hs : Bs s (encL C)) (hp : Bs p (prL T)) (z1 : s.size ≤ 1000000) (z3 : p.size ≤ 1000000) (hf : Ft C T) (w : World) (hU : Lib.Utf8Tabs 7 8 w) :
    Calls Tryd.prog 32 #[.string s, .string p] w fun e w' => e = .returned (.bool true) ∧ Below w.heap.size w w' := by
  have HM := Lib.hid (match0_c s p C T hC hT hs hp z1 z3 hf w hU)
  clear hC hT hs hp hU hf
  go_enter Tryd.func32, Tryd.ntmps32
  go_wp2_with (go_at_call 52; refine HM.out.mono ?_; rintro e w1 ⟨rfl, hb1⟩)
  go_ret
  exact ⟨rfl, hb1⟩
set_option maxHeartbeats 8000000 in
theorem mt_c (s p : ByteArray) (C : List Nat) (T : List Tm) (hC : ∀ c ∈ C, okc c) (hT : ∀ t ∈ T, okt t) (hs : Bs s (encL C)) (hp : Bs p (prL T)) (z1 : s.size ≤ 1000000) (z3 : p.size ≤ 1000000) (hf : Ft C T) (w : World) (hU : Lib.Utf8Tabs 7 8 w) :
    Calls Tryd.prog 11 #[.string s, .string p] w fun e w' => e = .returned (.bool true) ∧ Below w.heap.size w w' := by
  have HM := Lib.hid (match1_c s p C T hC hT hs hp z1 z3 hf w hU)
  clear hC hT hs hp hU hf
  go_enter Tryd.func11, Tryd.ntmps11
  go_wp2_with (go_at_call 32; refine HM.out.mono ?_; rintro e w1 ⟨rfl, hb1⟩)
  go_ret
  exact ⟨rfl, hb1⟩
end Go.Proofs.YtphpjboljlkdkaaDoor.Mt
