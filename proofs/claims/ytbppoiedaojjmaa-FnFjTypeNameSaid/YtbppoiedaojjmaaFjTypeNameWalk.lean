/- The names of fastjson's kinds 0 to 6 are null, object, array, string, number, true and false, for every byte taken modulo 7. -/
import Derived.Test.YtbppoiedaojjmaaProg
import Derived.WalkKit
import Derived.WalkSpells
import Derived.WalkLawsBesides
import Derived.Deep.QuietTactic
import Derived.BigQuiet
import Derived.OpenShut
namespace Go.Proofs.Ytbppoiedaojjmaa
open Go.RowKit

theorem fj_type0 (w : World) : Calls Try.prog 13 #[.int .i64 0] w fun e w' => e = .returned (.string ⟨#[110, 117, 108, 108]⟩) ∧ w' = w := by
  go_enter Try.func13, Try.ntmps13
  go_wp2
  go_ret
  exact ⟨rfl, rfl⟩

theorem fjTypeName_at0 (a0 : Int) (w : World) (hm : a0.tmod 7 = 0) :
    Calls Try.prog 5 #[.int .u8 a0] w fun e w' => e = .returned (.bool true) ∧ Below w.heap.size w w' := by
  go_enter Try.func5, Try.ntmps5
  go_wp2
  go_quiet ((go_at_call 13; exact Calls.quiet_of_same (fj_type0 _)))
  go_wp2
  go_ret
  exact ⟨rfl, below_drewN ((Below.refl _ _).alloc (Nat.le_refl _) _) _⟩

theorem fj_type1 (w : World) : Calls Try.prog 13 #[.int .i64 1] w fun e w' => e = .returned (.string ⟨#[111, 98, 106, 101, 99, 116]⟩) ∧ w' = w := by
  go_enter Try.func13, Try.ntmps13
  go_wp2
  go_ret
  exact ⟨rfl, rfl⟩

theorem fjTypeName_at1 (a0 : Int) (w : World) (hm : a0.tmod 7 = 1) :
    Calls Try.prog 5 #[.int .u8 a0] w fun e w' => e = .returned (.bool true) ∧ Below w.heap.size w w' := by
  go_enter Try.func5, Try.ntmps5
  go_wp2
  go_quiet ((go_at_call 13; exact Calls.quiet_of_same (fj_type1 _)))
  go_wp2
  go_ret
  exact ⟨rfl, below_drewN ((Below.refl _ _).alloc (Nat.le_refl _) _) _⟩

theorem fj_type2 (w : World) : Calls Try.prog 13 #[.int .i64 2] w fun e w' => e = .returned (.string ⟨#[97, 114, 114, 97, 121]⟩) ∧ w' = w := by
  go_enter Try.func13, Try.ntmps13
  go_wp2
  go_ret
  exact ⟨rfl, rfl⟩

theorem fjTypeName_at2 (a0 : Int) (w : World) (hm : a0.tmod 7 = 2) :
    Calls Try.prog 5 #[.int .u8 a0] w fun e w' => e = .returned (.bool true) ∧ Below w.heap.size w w' := by
  go_enter Try.func5, Try.ntmps5
  go_wp2
  go_quiet ((go_at_call 13; exact Calls.quiet_of_same (fj_type2 _)))
  go_wp2
  go_ret
  exact ⟨rfl, below_drewN ((Below.refl _ _).alloc (Nat.le_refl _) _) _⟩

theorem fj_type3 (w : World) : Calls Try.prog 13 #[.int .i64 3] w fun e w' => e = .returned (.string ⟨#[115, 116, 114, 105, 110, 103]⟩) ∧ w' = w := by
  go_enter Try.func13, Try.ntmps13
  go_wp2
  go_ret
  exact ⟨rfl, rfl⟩

theorem fjTypeName_at3 (a0 : Int) (w : World) (hm : a0.tmod 7 = 3) :
    Calls Try.prog 5 #[.int .u8 a0] w fun e w' => e = .returned (.bool true) ∧ Below w.heap.size w w' := by
  go_enter Try.func5, Try.ntmps5
  go_wp2
  go_quiet ((go_at_call 13; exact Calls.quiet_of_same (fj_type3 _)))
  go_wp2
  go_ret
  exact ⟨rfl, below_drewN ((Below.refl _ _).alloc (Nat.le_refl _) _) _⟩

theorem fj_type4 (w : World) : Calls Try.prog 13 #[.int .i64 4] w fun e w' => e = .returned (.string ⟨#[110, 117, 109, 98, 101, 114]⟩) ∧ w' = w := by
  go_enter Try.func13, Try.ntmps13
  go_wp2
  go_ret
  exact ⟨rfl, rfl⟩

theorem fjTypeName_at4 (a0 : Int) (w : World) (hm : a0.tmod 7 = 4) :
    Calls Try.prog 5 #[.int .u8 a0] w fun e w' => e = .returned (.bool true) ∧ Below w.heap.size w w' := by
  go_enter Try.func5, Try.ntmps5
  go_wp2
  go_quiet ((go_at_call 13; exact Calls.quiet_of_same (fj_type4 _)))
  go_wp2
  go_ret
  exact ⟨rfl, below_drewN ((Below.refl _ _).alloc (Nat.le_refl _) _) _⟩

theorem fj_type5 (w : World) : Calls Try.prog 13 #[.int .i64 5] w fun e w' => e = .returned (.string ⟨#[116, 114, 117, 101]⟩) ∧ w' = w := by
  go_enter Try.func13, Try.ntmps13
  go_wp2
  go_ret
  exact ⟨rfl, rfl⟩

theorem fjTypeName_at5 (a0 : Int) (w : World) (hm : a0.tmod 7 = 5) :
    Calls Try.prog 5 #[.int .u8 a0] w fun e w' => e = .returned (.bool true) ∧ Below w.heap.size w w' := by
  go_enter Try.func5, Try.ntmps5
  go_wp2
  go_quiet ((go_at_call 13; exact Calls.quiet_of_same (fj_type5 _)))
  go_wp2
  go_ret
  exact ⟨rfl, below_drewN ((Below.refl _ _).alloc (Nat.le_refl _) _) _⟩

theorem fj_type6 (w : World) : Calls Try.prog 13 #[.int .i64 6] w fun e w' => e = .returned (.string ⟨#[102, 97, 108, 115, 101]⟩) ∧ w' = w := by
  go_enter Try.func13, Try.ntmps13
  go_wp2
  go_ret
  exact ⟨rfl, rfl⟩

theorem fjTypeName_at6 (a0 : Int) (w : World) (hm : a0.tmod 7 = 6) :
    Calls Try.prog 5 #[.int .u8 a0] w fun e w' => e = .returned (.bool true) ∧ Below w.heap.size w w' := by
  go_enter Try.func5, Try.ntmps5
  go_wp2
  go_quiet ((go_at_call 13; exact Calls.quiet_of_same (fj_type6 _)))
  go_wp2
  go_ret
  exact ⟨rfl, below_drewN ((Below.refl _ _).alloc (Nat.le_refl _) _) _⟩

theorem fjTypeName_walk (a0 : Int) (w : World) (w0 : (Lit.int .u8 a0).wf = true) :
    Calls Try.prog 5 #[.int .u8 a0] w fun e w' => e = .returned (.bool true) ∧ Below w.heap.size w w' := by
  have hb : 0 ≤ a0 ∧ a0 ≤ 255 := bounds_u8 w0
  have h1 : 0 ≤ a0.tmod 7 ∧ a0.tmod 7 < 7 := by rw [Int.tmod_eq_emod_of_nonneg hb.1]; omega
  have h2 : a0.tmod 7 = 0 ∨ a0.tmod 7 = 1 ∨ a0.tmod 7 = 2 ∨ a0.tmod 7 = 3 ∨ a0.tmod 7 = 4 ∨ a0.tmod 7 = 5 ∨ a0.tmod 7 = 6 := by omega
  rcases h2 with h | h | h | h | h | h | h
  · exact fjTypeName_at0 a0 w h
  · exact fjTypeName_at1 a0 w h
  · exact fjTypeName_at2 a0 w h
  · exact fjTypeName_at3 a0 w h
  · exact fjTypeName_at4 a0 w h
  · exact fjTypeName_at5 a0 w h
  · exact fjTypeName_at6 a0 w h

end Go.Proofs.Ytbppoiedaojjmaa
