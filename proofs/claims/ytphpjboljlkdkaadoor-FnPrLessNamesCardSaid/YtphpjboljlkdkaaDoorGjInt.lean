/- Whole numbers in digits: spec.Uint64, spec.Int64; gjson's parseUint, parseInt. -/
import Derived.Test.YtphpjboljlkdkaaDoorProg
import Derived.Test.YtphpjboljlkdkaaDoorKit
import Derived.WalkKit
import Derived.WalkSpells
import Derived.WalkLawsBesides
import Derived.OpenShut
import Derived.Lib.Hide
import Derived.LoopTactic
import Derived.WalkMore
namespace Go.Proofs.YtphpjboljlkdkaaDoor.Gi
open Go.RowKit Go.Proofs.YtphpjboljlkdkaaDoorW.PrintWords

def dv (s : ByteArray) : Nat → Nat
  | 0 => 0
  | k + 1 => dv s k * 10 + ((s.data.toList.getD k 0).toNat - 48)
def Dg (s : ByteArray) (k : Nat) : Prop := ∀ i (h : i < s.size), i < k → 48 ≤ (s[i].toNat : Int) ∧ (s[i].toNat : Int) ≤ 57
theorem gd (s : ByteArray) (i : Nat) (h : i < s.size) : s.data.toList.getD i 0 = s[i] := by
  have h2 : s.data.toList[i]? = some s[i] := by
    rw [Array.getElem?_toList, Array.getElem?_eq_getElem h]
    rfl
  rw [List.getD_eq_getElem?_getD, h2]
  rfl
theorem dv_succ (s : ByteArray) (k : Nat) (h : k < s.size) (hd : 48 ≤ (s[k].toNat : Int)) : (dv s (k + 1) : Int) = dv s k * 10 + ((s[k].toNat : Int) - 48) := by
  show ((dv s k * 10 + ((s.data.toList.getD k 0).toNat - 48) : Nat) : Int) = _
  rw [gd s k h]
  omega
theorem dv_le (s : ByteArray) (k d : Nat) : dv s k ≤ dv s (k + d) := by
  induction d with
  | zero => exact Nat.le_refl _
  | succ d ih =>
    refine Nat.le_trans ih ?_
    show dv s (k + d) ≤ dv s (k + d) * 10 + _
    omega
/-- A text of digits that says a number of 64 bits. -/
def NumOk (s : ByteArray) (n : Nat) : Prop := 0 < s.size ∧ Dg s s.size ∧ dv s s.size = n ∧ n ≤ 18446744073709551615
theorem nil_of {s : ByteArray} (h : s.size = 0) : s = ⟨#[]⟩ := by
  apply ByteArray.ext
  exact Array.eq_empty_of_size_eq_zero h
theorem ne_nil {s : ByteArray} (h : 0 < s.size) : s.toList.isEmpty = false := by
  rw [Lib.toList_data]
  rw [Lib.size_eq] at h
  cases hl : s.data.toList with
  | nil => rw [hl] at h; simp at h
  | cons a l => rfl

def UP (s : ByteArray) (e : Ending) : Prop := ∃ (n : Nat) (ok : Bool), e = .returned (.tuple #[.int .u64 n, .bool ok]) ∧ (ok = true → NumOk s n)
set_option maxHeartbeats 4000000 in
set_option maxRecDepth 100000 in
theorem uint_c (s : ByteArray) (hs : s.size ≤ 140737488351232) (w : World) :
    Calls Tryd.prog 21 #[.string s] w fun e w' => UP s e ∧ w' = w := by
  by_cases h0 : s.size = 0
  · obtain rfl := nil_of h0
    clear h0 hs
    go_enter Tryd.func21, Tryd.ntmps21
    go_wp2
    go_ret2
    exact ⟨⟨0, false, rfl, fun h => by cases h⟩, rfl⟩
  have hp : 0 < s.size := by omega
  have hne := ne_nil hp
  clear h0
  go_enter Tryd.func21, Tryd.ntmps21
  go_wp2
  go_loop [4, 5] (fun vn vi => ∃ (i n : Nat), i ≤ s.size ∧ n ≤ 18446744073709551615 ∧ vn = .int .u64 n ∧ vi = .int .i64 i ∧ Hid (Dg s i ∧ dv s i = n)) (fun _ vi => s.size - (intOf vi).toNat)
  case atStart => exact ⟨0, 0, Nat.zero_le _, by omega, rfl, rfl, Lib.hid ⟨fun i h h2 => by omega, rfl⟩⟩
  case round =>
    obtain ⟨i, n, hi, hn, rfl, rfl, HH⟩ := hrel
    by_cases hlt : i < s.size
    · by_cases h48 : (s[i].toNat : Int) < 48
      · clear HH
        go_wp2
        go_ret2
        exact ⟨⟨0, false, rfl, fun h => by cases h⟩, rfl⟩
      by_cases h57 : 57 < (s[i].toNat : Int)
      · clear HH
        go_wp2
        go_ret2
        exact ⟨⟨0, false, rfl, fun h => by cases h⟩, rfl⟩
      have HS := Lib.hid (dv_succ s i hlt (by omega))
      have HD : Hid (Dg s (i + 1)) := Lib.hid (fun j h h2 => by
        by_cases hj : j < i
        · exact HH.out.1 j h hj
        · obtain rfl : j = i := by omega
          omega)
      obtain ⟨x, hx⟩ : ∃ x : Nat, (s[i].toNat : Int) - 48 = x := ⟨s[i].toNat - 48, by omega⟩
      have w2 : IntKind.u8.wrap ((s[i].toNat : Int) - 48) = x := by simp only [IntKind.wrap_u8]; omega
      have w3 : IntKind.u64.wrap (x : Int) = x := by simp only [IntKind.wrap_u64]; omega
      have HX := Lib.hid hx
      have x9 : (x : Int) ≤ 9 := by omega
      have w4 : IntKind.u64.wrap (18446744073709551615 - (x : Int)) = 18446744073709551615 - (x : Int) := by simp only [IntKind.wrap_u64]; omega
      clear hx
      by_cases hbig : (18446744073709551615 - (x : Int)) / 10 < (n : Int)
      · clear HH
        go_wp2
        go_ret2
        exact ⟨⟨0, false, rfl, fun h => by cases h⟩, rfl⟩
      · have w5 : IntKind.u64.wrap ((n : Int) * 10) = (n : Int) * 10 := by simp only [IntKind.wrap_u64]; omega
        have w6 : IntKind.u64.wrap ((n : Int) * 10 + x) = (n : Int) * 10 + x := by simp only [IntKind.wrap_u64]; omega
        go_wp2
        go_round
        case rel => exact ⟨i + 1, n * 10 + x, by omega, by omega, by simp, by go_num, Lib.hid ⟨HD.out, by have := HS.out; have := HH.out.2; have := HX.out; omega⟩⟩
        case measure => simp [intOf]; omega
    · obtain rfl : i = s.size := by omega
      have HN : Hid (NumOk s n) := Lib.hid ⟨hp, HH.out.1, HH.out.2, hn⟩
      clear HH
      go_wp2
      go_ret2
      exact ⟨⟨n, true, rfl, fun _ => HN.out⟩, rfl⟩
set_option maxHeartbeats 4000000 in
set_option maxRecDepth 100000 in
theorem puint_c (s : ByteArray) (n0 : Nat) (h : NumOk s n0) (hs : s.size ≤ 140737488351232) (w : World) :
    Calls Tryd.prog 62 #[.string s] w fun e w' => e = .returned (.tuple #[.int .u64 n0, .bool true]) ∧ w' = w := by
  obtain ⟨hp, hd, hn, h64⟩ := h
  have HD := Lib.hid hd
  have HN := Lib.hid hn
  clear hd hn
  go_enter Tryd.func62, Tryd.ntmps62
  go_wp2
  go_step3
  go_wp2
  go_loop [4, 5] (fun vi vn => ∃ (i n : Nat), i ≤ s.size ∧ n ≤ 18446744073709551615 ∧ vn = .int .u64 n ∧ vi = .int .i64 i ∧ Hid (dv s i = n)) (fun vi _ => s.size - (intOf vi).toNat)
  case atStart => exact ⟨0, 0, Nat.zero_le _, by omega, rfl, rfl, Lib.hid rfl⟩
  case round =>
    obtain ⟨i, n, hi, hn, rfl, rfl, HH⟩ := hrel
    by_cases hlt : i < s.size
    · obtain ⟨h48, h57⟩ := HD.out i hlt hlt
      have HS := Lib.hid (dv_succ s i hlt h48)
      have HB := Lib.hid (dv_le s (i + 1) (s.size - (i + 1)))
      obtain ⟨x, hx⟩ : ∃ x : Nat, (s[i].toNat : Int) - 48 = x := ⟨s[i].toNat - 48, by omega⟩
      have w2 : IntKind.u8.wrap ((s[i].toNat : Int) - 48) = x := by simp only [IntKind.wrap_u8]; omega
      have w3 : IntKind.u64.wrap (x : Int) = x := by simp only [IntKind.wrap_u64]; omega
      have HX := Lib.hid hx
      have hle : (n : Int) * 10 + x ≤ 18446744073709551615 := by
        have h1 := HS.out
        have h2 := HB.out
        have h3 := HH.out
        have h4 := HN.out
        rw [show i + 1 + (s.size - (i + 1)) = s.size by omega] at h2
        omega
      have w5 : IntKind.u64.wrap ((n : Int) * 10) = (n : Int) * 10 := by simp only [IntKind.wrap_u64]; omega
      have w6 : IntKind.u64.wrap ((n : Int) * 10 + x) = (n : Int) * 10 + x := by simp only [IntKind.wrap_u64]; omega
      clear hx
      go_wp2
      go_round
      case rel => exact ⟨_, _, .int .i64 ((i + 1 : Nat) : Int), .int .u64 ((n * 10 + x : Nat) : Int), ⟨i + 1, by omega, n * 10 + x, by omega, rfl, rfl, Lib.hid (by have := HS.out; have := HH.out; have := HX.out; omega)⟩, rfl, rfl, by go_num, by simp⟩
      case measure => simp [intOf]; omega
    · obtain rfl : i = s.size := by omega
      have e : n = n0 := HH.out.symm.trans HN.out
      clear HH HD HN
      subst e
      go_wp2
      go_ret2
      exact ⟨rfl, rfl⟩
def Neg (s : ByteArray) : Prop := ∃ h : 0 < s.size, s[0] = 45
def IntOk (s : ByteArray) (m : Int) : Prop := (∃ n : Nat, Neg s ∧ NumOk (s.extract 1 s.size) n ∧ (n : Int) ≤ 9223372036854775808 ∧ m = -(n : Int)) ∨ (∃ n : Nat, ¬ Neg s ∧ NumOk s n ∧ (n : Int) < 9223372036854775808 ∧ m = n)
def IP (s : ByteArray) (e : Ending) : Prop := ∃ (m : Int) (ok : Bool), e = .returned (.tuple #[.int .i64 m, .bool ok]) ∧ (ok = true → IntOk s m)
theorem ext_le {s : ByteArray} (h : s.size ≤ 140737488351232) : (s.extract 1 s.size).size ≤ 140737488351232 := by
  rw [ByteArray.size_extract]
  omega
theorem wneg' {n : Nat} (h : (n : Int) ≤ 9223372036854775808) : wrap64 (IntKind.u64.wrap (-(n : Int))) = -(n : Int) := by
  unfold wrap64
  simp only [IntKind.wrap_u64]
  omega
theorem wpos' {n : Nat} (h : (n : Int) < 9223372036854775808) : wrap64 (n : Int) = (n : Int) := by
  unfold wrap64
  omega
theorem wneg2' {n : Nat} (h : (n : Int) ≤ 9223372036854775808) : wrap64 (-(wrap64 (n : Int))) = -(n : Int) := by
  unfold wrap64
  omega
set_option maxHeartbeats 4000000 in
set_option maxRecDepth 100000 in
theorem int_c (s : ByteArray) (hs : s.size ≤ 140737488351232) (w : World) :
    Calls Tryd.prog 19 #[.string s] w fun e w' => IP s e ∧ w' = w := by
  have HU := Lib.hid (uint_c s hs w)
  have HU1 := Lib.hid (uint_c (s.extract 1 s.size) (ext_le hs) w)
  by_cases hn : Neg s
  · have HN := Lib.hid hn
    obtain ⟨hp, h45⟩ := hn
    have hne := ne_nil hp
    have g0 : s[0] = 45 := h45
    clear h45
    go_enter Tryd.func19, Tryd.ntmps19
    go_wp2_with (go_at_call 21; refine HU1.out.mono ?_; rintro e w1 ⟨⟨n, ok, rfl, hok⟩, rfl⟩)
    · go_ret2
      exact ⟨⟨0, false, rfl, fun h => by cases h⟩, rfl⟩
    · go_ret2
      have hk : ok = true := by rename_i h1 h2; simpa using h1
      have hle : (n : Int) ≤ 9223372036854775808 := by assumption
      exact ⟨⟨wrap64 (IntKind.u64.wrap (-(n : Int))), true, rfl, fun _ => .inl ⟨n, HN.out, hok hk, hle, wneg' hle⟩⟩, rfl⟩
    · go_ret2
      exact ⟨⟨0, false, rfl, fun h => by cases h⟩, rfl⟩
  · have HN := Lib.hid hn
    by_cases h0 : s.size = 0
    · obtain rfl := nil_of h0
      clear h0 hs hn
      go_enter Tryd.func19, Tryd.ntmps19
      go_wp2_with (go_at_call 21; refine HU.out.mono ?_; rintro e w1 ⟨⟨n, ok, rfl, hok⟩, rfl⟩; obtain ⟨m, hm⟩ : ∃ m : Int, (n : Int) = m := ⟨_, rfl⟩; rw [hm]; have HM := Lib.hid hm; have HK := Lib.hid hok; clear hm hok)
      · go_ret2
        exact ⟨⟨0, false, rfl, fun h => by cases h⟩, rfl⟩
      · go_ret2
        have hk : ok = true := by rename_i h1 h2; simpa using h1
        have hlt : m < 9223372036854775808 := by assumption
        have hlt : (n : Int) < 9223372036854775808 := by rw [HM.out]; exact hlt
        exact ⟨⟨wrap64 m, true, rfl, fun _ => .inr ⟨n, HN.out, HK.out hk, hlt, by rw [← HM.out]; exact wpos' hlt⟩⟩, rfl⟩
      · go_ret2
        exact ⟨⟨0, false, rfl, fun h => by cases h⟩, rfl⟩
    · have hp : 0 < s.size := by omega
      have hne := ne_nil hp
      have g0 : ((s[0].toNat : Int) == 45) = false := by
        apply beq_false_of_ne
        intro e
        refine hn ⟨hp, ?_⟩
        apply UInt8.toNat_inj.1
        have : (45 : UInt8).toNat = 45 := rfl
        omega
      clear h0 hn
      go_enter Tryd.func19, Tryd.ntmps19
      go_wp2_with (go_at_call 21; refine HU.out.mono ?_; rintro e w1 ⟨⟨n, ok, rfl, hok⟩, rfl⟩; obtain ⟨m, hm⟩ : ∃ m : Int, (n : Int) = m := ⟨_, rfl⟩; rw [hm]; have HM := Lib.hid hm; have HK := Lib.hid hok; clear hm hok)
      · go_ret2
        exact ⟨⟨0, false, rfl, fun h => by cases h⟩, rfl⟩
      · go_ret2
        have hk : ok = true := by rename_i h1 h2; simpa using h1
        have hlt : m < 9223372036854775808 := by assumption
        have hlt : (n : Int) < 9223372036854775808 := by rw [HM.out]; exact hlt
        exact ⟨⟨wrap64 m, true, rfl, fun _ => .inr ⟨n, HN.out, HK.out hk, hlt, by rw [← HM.out]; exact wpos' hlt⟩⟩, rfl⟩
      · go_ret2
        exact ⟨⟨0, false, rfl, fun h => by cases h⟩, rfl⟩
set_option maxHeartbeats 4000000 in
set_option maxRecDepth 100000 in
theorem pint_c (s : ByteArray) (m : Int) (h : IntOk s m) (hs : s.size ≤ 140737488351232) (w : World) :
    Calls Tryd.prog 58 #[.string s] w fun e w' => e = .returned (.tuple #[.int .i64 m, .bool true]) ∧ w' = w := by
  rcases h with ⟨n, ⟨hp, h45⟩, hN, hle, rfl⟩ | ⟨n, hn, hN, hlt, rfl⟩
  · have HU1 := Lib.hid (puint_c (s.extract 1 s.size) n hN (ext_le hs) w)
    have HW := Lib.hid (wneg2' hle)
    have g0 : s[0] = 45 := h45
    clear h45 hN
    go_enter Tryd.func58, Tryd.ntmps58
    go_wp2_with (go_at_call 62; refine HU1.out.mono ?_; rintro e w1 ⟨rfl, rfl⟩)
    go_ret2
    exact ⟨congrArg (fun z => Ending.returned (.tuple #[.int .i64 z, .bool true])) HW.out, rfl⟩
  · have HU0 := puint_c s n hN hs w
    obtain ⟨m, hm⟩ : ∃ m : Int, (n : Int) = m := ⟨_, rfl⟩
    rw [hm] at HU0 hlt ⊢
    have HU := Lib.hid HU0
    have hw : wrap64 m = m := by rw [← hm] at hlt ⊢; exact wpos' hlt
    have HW := Lib.hid hw
    clear hm HU0 hw
    have hp : 0 < s.size := hN.1
    have g0 : ((s[0].toNat : Int) == 45) = false := by
      apply beq_false_of_ne
      intro e
      refine hn ⟨hp, ?_⟩
      apply UInt8.toNat_inj.1
      have : (45 : UInt8).toNat = 45 := rfl
      omega
    clear hN hn
    go_enter Tryd.func58, Tryd.ntmps58
    go_wp2_with (go_at_call 62; refine HU.out.mono ?_; rintro e w1 ⟨rfl, rfl⟩)
    go_ret2
    exact ⟨congrArg (fun z => Ending.returned (.tuple #[.int .i64 z, .bool true])) HW.out, rfl⟩
end Go.Proofs.YtphpjboljlkdkaaDoor.Gi
