/- Eight bytes at once: where the test says 0, none of the eight is a quotation mark or a backslash. -/
import Derived.Test.YtgbliniamkpocaaDoorShelfSe
import Derived.Laws.BitsLemmas
namespace Go.Proofs.YtgbliniamkpocaaDoor.Jp
open Go
theorem swar_bytes (b0 b1 b2 b3 b4 b5 b6 b7 : Nat) (h0 : b0 < 256) (h1 : b1 < 256) (h2 : b2 < 256) (h3 : b3 < 256) (h4 : b4 < 256) (h5 : b5 < 256) (h6 : b6 < 256) (h7 : b7 < 256)
    (hz : b0 = 0 ∨ b1 = 0 ∨ b2 = 0 ∨ b3 = 0 ∨ b4 = 0 ∨ b5 = 0 ∨ b6 = 0 ∨ b7 = 0) (x s : Nat)
    (hx : x = b0 + 256 * b1 + 65536 * b2 + 16777216 * b3 + 4294967296 * b4 + 1099511627776 * b5 + 281474976710656 * b6 + 72057594037927936 * b7)
    (hs : s = (x + 18446744073709551616 - 72340172838076673) % 18446744073709551616) :
    ∃ k, k < 8 ∧ s / 2 ^ (8 * k + 7) % 2 = 1 ∧ x / 2 ^ (8 * k + 7) % 2 = 0 := by
  by_cases z0 : b0 = 0
  · exact ⟨0, by omega, by show s / 128 % 2 = 1; omega, by show x / 128 % 2 = 0; omega⟩
  by_cases z1 : b1 = 0
  · exact ⟨1, by omega, by show s / 32768 % 2 = 1; omega, by show x / 32768 % 2 = 0; omega⟩
  by_cases z2 : b2 = 0
  · exact ⟨2, by omega, by show s / 8388608 % 2 = 1; omega, by show x / 8388608 % 2 = 0; omega⟩
  by_cases z3 : b3 = 0
  · exact ⟨3, by omega, by show s / 2147483648 % 2 = 1; omega, by show x / 2147483648 % 2 = 0; omega⟩
  by_cases z4 : b4 = 0
  · exact ⟨4, by omega, by show s / 549755813888 % 2 = 1; omega, by show x / 549755813888 % 2 = 0; omega⟩
  by_cases z5 : b5 = 0
  · exact ⟨5, by omega, by show s / 140737488355328 % 2 = 1; omega, by show x / 140737488355328 % 2 = 0; omega⟩
  by_cases z6 : b6 = 0
  · exact ⟨6, by omega, by show s / 36028797018963968 % 2 = 1; omega, by show x / 36028797018963968 % 2 = 0; omega⟩
  have z7 : b7 = 0 := by omega
  exact ⟨7, by omega, by show s / 9223372036854775808 % 2 = 1; omega, by show x / 9223372036854775808 % 2 = 0; omega⟩
def hitN (X : BitVec 64) : BitVec 64 := (X - 72340172838076673#64) &&& ~~~X &&& 9259542123273814144#64
theorem hitN_ne (X : BitVec 64) (j : Nat) (hj : j < 8) (h : X.toNat / 2 ^ (8 * j) % 256 = 0) : hitN X ≠ 0#64 := by
  have hX := X.isLt
  obtain ⟨x, hx⟩ : ∃ x, X.toNat = x := ⟨_, rfl⟩
  rw [hx] at hX h
  have hs : (X - 72340172838076673#64).toNat = (x + 18446744073709551616 - 72340172838076673) % 18446744073709551616 := by
    rw [BitVec.toNat_sub, hx]
    simp only [BitVec.toNat_ofNat]
    omega
  obtain ⟨k, hk, e1, e2⟩ := swar_bytes (x % 256) (x / 256 % 256) (x / 65536 % 256) (x / 16777216 % 256) (x / 4294967296 % 256) (x / 1099511627776 % 256) (x / 281474976710656 % 256) (x / 72057594037927936 % 256)
    (by omega) (by omega) (by omega) (by omega) (by omega) (by omega) (by omega) (by omega)
    (by
      rcases (by omega : j = 0 ∨ j = 1 ∨ j = 2 ∨ j = 3 ∨ j = 4 ∨ j = 5 ∨ j = 6 ∨ j = 7) with rfl | rfl | rfl | rfl | rfl | rfl | rfl | rfl <;> simp at h <;> simp [h])
    x _ (by omega) rfl
  intro h0
  have hb := congrArg (fun v : BitVec 64 => v.getLsbD (8 * k + 7)) h0
  simp only [hitN, BitVec.getLsbD_and, BitVec.getLsbD_not, BitVec.getLsbD_zero] at hb
  have t1 : (X - 72340172838076673#64).getLsbD (8 * k + 7) = true := by
    rw [← BitVec.testBit_toNat, hs, Nat.testBit_eq_decide_div_mod_eq]
    simpa using e1
  have t2 : X.getLsbD (8 * k + 7) = false := by
    rw [← BitVec.testBit_toNat, hx, Nat.testBit_eq_decide_div_mod_eq]
    simp [e2]
  have t3 : (9259542123273814144#64).getLsbD (8 * k + 7) = true := by
    rcases (by omega : k = 0 ∨ k = 1 ∨ k = 2 ∨ k = 3 ∨ k = 4 ∨ k = 5 ∨ k = 6 ∨ k = 7) with rfl | rfl | rfl | rfl | rfl | rfl | rfl | rfl <;> rfl
  rw [t1, t2, t3] at hb
  have : decide (8 * k + 7 < 64) = true := by simp; omega
  rw [this] at hb
  simp at hb
theorem xor_byte (a b j : Nat) (h : a / 2 ^ (8 * j) % 256 = b / 2 ^ (8 * j) % 256) : (a ^^^ b) / 2 ^ (8 * j) % 256 = 0 := by
  rw [Nat.xor_div_two_pow, show (256 : Nat) = 2 ^ 8 from rfl, Nat.xor_mod_two_pow]
  rw [show (256 : Nat) = 2 ^ 8 from rfl] at h
  rw [h, Nat.xor_self]
theorem wrap_bv (n : Int) : IntKind.u64.wrap n = ((BitVec.ofInt 64 n).toNat : Int) := by
  simp only [IntKind.wrap, IntKind.bits, IntKind.signed, BitVec.toNat_ofInt]
  simp
  omega
theorem bv_back (X : BitVec 64) : BitVec.ofInt 64 (X.toNat : Int) = X := by simp
def hitI (Z q : Int) : Int :=
  bits .and .u64 (bits .and .u64 (IntKind.u64.wrap (bits .xor .u64 Z q - 72340172838076673)) (bits .xor .u64 (if IntKind.u64.signed = true then -1 else IntKind.u64.max) (bits .xor .u64 Z q))) 9259542123273814144
theorem bits_bv_and (x y : Int) : bits .and .u64 x y = ((BitVec.ofInt 64 x &&& BitVec.ofInt 64 y).toNat : Int) := by
  show IntKind.u64.wrap ((BitVec.ofInt 64 x &&& BitVec.ofInt 64 y).toNat : Int) = _
  rw [wrap_bv, bv_back]
theorem bits_bv_or (x y : Int) : bits .or .u64 x y = ((BitVec.ofInt 64 x ||| BitVec.ofInt 64 y).toNat : Int) := by
  show IntKind.u64.wrap ((BitVec.ofInt 64 x ||| BitVec.ofInt 64 y).toNat : Int) = _
  rw [wrap_bv, bv_back]
theorem bits_bv_xor (x y : Int) : bits .xor .u64 x y = ((BitVec.ofInt 64 x ^^^ BitVec.ofInt 64 y).toNat : Int) := by
  show IntKind.u64.wrap ((BitVec.ofInt 64 x ^^^ BitVec.ofInt 64 y).toNat : Int) = _
  rw [wrap_bv, bv_back]
theorem hitI_eq (Z q : Int) : hitI Z q = ((hitN (BitVec.ofInt 64 Z ^^^ BitVec.ofInt 64 q)).toNat : Int) := by
  have hm : BitVec.ofInt 64 (if IntKind.u64.signed = true then -1 else IntKind.u64.max) = BitVec.allOnes 64 := by decide
  have hsub : ∀ X : BitVec 64, BitVec.ofInt 64 ((X.toNat : Int) - 72340172838076673) = X - 72340172838076673#64 := fun X => by
    apply BitVec.eq_of_toNat_eq
    have hX := X.isLt
    rw [BitVec.toNat_ofInt, BitVec.toNat_sub]
    simp only [BitVec.toNat_ofNat]
    omega
  unfold hitI hitN
  simp only [bits_bv_and, bits_bv_xor, wrap_bv, bv_back, hm, hsub, BitVec.allOnes_xor]
  rfl
theorem swar (Z : Int) (h : bits .or .u64 (hitI Z 2459565876494606882) (hitI Z 6655295901103053916) = 0) (h0 : 0 ≤ Z) (h1 : Z < 18446744073709551616) (j : Nat) (hj : j < 8) :
    Z.toNat / 2 ^ (8 * j) % 256 ≠ 34 ∧ Z.toNat / 2 ^ (8 * j) % 256 ≠ 92 := by
  rw [bits_bv_or, hitI_eq, hitI_eq, bv_back, bv_back] at h
  have h' : hitN (BitVec.ofInt 64 Z ^^^ BitVec.ofInt 64 2459565876494606882) ||| hitN (BitVec.ofInt 64 Z ^^^ BitVec.ofInt 64 6655295901103053916) = 0#64 := BitVec.eq_of_toNat_eq (by simpa using h)
  rw [BitVec.or_eq_zero_iff] at h'
  have hz : (BitVec.ofInt 64 Z).toNat = Z.toNat := by
    rw [BitVec.toNat_ofInt]
    congr 1
    omega
  have key : ∀ (q : Nat) (Q : BitVec 64), hitN (BitVec.ofInt 64 Z ^^^ Q) = 0#64 → Q.toNat / 2 ^ (8 * j) % 256 = q → Z.toNat / 2 ^ (8 * j) % 256 ≠ q := by
    intro q Q hh hq e
    refine hitN_ne _ j hj ?_ hh
    rw [BitVec.toNat_xor, hz]
    exact xor_byte _ _ _ (by rw [e, hq])
  refine ⟨key 34 _ h'.1 ?_, key 92 _ h'.2 ?_⟩
  · rcases (by omega : j = 0 ∨ j = 1 ∨ j = 2 ∨ j = 3 ∨ j = 4 ∨ j = 5 ∨ j = 6 ∨ j = 7) with rfl | rfl | rfl | rfl | rfl | rfl | rfl | rfl <;> rfl
  · rcases (by omega : j = 0 ∨ j = 1 ∨ j = 2 ∨ j = 3 ∨ j = 4 ∨ j = 5 ∨ j = 6 ∨ j = 7) with rfl | rfl | rfl | rfl | rfl | rfl | rfl | rfl <;> rfl
theorem le8 (zs : List Int) (hl : zs.length = 8) (hb : ∀ x ∈ zs, 0 ≤ x ∧ x ≤ 255) : 0 ≤ Lib.leZ zs ∧ Lib.leZ zs < 18446744073709551616 ∧ ∀ j, j < 8 → (zs.getD j 0) = ((Lib.leZ zs).toNat / 2 ^ (8 * j) % 256 : Nat) := by
  match zs, hl with
  | [a, b, c, d, e, f, g, h], _ =>
    have ha := hb a (by simp)
    have hb' := hb b (by simp)
    have hc := hb c (by simp)
    have hd := hb d (by simp)
    have he := hb e (by simp)
    have hf := hb f (by simp)
    have hg := hb g (by simp)
    have hh := hb h (by simp)
    simp only [Lib.leZ]
    refine ⟨by omega, by omega, fun j hj => ?_⟩
    rcases (by omega : j = 0 ∨ j = 1 ∨ j = 2 ∨ j = 3 ∨ j = 4 ∨ j = 5 ∨ j = 6 ∨ j = 7) with rfl | rfl | rfl | rfl | rfl | rfl | rfl | rfl <;> simp <;> omega
/-- The eight bytes at i. -/
theorem swar_list (l : List Int) (i : Nat) (hb : ∀ x ∈ l, 0 ≤ x ∧ x ≤ 255) (h8 : i + 8 ≤ l.length) (Z : Int) (hZ : Lib.leZ ((l.drop i).take 8) = Z)
    (h : bits .or .u64 (hitI Z 2459565876494606882) (hitI Z 6655295901103053916) = 0) (k : Nat) (hk : i ≤ k) (hk2 : k < i + 8) : l.getD k 0 ≠ 34 ∧ l.getD k 0 ≠ 92 := by
  obtain ⟨h0, h1, h2⟩ := le8 ((l.drop i).take 8) (by rw [List.length_take, List.length_drop]; omega) (fun x hx => hb x (List.mem_of_mem_drop (List.mem_of_mem_take hx)))
  rw [hZ] at h0 h1 h2
  have h3 := swar Z h h0 h1 (k - i) (by omega)
  have h4 := h2 (k - i) (by omega)
  have h5 : ((l.drop i).take 8).getD (k - i) 0 = l.getD k 0 := by
    simp only [List.getD, List.getElem?_take, List.getElem?_drop]
    rw [if_pos (by omega), show i + (k - i) = k by omega]
  rw [h5] at h4
  omega
end Go.Proofs.YtgbliniamkpocaaDoor.Jp
