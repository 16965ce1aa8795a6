/- mtTold, Globs, Pattern: what they give. -/
import Derived.Test.YtphpjboljlkdkaaDoorMtFits
namespace Go.Proofs.YtphpjboljlkdkaaDoor.Mt
open Go.RowKit Go.Proofs.YtphpjboljlkdkaaDoorW.PrintWords Go.Lib Go.Proofs.YtphpjboljlkdkaaDoor.PMt

theorem take_succ (T : List Tm) (t : Nat) (h : t < T.length) : T.take (t + 1) = T.take t ++ [T[t]] := by
  rw [List.take_add_one, List.getElem?_eq_getElem h]
  rfl
theorem rep_false (n k : Nat) : (List.replicate n false).getD k false = false := by
  rw [List.getD_eq_getElem?_getD, List.getElem?_replicate]
  split <;> rfl
section
variable {C : List Nat} {T : List Tm}
theorem fits_ev (hC : C.length ≤ 2147483647) (hT : T.length ≤ 2147483647) : ∀ (d t : Nat) (R : List Bool), T.length - t ≤ d → t ≤ T.length → RowOk C (T.take t) R →
    ∃ r, Ev (fun k => spec_Fits.l0 k (ci C) R (T.map gl) (T.length : Int) (t : Int)) r ∧ (r = true → Ft C T) := by
  have hcl := ci_len C
  intro d
  induction d with
  | zero =>
    intro t R hd ht hR
    obtain rfl : t = T.length := by omega
    have hrl := hR.1
    have k1 : ((T.length : Int) < (T.length : Int)) = False := eq_false (by omega)
    have k2 : ((0 : Int) ≤ ((ci C).length : Int)) = True := eq_true (by omega)
    have k3 : (((ci C).length : Int) < (R.length : Int)) = True := eq_true (by omega)
    refine ⟨R.getD C.length false, Ev.step (f := fun _ => some _) (fun k => ?_) (Ev.now _), fun h => ?_⟩
    · simp only [spec_Fits.l0, k1, k2, k3, if_true, if_false]
      unfold rdOf
      rw [Int.toNat_natCast, hcl]
    · have := row_end hR h
      rwa [List.take_length] at this
  | succ d ih =>
    intro t R hd ht hR
    by_cases hlt : t < T.length
    · have hrl := hR.1
      have k1 : ((t : Int) < (T.length : Int)) = True := eq_true (by omega)
      have k2 : ((0 : Int) ≤ (t : Int)) = True := eq_true (by omega)
      have k3 : ((t : Int) < ((T.map gl).length : Int)) = True := eq_true (by rw [List.length_map]; omega)
      have k4 : ((0 : Int) ≤ ((C.length + 1 : Nat) : Int)) = True := eq_true (by omega)
      have k5 : (C.length + 1 ≤ 281474976710656) = True := eq_true (by omega)
      have W : Hid (wrap64 (((ci C).length : Int) + 1) = ((C.length + 1 : Nat) : Int)) := Lib.hid ((w_id (by omega) (by omega)).trans (by omega))
      have hgo : ∀ k, spec_Fits.l0 (k + 1) (ci C) R (T.map gl) (T.length : Int) (t : Int) = spec_Fits.l1 k (ci C) R (List.replicate (C.length + 1) false) ((0 : Nat) : Int) (T.map gl) (T.length : Int) (t : Int) (gl T[t]).f0 (gl T[t]).f1 (gl T[t]).f2 := by
        intro k
        simp only [spec_Fits.l0, k1, k2, k3, W.out, k4, Int.toNat_natCast, k5, if_true, rdT T t hlt]
        rfl
      have hts := take_succ T t hlt
      have hrep : (List.replicate (C.length + 1) false).length = C.length + 1 := List.length_replicate
      obtain ⟨x, hx⟩ : ∃ x, T[t] = x := ⟨_, rfl⟩
      rw [hx] at hgo hts
      cases x with
      | star =>
        obtain ⟨r, h1, h2⟩ := star_ev (Q := Ft C T) hC hlt hT false 0 R hrl (fun N hN hk => ih (t + 1) N (by omega) (by omega) (by rw [hts]; exact row_star hR hN hk)) _ 0 (List.replicate (C.length + 1) false) (Nat.le_refl _) (by omega) hrep (fun k hk => by rw [rep_false] at hk; cases hk)
        exact ⟨r, Ev.step hgo h1, h2⟩
      | one =>
        obtain ⟨r, h1, h2⟩ := step_ev (Q := Ft C T) hC hlt hT true 0 R hrl (fun N hN hk => ih (t + 1) N (by omega) (by omega) (by rw [hts]; exact row_step hR hN (fun k h => by obtain ⟨a, b, c, _⟩ := hk k h; exact ⟨a, b, c, trivial⟩))) _ 0 (List.replicate (C.length + 1) false) (Nat.le_refl _) (by omega) hrep (fun k hk => by rw [rep_false] at hk; cases hk)
        exact ⟨r, Ev.step hgo h1, h2⟩
      | ch e =>
        obtain ⟨r, h1, h2⟩ := step_ev (Q := Ft C T) hC hlt hT false (e : Int) R hrl (fun N hN hk => ih (t + 1) N (by omega) (by omega) (by rw [hts]; exact row_step hR hN (fun k h => by
          obtain ⟨a, b, c, d⟩ := hk k h
          refine ⟨a, b, c, ?_⟩
          simp only [f1b, Bool.false_or, beq_iff_eq] at d
          exact Int.ofNat_inj.1 d))) _ 0 (List.replicate (C.length + 1) false) (Nat.le_refl _) (by omega) hrep (fun k hk => by rw [rep_false] at hk; cases hk)
        exact ⟨r, Ev.step hgo h1, h2⟩
    · exact ih t R (by omega) ht hR
theorem fitsF_ev (hC : C.length ≤ 2147483647) (hT : T.length ≤ 2147483647) : ∃ r, Ev (fun k => spec_Fits.f k (ci C) (T.map gl)) r ∧ (r = true → Ft C T) := by
  have hcl := ci_len C
  have hrep : (List.replicate (C.length + 1) false).length = C.length + 1 := List.length_replicate
  have k4 : ((0 : Int) ≤ ((C.length + 1 : Nat) : Int)) = True := eq_true (by omega)
  have k5 : (C.length + 1 ≤ 281474976710656) = True := eq_true (by omega)
  have k6 : ((0 : Int) < ((List.replicate (C.length + 1) false).length : Int)) = True := eq_true (by rw [hrep]; omega)
  have W : Hid (wrap64 (((ci C).length : Int) + 1) = ((C.length + 1 : Nat) : Int)) := Lib.hid ((w_id (by omega) (by omega)).trans (by omega))
  obtain ⟨r, h1, h2⟩ := fits_ev hC hT _ 0 ((List.replicate (C.length + 1) false).set 0 true) (Nat.le_refl _) (Nat.zero_le _) (row0 C _ (by rw [List.length_set, hrep]) (fun k hk => by
    rw [getD_set] at hk
    by_cases h : k = 0
    · exact h
    · rw [if_neg (fun e => h e.1), rep_false] at hk
      cases hk))
  refine ⟨r, Ev.congr (fun k => ?_) h1, h2⟩
  simp only [spec_Fits.f, W.out, k4, Int.toNat_natCast, k5, if_true, Option.bind_some, k6, List.length_map]
  rfl
end
/-- mtTold: where it says that the text fits, it does. -/
theorem told_ev (s p : ByteArray) (hs : s.size ≤ 2147483647) (hp : p.size ≤ 2147483647) (L : List S31) (ok : Bool) (hG : Ev (fun k => spec_Globs.f k p) (L, ok)) (hok : ok = true → ∃ T : List Tm, L = T.map gl ∧ ∀ t ∈ T, okt t) (hl : L.length ≤ p.size) :
    ∃ fits good, Ev (fun k => laws_mtTold.f k s p) (fits, good) ∧ (fits = true → s.size ≤ 4096 ∧ p.size ≤ 4096 ∧ ∃ (C : List Nat) (T : List Tm), L = T.map gl ∧ (∀ t ∈ T, okt t) ∧ Bs s (encL C) ∧ (∀ c ∈ C, okc c) ∧ Ft C T) := by
  by_cases z1 : 4096 < s.size
  · refine ⟨false, false, Ev.congr (f := fun _ => some _) (fun k => ?_) (Ev.now _), fun h => by cases h⟩
    unfold laws_mtTold.f
    rw [if_pos (by omega)]
  by_cases z2 : 4096 < p.size
  · refine ⟨false, false, Ev.congr (f := fun _ => some _) (fun k => ?_) (Ev.now _), fun h => by cases h⟩
    unfold laws_mtTold.f
    rw [if_neg (by omega), if_pos (by omega)]
  have n1 : ((s.size : Int) > 4096) = False := eq_false (by omega)
  have n2 : ((p.size : Int) > 4096) = False := eq_false (by omega)
  obtain ⟨R, ok1, hR, hok1⟩ := chars_ev s hs _ 0 [] (Nat.le_refl _) (Nat.zero_le _) (Nat.le_refl _)
  have hR' : Ev (fun k => spec_Characters.f k s) (R, ok1) := hR
  have hM : ∀ (r : Bool × Bool), Ev (fun k => spec_Matches.f k s p) r → Ev (fun k => laws_mtTold.f k s p) r := by
    intro r h
    refine Ev.congr (f := fun k => (spec_Matches.f k s p).bind fun bt155 => (some (bt155.1, bt155.2))) (fun k => ?_) (Ev.bind h (f := fun _ bt155 => some (bt155.1, bt155.2)) (Ev.now _))
    simp only [laws_mtTold.f, n1, n2, if_false]
  have hM2 : ∀ (r : Bool × Bool), Ev (fun k => if ok1 = true then (if ok = true then ((spec_Fits.f k R L).bind fun t154 => (some (t154, true))) else (some (false, false))) else (some (false, false))) r → Ev (fun k => spec_Matches.f k s p) r := by
    intro r h
    exact Ev.bind hR' (f := fun k bt146 => (spec_Globs.f k p).bind fun bt150 => (if bt146.2 = true then (if bt150.2 = true then ((spec_Fits.f k bt146.1 bt150.1).bind fun t154 => (some (t154, true))) else (some (false, false))) else (some (false, false)))) (Ev.bind hG (f := fun k bt150 => (if ok1 = true then (if bt150.2 = true then ((spec_Fits.f k R bt150.1).bind fun t154 => (some (t154, true))) else (some (false, false))) else (some (false, false)))) h)
  cases ok1 with
  | false => exact ⟨false, false, hM _ (hM2 _ (Ev.congr (f := fun _ => some _) (fun k => by simp) (Ev.now _))), fun h => by cases h⟩
  | true =>
    cases ok with
    | false => exact ⟨false, false, hM _ (hM2 _ (Ev.congr (f := fun _ => some _) (fun k => by simp) (Ev.now _))), fun h => by cases h⟩
    | true =>
      obtain ⟨C, e1, e2, e3⟩ := hok1 rfl
      obtain ⟨T, t1, t2⟩ := hok rfl
      rw [List.nil_append] at e1
      have hbs : Bs s (encL C) := by
        rw [List.drop_zero] at e3
        exact e3
      have hcl : C.length ≤ 4096 := by
        have := hbs.size
        have h2 : C.length ≤ (encL C).length := by
          clear this e1 e2 e3 hbs
          induction C with
          | nil => simp
          | cons c C ih =>
            rw [encL_cons, List.length_append, List.length_cons]
            have := enc_pos c
            omega
        omega
      have htl : T.length ≤ 4096 := by
        rw [t1, List.length_map] at hl
        omega
      obtain ⟨r, h1, h2⟩ := fitsF_ev (C := C) (T := T) (by omega) (by omega)
      refine ⟨r, true, hM _ (hM2 _ ?_), fun h => ⟨by omega, by omega, C, T, t1, t2, hbs, e2, h2 h⟩⟩
      rw [e1, t1]
      simp only [if_true]
      exact Ev.bind h1 (f := fun _ t154 => some (t154, true)) (Ev.now _)
def bi (l : List UInt8) : List Int := l.map fun x => (x.toNat : Int)
theorem bi_app (a b : List UInt8) : bi (a ++ b) = bi a ++ bi b := by simp [bi]
theorem bs_str (l : List UInt8) : Bs (strOfNums (bi l)) l := by
  unfold Bs strOfNums bi
  rw [List.map_map]
  conv => rhs; rw [← List.map_id l]
  apply List.map_congr_left
  intro x _
  apply UInt8.toNat_inj.1
  have := x.toNat_lt
  simp
theorem app_ev (out : List Int) (ho : out.length ≤ 100000000000) (c : Nat) (hc : okc c) : Ev (fun k => spec_appendUTF8.f k out (c : Int)) (out ++ bi (enc c)) := by
  have hm : c ≤ 1114111 := by unfold okc at hc; omega
  by_cases h1 : c < 128
  · refine Ev.congr (f := fun _ => some _) (fun k => ?_) (Ev.now _)
    have k1 : ((c : Int) < 128) = True := eq_true (by omega)
    have k2 : (out.length < 140737488355328) = True := eq_true (by omega)
    simp only [spec_appendUTF8.f, k1, k2, if_true]
    rw [enc1 h1, show bi [UInt8.ofNat c] = [(((UInt8.ofNat c).toNat : Nat) : Int)] from rfl, u8 (by omega), show (c : Int) % 256 = (c : Int) by omega]
  have k1 : ((c : Int) < 128) = False := eq_false (by omega)
  by_cases h2 : c < 2048
  · refine Ev.congr (f := fun _ => some _) (fun k => ?_) (Ev.now _)
    have k2 : ((c : Int) < 2048) = True := eq_true (by omega)
    have v1 : (wrap64 (192 + (wrap64 (Int.tdiv (c : Int) 64)))) % 256 = ((192 + c / 64 : Nat) : Int) := by
      rw [show Int.tdiv (c : Int) 64 = ((c / 64 : Nat) : Int) from rfl, w_id (x := ((c / 64 : Nat) : Int)) (by omega) (by omega), w_id (by omega) (by omega)]
      omega
    have v2 : (wrap64 (128 + (Int.tmod (c : Int) 64))) % 256 = ((128 + c % 64 : Nat) : Int) := by
      rw [show Int.tmod (c : Int) 64 = ((c % 64 : Nat) : Int) from rfl, w_id (by omega) (by omega)]
      omega
    have k3 : (out.length + 2 < 140737488355328) = True := eq_true (by omega)
    simp only [spec_appendUTF8.f, k1, k2, v1, v2, if_true, if_false, Option.bind_some, List.length_cons, List.length_nil, Nat.zero_add, Nat.reduceAdd, k3]
    rw [enc2 h1 h2, show bi [UInt8.ofNat (192 + c / 64), UInt8.ofNat (128 + c % 64)] = [(((UInt8.ofNat (192 + c / 64)).toNat : Nat) : Int), (((UInt8.ofNat (128 + c % 64)).toNat : Nat) : Int)] from rfl, u8 (by omega), u8 (by omega)]
  have k2 : ((c : Int) < 2048) = False := eq_false (by omega)
  have e1 : (decide (55296 ≤ (c : Int) ∧ (c : Int) ≤ 56319)) = false := decide_eq_false (by unfold okc at hc; omega)
  have e2 : (decide (56320 ≤ (c : Int) ∧ (c : Int) ≤ 57343)) = false := decide_eq_false (by unfold okc at hc; omega)
  refine Ev.congr (f := fun k => spec_appendUTF8.j0 k out (c : Int) false) (fun k => ?_) ?_
  · simp only [spec_appendUTF8.f, k1, k2, if_false, high_f, low_f, e1, e2, Option.bind_some, Bool.false_eq_true]
  by_cases h3 : c < 65536
  · refine Ev.step (f := fun _ => some _) (fun k => ?_) (Ev.now _)
    have k3 : ((c : Int) < 65536) = True := eq_true (by omega)
    have v1 : (wrap64 (224 + (wrap64 (Int.tdiv (c : Int) 4096)))) % 256 = ((224 + c / 4096 : Nat) : Int) := by
      rw [show Int.tdiv (c : Int) 4096 = ((c / 4096 : Nat) : Int) from rfl, w_id (x := ((c / 4096 : Nat) : Int)) (by omega) (by omega), w_id (by omega) (by omega)]
      omega
    have v2 : (wrap64 (128 + (Int.tmod (wrap64 (Int.tdiv (c : Int) 64)) 64))) % 256 = ((128 + c / 64 % 64 : Nat) : Int) := by
      rw [show Int.tdiv (c : Int) 64 = ((c / 64 : Nat) : Int) from rfl, w_id (x := ((c / 64 : Nat) : Int)) (by omega) (by omega), show Int.tmod ((c / 64 : Nat) : Int) 64 = ((c / 64 % 64 : Nat) : Int) from rfl, w_id (by omega) (by omega)]
      omega
    have v3 : (wrap64 (128 + (Int.tmod (c : Int) 64))) % 256 = ((128 + c % 64 : Nat) : Int) := by
      rw [show Int.tmod (c : Int) 64 = ((c % 64 : Nat) : Int) from rfl, w_id (by omega) (by omega)]
      omega
    have k4 : (out.length + 3 < 140737488355328) = True := eq_true (by omega)
    simp only [spec_appendUTF8.j0, k3, v1, v2, v3, if_true, if_false, Option.bind_some, List.length_cons, List.length_nil, Nat.zero_add, Nat.reduceAdd, k4, Bool.false_eq_true]
    rw [enc3 h1 h2 h3, show bi [UInt8.ofNat (224 + c / 4096), UInt8.ofNat (128 + c / 64 % 64), UInt8.ofNat (128 + c % 64)] = [(((UInt8.ofNat (224 + c / 4096)).toNat : Nat) : Int), (((UInt8.ofNat (128 + c / 64 % 64)).toNat : Nat) : Int), (((UInt8.ofNat (128 + c % 64)).toNat : Nat) : Int)] from rfl, u8 (by omega), u8 (by omega), u8 (by omega)]
  · refine Ev.step (f := fun _ => some _) (fun k => ?_) (Ev.now _)
    have k3 : ((c : Int) < 65536) = False := eq_false (by omega)
    have v1 : (wrap64 (240 + (wrap64 (Int.tdiv (c : Int) 262144)))) % 256 = ((240 + c / 262144 : Nat) : Int) := by
      rw [show Int.tdiv (c : Int) 262144 = ((c / 262144 : Nat) : Int) from rfl, w_id (x := ((c / 262144 : Nat) : Int)) (by omega) (by omega), w_id (by omega) (by omega)]
      omega
    have v0 : (wrap64 (128 + (Int.tmod (wrap64 (Int.tdiv (c : Int) 4096)) 64))) % 256 = ((128 + c / 4096 % 64 : Nat) : Int) := by
      rw [show Int.tdiv (c : Int) 4096 = ((c / 4096 : Nat) : Int) from rfl, w_id (x := ((c / 4096 : Nat) : Int)) (by omega) (by omega), show Int.tmod ((c / 4096 : Nat) : Int) 64 = ((c / 4096 % 64 : Nat) : Int) from rfl, w_id (by omega) (by omega)]
      omega
    have v2 : (wrap64 (128 + (Int.tmod (wrap64 (Int.tdiv (c : Int) 64)) 64))) % 256 = ((128 + c / 64 % 64 : Nat) : Int) := by
      rw [show Int.tdiv (c : Int) 64 = ((c / 64 : Nat) : Int) from rfl, w_id (x := ((c / 64 : Nat) : Int)) (by omega) (by omega), show Int.tmod ((c / 64 : Nat) : Int) 64 = ((c / 64 % 64 : Nat) : Int) from rfl, w_id (by omega) (by omega)]
      omega
    have v3 : (wrap64 (128 + (Int.tmod (c : Int) 64))) % 256 = ((128 + c % 64 : Nat) : Int) := by
      rw [show Int.tmod (c : Int) 64 = ((c % 64 : Nat) : Int) from rfl, w_id (by omega) (by omega)]
      omega
    have k4 : (out.length + 4 < 140737488355328) = True := eq_true (by omega)
    simp only [spec_appendUTF8.j0, k3, v0, v1, v2, v3, if_true, if_false, Option.bind_some, List.length_cons, List.length_nil, Nat.zero_add, Nat.reduceAdd, k4, Bool.false_eq_true]
    rw [enc4 h1 h2 h3, show bi [UInt8.ofNat (240 + c / 262144), UInt8.ofNat (128 + c / 4096 % 64), UInt8.ofNat (128 + c / 64 % 64), UInt8.ofNat (128 + c % 64)] = [(((UInt8.ofNat (240 + c / 262144)).toNat : Nat) : Int), (((UInt8.ofNat (128 + c / 4096 % 64)).toNat : Nat) : Int), (((UInt8.ofNat (128 + c / 64 % 64)).toNat : Nat) : Int), (((UInt8.ofNat (128 + c % 64)).toNat : Nat) : Int)] from rfl, u8 (by omega), u8 (by omega), u8 (by omega), u8 (by omega)]
end Go.Proofs.YtphpjboljlkdkaaDoor.Mt
