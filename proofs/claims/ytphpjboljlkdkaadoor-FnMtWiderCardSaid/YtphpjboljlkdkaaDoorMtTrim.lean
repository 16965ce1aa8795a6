/- match.matchTrimSuffix. -/
import Derived.Test.YtphpjboljlkdkaaDoorPureMt
import Derived.Test.YtphpjboljlkdkaaDoorShelfMw
import Derived.Test.YtphpjboljlkdkaaDoorKit
import Derived.WalkKit
import Derived.WalkSpells
import Derived.WalkLawsBesides
import Derived.OpenShut
import Derived.Lib.Hide
import Derived.LoopTactic
import Derived.Laws.Bits64
import Derived.Deep.LoopGhost
namespace Go.Proofs.YtphpjboljlkdkaaDoor.Mt
open Go.RowKit Go.Proofs.YtphpjboljlkdkaaDoorW.PrintWords Go.Lib

theorem lt_of_cell {w : World} {b o : Nat} {v : Value} (h : w.cell? ⟨b, o, none⟩ = some v) : b < w.heap.size := by
  refine Nat.lt_of_not_le fun hle => ?_
  simp [World.cell?, Array.getElem?_eq_none hle] at h
theorem tabs_below {g3 g4 : Nat} {w w1 : World} (h : Lib.Utf8Tabs g3 g4 w) (hb : Below w.heap.size w w1) : Lib.Utf8Tabs g3 g4 w1 :=
  ⟨fun c hc => by rw [hb.cell (p := ⟨g3, c, none⟩) (lt_of_cell (h.1 c hc))]; exact h.1 c hc,
   fun i hi => by rw [hb.cell (p := ⟨g4, 2 * i, none⟩) (lt_of_cell (h.2 i hi).1), hb.cell (p := ⟨g4, 2 * i + 1, none⟩) (lt_of_cell (h.2 i hi).2)]; exact h.2 i hi⟩
theorem bl_step {w w1 w2 : World} (h : Below w.heap.size w w1) (h2 : Below w1.heap.size w1 w2) : Below w.heap.size w w2 := h.trans (h2.mono h.size)
/-- What the trimming gives. -/
def TrP (C0 : List Nat) (T0 : List Tm) (w : World) (e : Ending) (w' : World) : Prop :=
  (∃ (s p : ByteArray) (ok : Bool), e = .returned (.tuple #[.string s, .string p, .bool ok]) ∧ (ok = true → ∃ C T, TrI C0 T0 C T ∧ Bs s (encL C) ∧ Bs p (42 :: prL T)) ∧ (ok = false → ¬ Ft C0 (.star :: T0))) ∧ Below w.heap.size w w'
theorem last_c (s : ByteArray) (p : List UInt8) (c : Nat) (hc : okc c) (h : Bs s (p ++ enc c)) (hs : s.size ≤ 1000000) (w : World) (hT : Lib.Utf8Tabs 7 8 w) :
    Calls Tryd.prog 113 #[.string s] w fun e w' => e = .returned (.tuple #[.int .i32 (c : Int), .int .i64 ((enc c).length : Int)]) ∧ Below w.heap.size w w' := by
  have := Tryd.utf8_DecodeLastRuneInString s w (by omega) hT
  rwa [h.last hc] at this
theorem bit1 (q : Nat) (h : q < 9000000000000) : bits .and .i64 (q : Int) 1 = ((q % 2 : Nat) : Int) := by
  have h1 : (BitVec.ofInt 64 (q : Int)).toNat = q := by
    rw [BitVec.ofInt_natCast, BitVec.toNat_ofNat]; exact Nat.mod_eq_of_lt (by omega)
  have h2 : (BitVec.ofInt 64 (1 : Int)).toNat = 1 := by decide
  show IntKind.i64.wrap ((BitVec.ofInt 64 (q : Int) &&& BitVec.ofInt 64 (1 : Int)).toNat : Int) = _
  rw [BitVec.toNat_and, h1, h2, Nat.and_one_is_mod, IntKind.wrap_i64]
  omega
theorem enc_len (c : Nat) : (enc c).length ≤ 4 := by
  unfold enc
  repeat' split
  all_goals simp
set_option maxHeartbeats 8000000 in
set_option maxRecDepth 100000 in
theorem trim_c (C0 : List Nat) (T0 : List Tm) (hC : ∀ c ∈ C0, okc c) (hT : ∀ t ∈ T0, okt t) (str pat : ByteArray) (hs : Bs str (encL C0)) (hp : Bs pat (42 :: prL T0)) (z1 : str.size ≤ 1000000) (z2 : pat.size ≤ 1000000) (w : World) (hU : Lib.Utf8Tabs 7 8 w) :
    Calls Tryd.prog 95 #[.string str, .string pat, .bool false] w (TrP C0 T0 w) := by
  have HI : Hid (∃ C T, TrI C0 T0 C T ∧ Bs str (encL C) ∧ Bs pat (42 :: prL T)) := Lib.hid ⟨C0, T0, TrI.refl _ _, hs, hp⟩
  have HO := Lib.hid (And.intro hC hT)
  have HU := Lib.hid hU
  obtain ⟨PP, hPP⟩ : ∃ PP, TrP C0 T0 w = PP := ⟨_, rfl⟩
  rw [hPP]
  have HPP := Lib.hid hPP
  clear hC hT hs hp hU hPP
  go_enter Tryd.func95, Tryd.ntmps95
  go_wp2
  go_loopw [0, 1, 9] (fun v0 v1 v9 wr => ∃ (s p : ByteArray), s.size ≤ 1000000 ∧ p.size ≤ 1000000 ∧ v0 = .string s ∧ v1 = .string p ∧ v9 = .bool true ∧ Hid (∃ C T, TrI C0 T0 C T ∧ Bs s (encL C) ∧ Bs p (42 :: prL T)) ∧ Hid (Below w.heap.size w wr)) (fun v0 _ _ _ => match v0 with | .string s => s.size | _ => 0)
  case atStart => exact ⟨str, pat, z1, z2, rfl, rfl, rfl, HI, Lib.hid (Below.refl _ _)⟩
  case round =>
    clear HI
    obtain ⟨s, p, zs, zp, rfl, rfl, rfl, HI, HB⟩ := hrel
    by_cases hs0 : 0 < s.size
    · by_cases hp1 : 1 < p.size
      · obtain ⟨C, T, hI, hs, hp⟩ := HI.out
        obtain ⟨hC, hT⟩ := hI.ok HO.out.1 HO.out.2
        obtain ⟨C1, c, rfl⟩ := snoc_of (l := C) (fun e => by rw [e] at hs; have := hs.size; rw [show encL [] = [] from rfl, List.length_nil] at this; omega)
        obtain ⟨S, t, rfl⟩ := snoc_of (l := T) (fun e => by rw [e] at hp; have := hp.size; rw [show prL [] = [] from rfl, List.length_singleton] at this; omega)
        have hc : okc c := hC c (by simp)
        have ht : okt t := hT t (by simp)
        rw [encL_snoc] at hs
        have hp' := hp
        rw [pat_last] at hp'
        have HLs := Lib.hid (last_c s _ c hc hs zs)
        have HLp := Lib.hid (last_c p _ (lastC t) (okc_last ht) hp' zp)
        have hq := pre_odd (t := t) (S := S) (fun x hx => hT x (by simp [hx]))
        have hby := tb_bytes _ (preT S t) rfl
        obtain ⟨P, hP⟩ : ∃ P, (preT S t).length = P := ⟨_, rfl⟩
        obtain ⟨e1, he1⟩ : ∃ e, (enc (lastC t)).length = e := ⟨_, rfl⟩
        obtain ⟨e2, he2⟩ : ∃ e, (enc c).length = e := ⟨_, rfl⟩
        obtain ⟨L0, hL0⟩ : ∃ e, lastC t = e := ⟨_, rfl⟩
        obtain ⟨q, hqq⟩ : ∃ e, tb (preT S t) = e := ⟨_, rfl⟩
        obtain ⟨E, hE⟩ : ∃ E, escT t = E := ⟨_, rfl⟩
        have l1 := enc_len (lastC t)
        have l2 := enc_len c
        have l3 := enc_pos (lastC t)
        have l4 := enc_pos c
        have sp := hp'.size
        have ss := hs.size
        rw [List.length_append, he2] at ss
        rw [List.length_append, hP, he1] at sp
        rw [he1] at l1 l3 HLp
        rw [he2] at l2 l4 HLs
        rw [hL0] at HLp
        rw [hP, hqq, hE] at hq
        rw [hP, hqq] at hby
        have HBY : Hid (∀ j (h : P - 1 - j < p.size), (j < q → p[P - 1 - j] = 92) ∧ (j = q → p[P - 1 - j] ≠ 92)) := Lib.hid (fun j h => by
          have hg := hp'.get (P - 1 - j) h
          rw [List.getD_eq_getElem?_getD, List.getElem?_append_left (by rw [hP]; have := hq.1; omega), ← List.getD_eq_getElem?_getD] at hg
          rw [hg]
          exact ⟨fun hj => hby.1 j hj, fun hj => by rw [hj]; exact hby.2 hq.1⟩)
        have HK := Lib.hid (And.intro hI (And.intro hs hp))
        have HN := Lib.hid (And.intro hP (And.intro he1 (And.intro he2 (And.intro hL0 hE))))
        have HQ := Lib.hid hq.2
        have hq1 := hq.1
        have HZ := Lib.hid (And.intro sp ss)
        have sp1 : (P : Int) + e1 = p.size := by omega
        clear HI hI hs hp hC hT hc ht hp' hby hP he1 he2 hL0 hqq hE hq sp ss
        go_wp2_with (go_at_call 113; first | (with_reducible refine (HLp.out _ (tabs_below HU.out HB.out)).mono ?_; rintro e w1 ⟨rfl, hb1⟩; have HB1 := Lib.hid (bl_step HB.out hb1); clear hb1) | (with_reducible refine (HLs.out _ (tabs_below HU.out HB1.out)).mono ?_; rintro e w2 ⟨rfl, hb2⟩; have HB2 := Lib.hid (bl_step HB1.out hb2); clear hb2))
        go_loop [11, 12, 13] (fun v11 v12 vi => ∃ j : Nat, j ≤ q ∧ v11 = .int .i64 e1 ∧ v12 = .bool false ∧ vi = .int .i64 j) (fun _ _ vi => q + 1 - (RowKit.intOf vi).toNat)
        case atStart => exact ⟨0, by omega, rfl, rfl, rfl⟩
        case round =>
          obtain ⟨j, hj, rfl, rfl, rfl⟩ := hrel
          have hix : (p.size : Int) - (e1 : Int) - (j : Int) - 1 = ((P - 1 - j : Nat) : Int) := by omega
          have hlt : P - 1 - j < p.size := by omega
          by_cases hjq : j < q
          · have g : p[P - 1 - j] = 92 := (HBY.out j hlt).1 hjq
            go_wp2
            go_round
            case rel => exact ⟨j + 1, by omega, rfl, rfl, by go_num⟩
            case measure => simp [RowKit.intOf]; omega
          · have hjq2 : j = q := by omega
            have g0 : ((p[P - 1 - j].toNat : Int) == 92) = false := beq_false_of_ne (fun e => (HBY.out j hlt).2 hjq2 (UInt8.toNat_inj.1 (by
              have : (92 : UInt8).toNat = 92 := rfl
              omega)))
            have HJ := Lib.hid hjq2
            have hb1 := bit1 j (by omega)
            clear hjq hjq2 hj
            have s1 : (s.size : Int) - (e2 : Int) = ((s.size - e2 : Nat) : Int) := by have := HZ.out.2; omega
            cases E with
            | true =>
              obtain ⟨b42, e42⟩ : ∃ b, ((L0 : Int) == 42) = b := ⟨_, rfl⟩
              obtain ⟨b63, e63⟩ : ∃ b, ((L0 : Int) == 63) = b := ⟨_, rfl⟩
              have hpar : j % 2 = 1 := by rw [HJ.out]; exact HQ.out.2 rfl
              rw [hpar] at hb1
              have s2 : (p.size : Int) - ((e1 : Int) + 1) = ((p.size - (e1 + 1) : Nat) : Int) := by omega
              have HCUT : Hid (Bs (s.extract 0 (s.size - e2)) (encL C1) ∧ Bs (p.extract 0 (p.size - (e1 + 1))) (42 :: prL S)) := Lib.hid ⟨by
                  have := HK.out.2.1.take
                  rwa [HN.out.2.2.1] at this, by
                  have h := HK.out.2.2
                  rw [prL_snoc, ← List.cons_append] at h
                  have := h.take
                  rw [pr_len, HN.out.2.1, HN.out.2.2.2.2] at this
                  exact this⟩
              have HT : Hid (t ≠ .star) := Lib.hid (fun e => by have := (term_kind t).1.1 e; rw [HN.out.2.2.2.2] at this; cases this.2)
              have HLC : Hid (fit1 t c → L0 = c) := Lib.hid (fun hf => by
                rcases (fit_iff HT.out).1 hf with e | e
                · have := (term_kind t).2.1 e
                  rw [HN.out.2.2.2.2] at this
                  cases this.2
                · rw [← HN.out.2.2.2.1]; exact e)
              by_cases hlc : L0 = c
              · have elc : (L0 : Int) = (c : Int) := by rw [hlc]
                subst hlc
                go_wp2_with (go_at_call 113; (with_reducible refine (HLs.out _ (tabs_below HU.out HB1.out)).mono ?_); rintro e w2 ⟨rfl, hb2⟩; have HB2 := Lib.hid (bl_step HB1.out hb2); clear hb2)
                all_goals
                  refine ⟨⟨s.extract 0 (s.size - e2), p.extract 0 (p.size - (e1 + 1)), by rw [ByteArray.size_extract]; omega, by rw [ByteArray.size_extract]; omega, rfl, rfl, rfl, Lib.hid ⟨C1, S, HK.out.1.step HT.out, HCUT.out.1, HCUT.out.2⟩, HB2⟩, ?_⟩
                  show (s.extract 0 (s.size - e2)).size < s.size
                  rw [ByteArray.size_extract]
                  omega
              · have elc : ((L0 : Int) == (c : Int)) = false := beq_false_of_ne (by omega)
                go_wp2_with (go_at_call 113; (with_reducible refine (HLs.out _ (tabs_below HU.out HB1.out)).mono ?_); rintro e w2 ⟨rfl, hb2⟩; have HB2 := Lib.hid (bl_step HB1.out hb2); clear hb2)
                all_goals
                  go_ret3
                  rw [← HPP.out]
                  exact ⟨⟨s, p, false, rfl, (fun h => by cases h), fun _ => HK.out.1.miss HT.out (fun hf => hlc (HLC.out hf))⟩, HB2.out⟩
            | false =>
              have hpar : j % 2 = 0 := by rw [HJ.out]; exact Nat.mod_two_ne_one.1 (fun h => by cases HQ.out.1 h)
              rw [hpar] at hb1
              have s2 : (p.size : Int) - (e1 : Int) = ((p.size - e1 : Nat) : Int) := by omega
              have hix2 : ((p.size - e1 : Nat) : Int) - (j : Int) - 1 = ((P - 1 - j : Nat) : Int) := by omega
              have HCUT : Hid (Bs (s.extract 0 (s.size - e2)) (encL C1) ∧ Bs (p.extract 0 (p.size - e1)) (42 :: prL S)) := Lib.hid ⟨by
                  have := HK.out.2.1.take
                  rwa [HN.out.2.2.1] at this, by
                  have h := HK.out.2.2
                  rw [prL_snoc, ← List.cons_append] at h
                  have := h.take
                  rw [pr_len, HN.out.2.1, HN.out.2.2.2.2] at this
                  exact this⟩
              by_cases h42 : L0 = 42
              · have HS : Hid (t = .star) := Lib.hid ((term_kind t).1.2 ⟨HN.out.2.2.2.1.trans h42, HN.out.2.2.2.2⟩)
                subst h42
                go_wp2
                go_ret3
                rw [← HPP.out]
                exact ⟨⟨s, p, true, rfl, fun _ => ⟨_, _, HK.out.1, by rw [encL_snoc]; exact HK.out.2.1, HK.out.2.2⟩, (fun h => by cases h)⟩, HB1.out⟩
              have HT : Hid (t ≠ .star) := Lib.hid (fun e => h42 (by have := (term_kind t).1.1 e; rw [HN.out.2.2.2.1] at this; exact this.1))
              have e42 : ((L0 : Int) == 42) = false := beq_false_of_ne (by omega)
              by_cases h63 : L0 = 63
              · subst h63
                go_wp2_with (go_at_call 113; (with_reducible refine (HLs.out _ (tabs_below HU.out HB1.out)).mono ?_); rintro e w2 ⟨rfl, hb2⟩; have HB2 := Lib.hid (bl_step HB1.out hb2); clear hb2)
                all_goals
                  refine ⟨⟨s.extract 0 (s.size - e2), p.extract 0 (p.size - e1), by rw [ByteArray.size_extract]; omega, by rw [ByteArray.size_extract]; omega, rfl, rfl, rfl, Lib.hid ⟨C1, S, HK.out.1.step HT.out, HCUT.out.1, HCUT.out.2⟩, HB2⟩, ?_⟩
                  show (s.extract 0 (s.size - e2)).size < s.size
                  rw [ByteArray.size_extract]
                  omega
              have e63 : ((L0 : Int) == 63) = false := beq_false_of_ne (by omega)
              have HLC : Hid (fit1 t c → L0 = c) := Lib.hid (fun hf => by
                rcases (fit_iff HT.out).1 hf with e | e
                · have := (term_kind t).2.1 e
                  rw [HN.out.2.2.2.1] at this
                  exact absurd this.1 h63
                · rw [← HN.out.2.2.2.1]; exact e)
              clear h42 h63
              by_cases hlc : L0 = c
              · have elc : (L0 : Int) = (c : Int) := by rw [hlc]
                subst hlc
                go_wp2_with (go_at_call 113; (with_reducible refine (HLs.out _ (tabs_below HU.out HB1.out)).mono ?_); rintro e w2 ⟨rfl, hb2⟩; have HB2 := Lib.hid (bl_step HB1.out hb2); clear hb2)
                all_goals
                  refine ⟨⟨s.extract 0 (s.size - e2), p.extract 0 (p.size - e1), by rw [ByteArray.size_extract]; omega, by rw [ByteArray.size_extract]; omega, rfl, rfl, rfl, Lib.hid ⟨C1, S, HK.out.1.step HT.out, HCUT.out.1, HCUT.out.2⟩, HB2⟩, ?_⟩
                  show (s.extract 0 (s.size - e2)).size < s.size
                  rw [ByteArray.size_extract]
                  omega
              · have elc : ((L0 : Int) == (c : Int)) = false := beq_false_of_ne (by omega)
                go_wp2_with (go_at_call 113; (with_reducible refine (HLs.out _ (tabs_below HU.out HB1.out)).mono ?_); rintro e w2 ⟨rfl, hb2⟩; have HB2 := Lib.hid (bl_step HB1.out hb2); clear hb2)
                all_goals
                  go_ret3
                  rw [← HPP.out]
                  exact ⟨⟨s, p, false, rfl, (fun h => by cases h), fun _ => HK.out.1.miss HT.out (fun hf => hlc (HLC.out hf))⟩, HB2.out⟩
      · go_wp2
        go_ret3
        rw [← HPP.out]
        exact ⟨⟨s, p, true, rfl, fun _ => HI.out, (fun h => by cases h)⟩, HB.out⟩
    · go_wp2
      go_ret3
      rw [← HPP.out]
      exact ⟨⟨s, p, true, rfl, fun _ => HI.out, (fun h => by cases h)⟩, HB.out⟩
end Go.Proofs.YtphpjboljlkdkaaDoor.Mt
