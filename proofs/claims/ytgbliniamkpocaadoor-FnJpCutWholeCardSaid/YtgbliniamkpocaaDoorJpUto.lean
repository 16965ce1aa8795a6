/- jsonparser.unescapeToUTF8Config: one escape is read and what it stands for is written. -/
import Derived.Test.YtgbliniamkpocaaDoorJpMem
import Derived.Test.YtgbliniamkpocaaDoorJpEsc
import Derived.Test.YtgbliniamkpocaaDoorShelfEsc
import Derived.WalkKit
import Derived.WalkSpells
import Derived.WalkLawsBesides
import Derived.Outline
namespace Go.Proofs.YtgbliniamkpocaaDoor.Jp
open Go.RowKit Go.Proofs.YtgbliniamkpocaaDoorW.PrintWords Go.Proofs.YtgbliniamkpocaaDoor.Kit

def cfg : Value := .agg #[.bool false, .bool false, .int .i64 0]
/-- The table of the short escapes, in the variable's cells. -/
def Tab (w : World) : Prop := ∀ c, isSh c → w.cell? ⟨4, c.toNat, none⟩ = some (.int .u8 (sh c))
theorem Tab.gr {g : Nat} {w w1 : World} (h : Tab w) (hg : Gr g w w1) (hn : g ≠ 4) : Tab w1 := fun c hc => by
  have := h c hc
  rw [hg.cell (World.block_lt_of_cell? w _ this) (Ne.symm hn)]
  exact this
theorem Tab.alloc {w : World} (h : Tab w) (o : Obj) : Tab (w.alloc o) := fun c hc => by
  have := h c hc
  rw [((Below.refl w.heap.size w).alloc (Nat.le_refl _) o).cell (p := ⟨4, c.toNat, none⟩) (World.block_lt_of_cell? w _ this)]
  exact this
theorem cell_alloc {w : World} {a : Addr} {v : Value} (h : w.cell? a = some v) (o : Obj) : (w.alloc o).cell? a = some v := by
  rw [((Below.refl w.heap.size w).alloc (Nat.le_refl _) o).cell (p := a) (World.block_lt_of_cell? w _ h)]
  exact h
theorem add0 (a : Addr) : a.add 0 = a := by simp [Addr.add]
theorem add1 (a : Addr) (n : Nat) (h : n ≠ 0) : a.add n = { block := a.block, off := a.off + n, spot := none } := by simp [Addr.add, h]
theorem BO.at_end {w : World} {g n : Nat} {E : List Int} (h : BO w g n E) (hn : E.length < n) : (∃ v, w.cell? ⟨g, E.length, none⟩ = some v) ∧ w.frozen? ⟨g, E.length, none⟩ = false :=
  ⟨Option.isSome_iff_exists.1 (h.bb.there _ hn), h.bb.frozen _ hn⟩
set_option maxHeartbeats 8000000 in
set_option maxRecDepth 100000 in
theorem uto_short (A : Option Addr) (c : Nat) (l : List Int) (w : World) (hr : ReadsInt w .u8 A l.length l) (g n dLen dCap : Nat) (E : List Int) (hB : BO w g n E) (hT : Tab w)
    (hl : 2 ≤ l.length) (h0 : l.getD 0 0 = 92) (hs : isSh (l.getD 1 0)) (hd : 1 ≤ dLen) (hn : E.length < n) :
    Calls Tryd.prog 59 #[cfg, .slice A l.length c, .slice (some ⟨g, E.length, none⟩) dLen dCap] w fun e w' => e = .returned (.tuple #[.int .i64 2, .int .i64 1]) ∧ BO w' g n (E ++ [sh (l.getD 1 0)]) ∧ Gr g w w' := by
  obtain ⟨ad, rfl, hc⟩ := hr.2.2 (by omega)
  obtain ⟨x, hx⟩ : ∃ x, l.getD 1 0 = x := ⟨_, rfl⟩
  have c0 := cell_alloc (hc 0 (by omega)) (.cells #[.bool false, .bool false, .int .i64 0] 80)
  have c1 := cell_alloc (hc 1 (by omega)) (.cells #[.bool false, .bool false, .int .i64 0] 80)
  rw [h0, add0] at c0
  rw [hx, add1 _ _ (by decide)] at c1
  rw [hx] at hs ⊢
  have ct := cell_alloc (hT x hs) (.cells #[.bool false, .bool false, .int .i64 0] 80)
  have hxr : 0 ≤ x ∧ x < 117 := by unfold isSh at hs; omega
  obtain ⟨⟨v, hv⟩, hf⟩ := (hB.alloc (.cells #[.bool false, .bool false, .int .i64 0] 80)).at_end hn
  have HB := Lib.hid (hB.alloc (.cells #[.bool false, .bool false, .int .i64 0] 80))
  clear hB hT hc hr hx h0
  unfold isSh at hs
  unfold cfg
  rcases hs with hs | hs | hs | hs | hs | hs | hs | hs
  all_goals
    subst hs
    simp only [sh, Int.reduceToNat, Int.reduceEq, ↓reduceIte] at ct
    go_enter Tryd.func59, Tryd.ntmps59
    go_wp2
    go_ret2
    exact ⟨rfl, HB.out.push hn _, (Gr.alloc g w _).trans (Gr.setCell g _ _ _)⟩
theorem BO.drewN {w : World} {g n : Nat} {E : List Int} (h : BO w g n E) (m : Nat) : BO (w.drewN m) g n E := h
theorem enc_at {w : World} {g n dLen dCap : Nat} {E : List Int} (hB : BO w g n E) (r : Int) (h0 : 0 ≤ r) (h1 : r ≤ 1114111) (hd : (Lib.encodeRuneZ r).length ≤ dLen) (hn : E.length + (Lib.encodeRuneZ r).length ≤ n) :
    Calls Tryd.prog 76 #[.slice (some ⟨g, E.length, none⟩) dLen dCap, .int .i32 r] w fun e w' => e = .returned (.int .i64 (Lib.encodeRuneZ r).length) ∧ BO w' g n (E ++ Lib.encodeRuneZ r) ∧ Gr g w w' := by
  have hl : (Lib.runeCells r).length = (Lib.encodeRuneZ r).length := by unfold Lib.runeCells; rw [List.length_map]
  refine (Tryd.utf8_EncodeRune g E.length dLen dCap r (by omega) (by omega) w (by omega) (fun j hj => hB.bb.there _ (by omega)) (fun j hj => hB.bb.frozen _ (by omega))).mono ?_
  rintro e w' ⟨rfl, rfl⟩
  rw [hl]
  exact ⟨rfl, hB.pushes _ hn, Gr.setCells g _ _ _⟩
set_option maxHeartbeats 8000000 in
set_option maxRecDepth 100000 in
theorem uto_u (A : Option Addr) (c : Nat) (l : List Int) (w : World) (hr : ReadsInt w .u8 A l.length l) (hlc : l.length ≤ c) (g n dLen dCap : Nat) (E : List Int) (hB : BO w g n E)
    (hl : 2 ≤ l.length) (h0 : l.getD 0 0 = 92) (hs : l.getD 1 0 = 117) (hdec : (dec l).2 ≠ -1) (hd : (Lib.encodeRuneZ (dec l).1).length ≤ dLen) (hn : E.length + (Lib.encodeRuneZ (dec l).1).length ≤ n) :
    Calls Tryd.prog 59 #[cfg, .slice A l.length c, .slice (some ⟨g, E.length, none⟩) dLen dCap] w fun e w' => e = .returned (.tuple #[.int .i64 (dec l).2, .int .i64 (Lib.encodeRuneZ (dec l).1).length]) ∧ BO w' g n (E ++ Lib.encodeRuneZ (dec l).1) ∧ Gr g w w' := by
  have HR := Lib.hid hr
  obtain ⟨ad, rfl, hc⟩ := hr.2.2 (by omega)
  have c0 := cell_alloc (hc 0 (by omega)) (.cells #[.bool false, .bool false, .int .i64 0] 80)
  have c1 := cell_alloc (hc 1 (by omega)) (.cells #[.bool false, .bool false, .int .i64 0] 80)
  rw [h0, add0] at c0
  rw [hs, add1 _ _ (by decide)] at c1
  have hrg := dec_range l
  have H1 := fun W => dec_calls (some ad) c l W
  have H2 := fun (W : World) (hB : BO W g n E) => enc_at (dLen := dLen) (dCap := dCap) hB (dec l).1 hrg.1 hrg.2.1 hd hn
  obtain ⟨r, hr1⟩ : ∃ r, (dec l).1 = r := ⟨_, rfl⟩
  obtain ⟨k, hk⟩ : ∃ k, (dec l).2 = k := ⟨_, rfl⟩
  obtain ⟨z, hz⟩ : ∃ z, Lib.encodeRuneZ (dec l).1 = z := ⟨_, rfl⟩
  rw [hr1] at hz
  rw [hr1, hk] at H1
  rw [hr1, hz] at H2
  rw [hr1, hz, hk]
  rw [hk] at hdec
  have HH := Lib.hid (And.intro H1 H2)
  have hk1 : (k == -1) = false := by simpa using hdec
  have HB := Lib.hid (hB.alloc (.cells #[.bool false, .bool false, .int .i64 0] 80))
  have HR1 := Lib.hid (HR.out.below ((Below.refl w.heap.size w).alloc (Nat.le_refl _) (.cells #[.bool false, .bool false, .int .i64 0] 80)))
  clear hB hc hr h0 hs hr1 hk hz hdec H1 H2 hrg hd hn HR
  unfold cfg
  go_enter Tryd.func59, Tryd.ntmps59
  go_wp2_with (first | (go_at_call 75; refine (HH.out.1 _ HR1.out hlc).mono ?_; rintro e w1 ⟨rfl, ⟨m, rfl⟩⟩) | (go_at_call 76; refine (HH.out.2 _ (HB.out.drewN m)).mono ?_; rintro e w2 ⟨rfl, hb2, hg2⟩))
  go_ret2
  exact ⟨rfl, hb2, (Gr.alloc g w _).trans ((Gr.drewN g _ m).trans hg2)⟩
set_option maxHeartbeats 8000000 in
set_option maxRecDepth 100000 in
theorem uto_u_no (A : Option Addr) (c : Nat) (l : List Int) (w : World) (hr : ReadsInt w .u8 A l.length l) (hlc : l.length ≤ c) (v : Value) (g : Nat)
    (hl : 2 ≤ l.length) (h0 : l.getD 0 0 = 92) (hs : l.getD 1 0 = 117) (hdec : (dec l).2 = -1) :
    Calls Tryd.prog 59 #[cfg, .slice A l.length c, v] w fun e w' => e = .returned (.tuple #[.int .i64 (-1), .int .i64 (-1)]) ∧ Gr g w w' := by
  have HR := Lib.hid hr
  obtain ⟨ad, rfl, hc⟩ := hr.2.2 (by omega)
  have c0 := cell_alloc (hc 0 (by omega)) (.cells #[.bool false, .bool false, .int .i64 0] 80)
  have c1 := cell_alloc (hc 1 (by omega)) (.cells #[.bool false, .bool false, .int .i64 0] 80)
  rw [h0, add0] at c0
  rw [hs, add1 _ _ (by decide)] at c1
  have H1 := fun W => dec_calls (some ad) c l W
  rw [hdec] at H1
  have HH := Lib.hid H1
  have HR1 := Lib.hid (HR.out.below ((Below.refl w.heap.size w).alloc (Nat.le_refl _) (.cells #[.bool false, .bool false, .int .i64 0] 80)))
  clear hc hr h0 hs hdec H1 HR
  unfold cfg
  go_enter Tryd.func59, Tryd.ntmps59
  go_wp2_with (go_at_call 75; refine (HH.out _ HR1.out hlc).mono ?_; rintro e w1 ⟨rfl, ⟨m, rfl⟩⟩)
  go_ret2
  exact ⟨rfl, (Gr.alloc g w _).trans (Gr.drewN g _ m)⟩
set_option maxHeartbeats 8000000 in
set_option maxRecDepth 100000 in
theorem uto_one (A : Option Addr) (c : Nat) (l : List Int) (w : World) (v : Value) (g : Nat) (hl : l.length < 2) :
    Calls Tryd.prog 59 #[cfg, .slice A l.length c, v] w fun e w' => e = .returned (.tuple #[.int .i64 (-1), .int .i64 (-1)]) ∧ Gr g w w' := by
  unfold cfg
  go_enter Tryd.func59, Tryd.ntmps59
  go_wp2
  go_ret2
  exact ⟨rfl, Gr.alloc g w _⟩
set_option maxHeartbeats 8000000 in
set_option maxRecDepth 100000 in
theorem uto_other (A : Option Addr) (c : Nat) (l : List Int) (w : World) (hr : ReadsInt w .u8 A l.length l) (v : Value) (g : Nat)
    (hl : 2 ≤ l.length) (h0 : l.getD 0 0 = 92) (hs : ¬ isSh (l.getD 1 0)) (hu : l.getD 1 0 ≠ 117) :
    Calls Tryd.prog 59 #[cfg, .slice A l.length c, v] w fun e w' => e = .returned (.tuple #[.int .i64 (-1), .int .i64 (-1)]) ∧ Gr g w w' := by
  obtain ⟨ad, rfl, hc⟩ := hr.2.2 (by omega)
  obtain ⟨x, hx⟩ : ∃ x, l.getD 1 0 = x := ⟨_, rfl⟩
  have c0 := cell_alloc (hc 0 (by omega)) (.cells #[.bool false, .bool false, .int .i64 0] 80)
  have c1 := cell_alloc (hc 1 (by omega)) (.cells #[.bool false, .bool false, .int .i64 0] 80)
  rw [h0, add0] at c0
  rw [hx, add1 _ _ (by decide)] at c1
  rw [hx] at hs hu
  unfold isSh at hs
  have e1 : (x == 34) = false ∧ (x == 92) = false ∧ (x == 47) = false ∧ (x == 98) = false ∧ (x == 102) = false ∧ (x == 110) = false ∧ (x == 114) = false ∧ (x == 116) = false ∧ (x == 117) = false := by
    simp only [beq_eq_false_iff_ne]
    omega
  obtain ⟨n1, n2, n3, n4, n5, n6, n7, n8, n9⟩ := e1
  clear hc hr h0 hs hu hx
  unfold cfg
  by_cases hq : x = 39
  · subst hq
    clear n1 n2 n3 n4 n5 n6 n7 n8 n9
    go_enter Tryd.func59, Tryd.ntmps59
    go_wp2
    go_ret2
    exact ⟨rfl, Gr.alloc g w _⟩
  · have n10 : (x == 39) = false := by simpa using hq
    clear hq
    go_enter Tryd.func59, Tryd.ntmps59
    go_wp2
    go_ret2
    exact ⟨rfl, Gr.alloc g w _⟩
/-- One escape, read or not. -/
theorem uto_some {A : Option Addr} {c : Nat} {l : List Int} {w : World} (hr : ReadsInt w .u8 A l.length l) (hlc : l.length ≤ c) {g n dLen dCap : Nat} {E : List Int} (hB : BO w g n E) (hT : Tab w)
    (h0 : l.getD 0 0 = 92) {m : Nat} {bs : List Int} (h : u1 l = some (m, bs)) (hd : l.length ≤ dLen) (hn : E.length + l.length ≤ n) :
    Calls Tryd.prog 59 #[cfg, .slice A l.length c, .slice (some ⟨g, E.length, none⟩) dLen dCap] w fun e w' => e = .returned (.tuple #[.int .i64 m, .int .i64 bs.length]) ∧ BO w' g n (E ++ bs) ∧ Gr g w w' := by
  have hle := u1_le h
  unfold u1 at h
  split at h
  · cases h
  · rename_i hl
    split at h
    · rename_i hs
      simp only [Option.some.injEq, Prod.mk.injEq] at h
      obtain ⟨rfl, rfl⟩ := h
      exact uto_short A c l w hr g n dLen dCap E hB hT (by omega) h0 hs (by omega) (by omega)
    · split at h
      · rename_i hs
        split at h
        · cases h
        · rename_i hdec
          simp only [Option.some.injEq, Prod.mk.injEq] at h
          obtain ⟨rfl, rfl⟩ := h
          have hrg := dec_range l
          have := uto_u A c l w hr hlc g n dLen dCap E hB (by omega) h0 hs hdec (by omega) (by omega)
          rwa [show (dec l).2 = (((dec l).2.toNat : Nat) : Int) by omega] at this
      · cases h
theorem uto_none {A : Option Addr} {c : Nat} {l : List Int} {w : World} (hr : ReadsInt w .u8 A l.length l) (hlc : l.length ≤ c) (v : Value) (g : Nat) (h0 : l.getD 0 0 = 92) (h : u1 l = none) :
    Calls Tryd.prog 59 #[cfg, .slice A l.length c, v] w fun e w' => e = .returned (.tuple #[.int .i64 (-1), .int .i64 (-1)]) ∧ Gr g w w' := by
  unfold u1 at h
  split at h
  · rename_i hl
    exact uto_one A c l w v g hl
  · rename_i hl
    split at h
    · cases h
    · rename_i hs
      split at h
      · rename_i hu
        split at h
        · rename_i hdec
          exact uto_u_no A c l w hr hlc v g (by omega) h0 hu hdec
        · cases h
      · rename_i hu
        exact uto_other A c l w hr v g (by omega) h0 hs hu
end Go.Proofs.YtgbliniamkpocaaDoor.Jp
