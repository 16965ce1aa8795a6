/- Texts of this claim, laid together. -/
import Derived.Test.YtgbliniamkpocaaDoorG0
import Derived.Shelf.Bytes.SlIndexAt
import Derived.Shelf.Bytes.IndexByte
import Derived.Shelf.Spec.EncodeRune
import Derived.Test.YtgbliniamkpocaaDoorProg
import Derived.Test.YtgbliniamkpocaaDoorG1
import Derived.WalkKit
import Derived.WalkSpells
import Derived.WalkLawsBesides
import Derived.Outline
/- The search for keys in plain words: searchKeysConfig's mirror. -/
namespace Go.Proofs.YtgbliniamkpocaaDoor.Jp

/-- What the search needs beside the text: the number of keys; does a name (its bytes from a to b, as they stand) say key number i; is key number i an index ('[' first); what the index case gives at i. -/
structure Sk where
  lk : Nat
  bad : Nat → Nat → Bool
  eq : Nat → Nat → Nat → Bool
  ix : Nat → Bool
  at_ : Nat → Nat → Int
/-- One byte: what is handed back, or the state behind it. -/
def skStep (S : Sk) (L : List Int) (i : Nat) (lv kl : Int) (lm : Bool) : Int ⊕ (Nat × Int × Int × Bool) :=
  if gb L i = 34 then
    match qe L (i + 1) false with
    | none => .inl (-1)
    | some j =>
      if bl L j < L.length then
        if gb L (bl L j) = 58 then
          if lv < 1 then .inl (-1)
          else if S.bad (i + 1) (j - 1) = true then .inl (-1)
          else if lv ≤ S.lk then
            if S.eq (i + 1) (j - 1) (lv - 1).toNat = true then
              if kl = lv - 1 then (if kl + 1 = S.lk then .inl ((bl L j : Nat) + 1 : Int) else .inr (bl L j + 1, lv, kl + 1, true))
              else .inr (bl L j + 1, lv, kl, true)
            else .inr (bl L j + 1, lv, kl, false)
          else .inl (-1)
        else .inr (bl L j, lv, kl, lm)
      else .inl (-1)
  else if gb L i = 123 then
    if lm = true then .inr (i + 1, lv + 1, kl, lm)
    else match be L 123 125 i 0 with
      | none => .inl (-1)
      | some e => .inr (e, lv, kl, lm)
  else if gb L i = 125 then .inr (i + 1, lv - 1, if lv - 1 = kl then kl - 1 else kl, lm)
  else if gb L i = 91 then
    if kl = lv ∧ S.ix lv.toNat = true then .inl (S.at_ i lv.toNat)
    else match be L 91 93 i 0 with
      | none => .inl (-1)
      | some e => .inr (e, lv, kl, lm)
  else if gb L i = 58 then .inl (-1)
  else .inr (i + 1, lv, kl, lm)
theorem bl_ge (L : List Int) : ∀ (d i : Nat), L.length - i ≤ d → i ≤ bl L i := by
  intro d
  induction d with
  | zero =>
    intro i hd
    rw [bl, dif_neg (fun h => by have := blank_in h; omega)]
    omega
  | succ d ih =>
    intro i hd
    by_cases h : isBlank (gb L i)
    · rw [bl, dif_pos h]
      have := blank_in h
      have := ih (i + 1) (by omega)
      omega
    · rw [bl, dif_neg h]
      omega
theorem skStep_lt {S : Sk} {L : List Int} {i : Nat} {lv kl : Int} {lm : Bool} {r : Nat × Int × Int × Bool} (h : skStep S L i lv kl lm = .inr r) : i < r.1 := by
  unfold skStep at h
  split at h
  · cases hq : qe L (i + 1) false with
    | none =>
      rw [hq] at h
      cases h
    | some j =>
      rw [hq] at h
      simp only at h
      have hj := qe_le L _ _ _ _ (Nat.le_refl _) hq
      have hbj := bl_ge L _ j (Nat.le_refl _)
      repeat' split at h
      all_goals first | (cases h; done) | (injection h with h; subst h; simp only; omega)
  split at h
  · split at h
    · injection h with h
      subst h
      simp only
      omega
    · cases hq : be L 123 125 i 0 with
      | none =>
        rw [hq] at h
        cases h
      | some e =>
        rw [hq] at h
        injection h with h
        subst h
        exact (be_le L _ _ _ _ _ _ (Nat.le_refl _) hq).1
  split at h
  · injection h with h
    subst h
    simp only
    omega
  split at h
  · split at h
    · cases h
    · cases hq : be L 91 93 i 0 with
      | none =>
        rw [hq] at h
        cases h
      | some e =>
        rw [hq] at h
        injection h with h
        subst h
        exact (be_le L _ _ _ _ _ _ (Nat.le_refl _) hq).1
  split at h
  · cases h
  · injection h with h
    subst h
    simp only
    omega
/-- The search from i on. -/
def sk (S : Sk) (L : List Int) (i : Nat) (lv kl : Int) (lm : Bool) : Int :=
  if _h : i < L.length then
    match _hs : skStep S L i lv kl lm with
    | .inl r => r
    | .inr r => sk S L r.1 r.2.1 r.2.2.1 r.2.2.2
  else -1
termination_by L.length - i
decreasing_by have := skStep_lt _hs; omega
theorem sk_out {S : Sk} {L : List Int} {i : Nat} {lv kl : Int} {lm : Bool} (h : L.length ≤ i) : sk S L i lv kl lm = -1 := by rw [sk, dif_neg (by omega)]
theorem sk_inl {S : Sk} {L : List Int} {i : Nat} {lv kl : Int} {lm : Bool} {r : Int} (h : i < L.length) (hs : skStep S L i lv kl lm = .inl r) : sk S L i lv kl lm = r := by
  rw [sk, dif_pos h]
  split
  · rename_i r2 h2
    rw [hs] at h2
    injection h2 with h2
    exact h2.symm
  · rename_i r2 h2
    rw [hs] at h2
    cases h2
theorem sk_inr {S : Sk} {L : List Int} {i : Nat} {lv kl : Int} {lm : Bool} {r : Nat × Int × Int × Bool} (h : i < L.length) (hs : skStep S L i lv kl lm = .inr r) : sk S L i lv kl lm = sk S L r.1 r.2.1 r.2.2.1 r.2.2.2 := by
  rw [sk, dif_pos h]
  split
  · rename_i r2 h2
    rw [hs] at h2
    cases h2
  · rename_i r2 h2
    rw [hs] at h2
    injection h2 with h2
    rw [h2]
end Go.Proofs.YtgbliniamkpocaaDoor.Jp
/- Contracts of the library at this dump, laid in plain words by the kit's own tool: those that this claim needs. -/
namespace Go.Proofs
open Go.Shelf
def Tryd.lays187_ren : Go.Shelf.Ren := ⟨fun | 187 => 58 | 255 => 74 | n => n, fun | 37 => 57 | 5 => 5 | 3 => 3 | n => n, fun | n => n⟩
theorem Tryd.lays187 : Go.Proofs.Lays.n187 Tryd.prog Tryd.lays187_ren := {
  mixed := by kernel_rfl
  f187 := Tryd.func58.trans (congrArg some (by kernel_rfl))
  f255 := Tryd.func74.trans (congrArg some (by kernel_rfl))
  t3 := Tryd.underlying3
  a3 := Tryd.isAgg3
  z3 := Tryd.sizeOf3
  v3 := Tryd.zeroValue3
  t5 := Tryd.underlying5
  a5 := Tryd.isAgg5
  z5 := Tryd.sizeOf5
  v5 := Tryd.zeroValue5
  t37 := Tryd.underlying57
  a37 := Tryd.isAgg57
  z37 := Tryd.sizeOf57
  v37 := Tryd.zeroValue57 }
open Go.RowKit Go.Lib in
theorem Tryd.bytes_IndexByte_at (a : Addr) (n c : Nat) (xs : List Int) (cv : Int) (w : World) (hx : xs.length = n) (hc : ∀ i, i < n → w.cell? (a.add i) = some (.int .u8 (xs.getD i 0))) :
    Calls Tryd.prog 58 #[.slice (some a) n c, .int .u8 cv] w fun e w' => e = .returned (.int .i64 (Lib.indexByte (Lib.bytesOf xs) cv.toNat.toUInt8)) ∧ w' = w := Any.bytes_IndexByte_at Tryd.lays187 a n c xs cv w hx hc
theorem Tryd.bytes_IndexByte_nil (cv : Int) (w : World) :
    Calls Tryd.prog 58 #[.slice none 0 0, .int .u8 cv] w fun e w' => e = .returned (.int .i64 (-1)) ∧ w' = w := Any.bytes_IndexByte_nil Tryd.lays187 cv w
def Tryd.lays7n30_ren : Go.Shelf.Ren := ⟨fun | 30 => 76 | 47 => 90 | n => n, fun | 30 => 57 | 21 => 21 | 3 => 3 | 27 => 129 | 4 => 4 | 5 => 5 | 0 => 0 | 25 => 136 | n => n, fun | n => n⟩
theorem Tryd.lays7n30 : Go.Proofs.Lays7.n30 Tryd.prog Tryd.lays7n30_ren := {
  mixed := by kernel_rfl
  f30 := Tryd.func76.trans (congrArg some (by kernel_rfl))
  f47 := Tryd.func90.trans (congrArg some (by kernel_rfl))
  t0 := Tryd.underlying0
  a0 := Tryd.isAgg0
  z0 := Tryd.sizeOf0
  v0 := Tryd.zeroValue0
  i0 := by kernel_rfl
  t3 := Tryd.underlying3
  a3 := Tryd.isAgg3
  z3 := Tryd.sizeOf3
  v3 := Tryd.zeroValue3
  i3 := by kernel_rfl
  t4 := Tryd.underlying4
  a4 := Tryd.isAgg4
  z4 := Tryd.sizeOf4
  v4 := Tryd.zeroValue4
  i4 := by kernel_rfl
  t5 := Tryd.underlying5
  a5 := Tryd.isAgg5
  z5 := Tryd.sizeOf5
  v5 := Tryd.zeroValue5
  i5 := by kernel_rfl
  t21 := Tryd.underlying21
  a21 := Tryd.isAgg21
  z21 := Tryd.sizeOf21
  v21 := Tryd.zeroValue21
  i21 := by kernel_rfl
  t25 := Tryd.underlying136
  a25 := Tryd.isAgg136
  z25 := Tryd.sizeOf136
  v25 := Tryd.zeroValue136
  i25 := by kernel_rfl
  t27 := Tryd.underlying129
  a27 := Tryd.isAgg129
  z27 := Tryd.sizeOf129
  v27 := Tryd.zeroValue129
  i27 := by kernel_rfl
  t30 := Tryd.underlying57
  a30 := Tryd.isAgg57
  z30 := Tryd.sizeOf57
  v30 := Tryd.zeroValue57
  i30 := by kernel_rfl }
open Go.RowKit Go.Lib in
theorem Tryd.utf8_EncodeRune (b off len cap : Nat) (r : Int) (hlo : -2147483648 ≤ r) (hhi : r ≤ 2147483647) (w : World) (hl : (Lib.runeCells r).length ≤ len)
    (hc : ∀ j, j < (Lib.runeCells r).length → (w.cell? ⟨b, off + j, none⟩).isSome = true) (hf : ∀ j, j < (Lib.runeCells r).length → w.frozen? ⟨b, off + j, none⟩ = false) :
    Calls Tryd.prog 76 #[.slice (some ⟨b, off, none⟩) len cap, .int .i32 r] w fun e w' => e = .returned (.int .i64 (Lib.runeCells r).length) ∧ w' = w.setCells b off (Lib.runeCells r) := Any7.utf8_EncodeRune Tryd.lays7n30 b off len cap r hlo hhi w hl hc hf

end Go.Proofs
/- jsonparser.unescapeToUTF8Config: one escape is read and what it stands for is written. -/
namespace Go.Proofs.YtgbliniamkpocaaDoor.Jp
open Go.RowKit Go.Proofs.YtgbliniamkpocaaDoorW.PrintWords Go.Proofs.YtgbliniamkpocaaDoor.Kit

def cfg : Value := .agg #[.bool false, .bool false, .int .i64 0]
/-- The table of the short escapes, in the variable's cells. -/
def Tab (w : World) : Prop := ∀ c, isSh c → w.cell? ⟨4, c.toNat, none⟩ = some (.int .u8 (sh c))
theorem Tab.gr {g : Nat} {w w1 : World} (h : Tab w) (hg : Gr g w w1) (hn : g ≠ 4) : Tab w1 := fun c hc => by
  have := h c hc
  rw [hg.cell (World.block_lt_of_cell? w _ this) (Ne.symm hn)]
  exact this
theorem Tab.alloc {w : World} (h : Tab w) (o : Obj) : Tab (w.alloc o) := fun c hc => by
  have := h c hc
  rw [((Below.refl w.heap.size w).alloc (Nat.le_refl _) o).cell (p := ⟨4, c.toNat, none⟩) (World.block_lt_of_cell? w _ this)]
  exact this
theorem cell_alloc {w : World} {a : Addr} {v : Value} (h : w.cell? a = some v) (o : Obj) : (w.alloc o).cell? a = some v := by
  rw [((Below.refl w.heap.size w).alloc (Nat.le_refl _) o).cell (p := a) (World.block_lt_of_cell? w _ h)]
  exact h
theorem add0 (a : Addr) : a.add 0 = a := by simp [Addr.add]
theorem add1 (a : Addr) (n : Nat) (h : n ≠ 0) : a.add n = { block := a.block, off := a.off + n, spot := none } := by simp [Addr.add, h]
theorem BO.at_end {w : World} {g n : Nat} {E : List Int} (h : BO w g n E) (hn : E.length < n) : (∃ v, w.cell? ⟨g, E.length, none⟩ = some v) ∧ w.frozen? ⟨g, E.length, none⟩ = false :=
  ⟨Option.isSome_iff_exists.1 (h.bb.there _ hn), h.bb.frozen _ hn⟩
set_option maxHeartbeats 8000000 in
set_option maxRecDepth 100000 in
theorem uto_short (A : Option Addr) (c : Nat) (l : List Int) (w : World) (hr : ReadsInt w .u8 A l.length l) (g n dLen dCap : Nat) (E : List Int) (hB : BO w g n E) (hT : Tab w)
    (hl : 2 ≤ l.length) (h0 : l.getD 0 0 = 92) (hs : isSh (l.getD 1 0)) (hd : 1 ≤ dLen) (hn : E.length < n) :
    Calls Tryd.prog 59 #[cfg, .slice A l.length c, .slice (some ⟨g, E.length, none⟩) dLen dCap] w fun e w' => e = .returned (.tuple #[.int .i64 2, .int .i64 1]) ∧ BO w' g n (E ++ [sh (l.getD 1 0)]) ∧ Gr g w w' := by
  obtain ⟨ad, rfl, hc⟩ := hr.2.2 (by omega)
  obtain ⟨x, hx⟩ : ∃ x, l.getD 1 0 = x := ⟨_, rfl⟩
  have c0 := cell_alloc (hc 0 (by omega)) (.cells #[.bool false, .bool false, .int .i64 0] 80)
  have c1 := cell_alloc (hc 1 (by omega)) (.cells #[.bool false, .bool false, .int .i64 0] 80)
  rw [h0, add0] at c0
  rw [hx, add1 _ _ (by decide)] at c1
  rw [hx] at hs ⊢
  have ct := cell_alloc (hT x hs) (.cells #[.bool false, .bool false, .int .i64 0] 80)
  have hxr : 0 ≤ x ∧ x < 117 := by unfold isSh at hs; omega
  obtain ⟨⟨v, hv⟩, hf⟩ := (hB.alloc (.cells #[.bool false, .bool false, .int .i64 0] 80)).at_end hn
  have HB := Lib.hid (hB.alloc (.cells #[.bool false, .bool false, .int .i64 0] 80))
  clear hB hT hc hr hx h0
  unfold isSh at hs
  unfold cfg
  rcases hs with hs | hs | hs | hs | hs | hs | hs | hs
  all_goals
    subst hs
    simp only [sh, Int.reduceToNat, Int.reduceEq, ↓reduceIte] at ct
    go_enter Tryd.func59, Tryd.ntmps59
    go_wp2
    go_ret2
    exact ⟨rfl, HB.out.push hn _, (Gr.alloc g w _).trans (Gr.setCell g _ _ _)⟩
theorem BO.drewN {w : World} {g n : Nat} {E : List Int} (h : BO w g n E) (m : Nat) : BO (w.drewN m) g n E := h
theorem enc_at {w : World} {g n dLen dCap : Nat} {E : List Int} (hB : BO w g n E) (r : Int) (h0 : 0 ≤ r) (h1 : r ≤ 1114111) (hd : (Lib.encodeRuneZ r).length ≤ dLen) (hn : E.length + (Lib.encodeRuneZ r).length ≤ n) :
    Calls Tryd.prog 76 #[.slice (some ⟨g, E.length, none⟩) dLen dCap, .int .i32 r] w fun e w' => e = .returned (.int .i64 (Lib.encodeRuneZ r).length) ∧ BO w' g n (E ++ Lib.encodeRuneZ r) ∧ Gr g w w' := by
  have hl : (Lib.runeCells r).length = (Lib.encodeRuneZ r).length := by unfold Lib.runeCells; rw [List.length_map]
  refine (Tryd.utf8_EncodeRune g E.length dLen dCap r (by omega) (by omega) w (by omega) (fun j hj => hB.bb.there _ (by omega)) (fun j hj => hB.bb.frozen _ (by omega))).mono ?_
  rintro e w' ⟨rfl, rfl⟩
  rw [hl]
  exact ⟨rfl, hB.pushes _ hn, Gr.setCells g _ _ _⟩
set_option maxHeartbeats 8000000 in
set_option maxRecDepth 100000 in
theorem uto_u (A : Option Addr) (c : Nat) (l : List Int) (w : World) (hr : ReadsInt w .u8 A l.length l) (hlc : l.length ≤ c) (g n dLen dCap : Nat) (E : List Int) (hB : BO w g n E)
    (hl : 2 ≤ l.length) (h0 : l.getD 0 0 = 92) (hs : l.getD 1 0 = 117) (hdec : (dec l).2 ≠ -1) (hd : (Lib.encodeRuneZ (dec l).1).length ≤ dLen) (hn : E.length + (Lib.encodeRuneZ (dec l).1).length ≤ n) :
    Calls Tryd.prog 59 #[cfg, .slice A l.length c, .slice (some ⟨g, E.length, none⟩) dLen dCap] w fun e w' => e = .returned (.tuple #[.int .i64 (dec l).2, .int .i64 (Lib.encodeRuneZ (dec l).1).length]) ∧ BO w' g n (E ++ Lib.encodeRuneZ (dec l).1) ∧ Gr g w w' := by
  have HR := Lib.hid hr
  obtain ⟨ad, rfl, hc⟩ := hr.2.2 (by omega)
  have c0 := cell_alloc (hc 0 (by omega)) (.cells #[.bool false, .bool false, .int .i64 0] 80)
  have c1 := cell_alloc (hc 1 (by omega)) (.cells #[.bool false, .bool false, .int .i64 0] 80)
  rw [h0, add0] at c0
  rw [hs, add1 _ _ (by decide)] at c1
  have hrg := dec_range l
  have H1 := fun W => dec_calls (some ad) c l W
  have H2 := fun (W : World) (hB : BO W g n E) => enc_at (dLen := dLen) (dCap := dCap) hB (dec l).1 hrg.1 hrg.2.1 hd hn
  obtain ⟨r, hr1⟩ : ∃ r, (dec l).1 = r := ⟨_, rfl⟩
  obtain ⟨k, hk⟩ : ∃ k, (dec l).2 = k := ⟨_, rfl⟩
  obtain ⟨z, hz⟩ : ∃ z, Lib.encodeRuneZ (dec l).1 = z := ⟨_, rfl⟩
  rw [hr1] at hz
  rw [hr1, hk] at H1
  rw [hr1, hz] at H2
  rw [hr1, hz, hk]
  rw [hk] at hdec
  have HH := Lib.hid (And.intro H1 H2)
  have hk1 : (k == -1) = false := by simpa using hdec
  have HB := Lib.hid (hB.alloc (.cells #[.bool false, .bool false, .int .i64 0] 80))
  have HR1 := Lib.hid (HR.out.below ((Below.refl w.heap.size w).alloc (Nat.le_refl _) (.cells #[.bool false, .bool false, .int .i64 0] 80)))
  clear hB hc hr h0 hs hr1 hk hz hdec H1 H2 hrg hd hn HR
  unfold cfg
  go_enter Tryd.func59, Tryd.ntmps59
  go_wp2_with (first | (go_at_call 75; refine (HH.out.1 _ HR1.out hlc).mono ?_; rintro e w1 ⟨rfl, ⟨m, rfl⟩⟩) | (go_at_call 76; refine (HH.out.2 _ (HB.out.drewN m)).mono ?_; rintro e w2 ⟨rfl, hb2, hg2⟩))
  go_ret2
  exact ⟨rfl, hb2, (Gr.alloc g w _).trans ((Gr.drewN g _ m).trans hg2)⟩
set_option maxHeartbeats 8000000 in
set_option maxRecDepth 100000 in
theorem uto_u_no (A : Option Addr) (c : Nat) (l : List Int) (w : World) (hr : ReadsInt w .u8 A l.length l) (hlc : l.length ≤ c) (v : Value) (g : Nat)
    (hl : 2 ≤ l.length) (h0 : l.getD 0 0 = 92) (hs : l.getD 1 0 = 117) (hdec : (dec l).2 = -1) :
    Calls Tryd.prog 59 #[cfg, .slice A l.length c, v] w fun e w' => e = .returned (.tuple #[.int .i64 (-1), .int .i64 (-1)]) ∧ Gr g w w' := by
  have HR := Lib.hid hr
  obtain ⟨ad, rfl, hc⟩ := hr.2.2 (by omega)
  have c0 := cell_alloc (hc 0 (by omega)) (.cells #[.bool false, .bool false, .int .i64 0] 80)
  have c1 := cell_alloc (hc 1 (by omega)) (.cells #[.bool false, .bool false, .int .i64 0] 80)
  rw [h0, add0] at c0
  rw [hs, add1 _ _ (by decide)] at c1
  have H1 := fun W => dec_calls (some ad) c l W
  rw [hdec] at H1
  have HH := Lib.hid H1
  have HR1 := Lib.hid (HR.out.below ((Below.refl w.heap.size w).alloc (Nat.le_refl _) (.cells #[.bool false, .bool false, .int .i64 0] 80)))
  clear hc hr h0 hs hdec H1 HR
  unfold cfg
  go_enter Tryd.func59, Tryd.ntmps59
  go_wp2_with (go_at_call 75; refine (HH.out _ HR1.out hlc).mono ?_; rintro e w1 ⟨rfl, ⟨m, rfl⟩⟩)
  go_ret2
  exact ⟨rfl, (Gr.alloc g w _).trans (Gr.drewN g _ m)⟩
set_option maxHeartbeats 8000000 in
set_option maxRecDepth 100000 in
theorem uto_one (A : Option Addr) (c : Nat) (l : List Int) (w : World) (v : Value) (g : Nat) (hl : l.length < 2) :
    Calls Tryd.prog 59 #[cfg, .slice A l.length c, v] w fun e w' => e = .returned (.tuple #[.int .i64 (-1), .int .i64 (-1)]) ∧ Gr g w w' := by
  unfold cfg
  go_enter Tryd.func59, Tryd.ntmps59
  go_wp2
  go_ret2
  exact ⟨rfl, Gr.alloc g w _⟩
set_option maxHeartbeats 8000000 in
set_option maxRecDepth 100000 in
theorem uto_other (A : Option Addr) (c : Nat) (l : List Int) (w : World) (hr : ReadsInt w .u8 A l.length l) (v : Value) (g : Nat)
    (hl : 2 ≤ l.length) (h0 : l.getD 0 0 = 92) (hs : ¬ isSh (l.getD 1 0)) (hu : l.getD 1 0 ≠ 117) :
    Calls Tryd.prog 59 #[cfg, .slice A l.length c, v] w fun e w' => e = .returned (.tuple #[.int .i64 (-1), .int .i64 (-1)]) ∧ Gr g w w' := by
  obtain ⟨ad, rfl, hc⟩ := hr.2.2 (by omega)
  obtain ⟨x, hx⟩ : ∃ x, l.getD 1 0 = x := ⟨_, rfl⟩
  have c0 := cell_alloc (hc 0 (by omega)) (.cells #[.bool false, .bool false, .int .i64 0] 80)
  have c1 := cell_alloc (hc 1 (by omega)) (.cells #[.bool false, .bool false, .int .i64 0] 80)
  rw [h0, add0] at c0
  rw [hx, add1 _ _ (by decide)] at c1
  rw [hx] at hs hu
  unfold isSh at hs
  have e1 : (x == 34) = false ∧ (x == 92) = false ∧ (x == 47) = false ∧ (x == 98) = false ∧ (x == 102) = false ∧ (x == 110) = false ∧ (x == 114) = false ∧ (x == 116) = false ∧ (x == 117) = false := by
    simp only [beq_eq_false_iff_ne]
    omega
  obtain ⟨n1, n2, n3, n4, n5, n6, n7, n8, n9⟩ := e1
  clear hc hr h0 hs hu hx
  unfold cfg
  by_cases hq : x = 39
  · subst hq
    clear n1 n2 n3 n4 n5 n6 n7 n8 n9
    go_enter Tryd.func59, Tryd.ntmps59
    go_wp2
    go_ret2
    exact ⟨rfl, Gr.alloc g w _⟩
  · have n10 : (x == 39) = false := by simpa using hq
    clear hq
    go_enter Tryd.func59, Tryd.ntmps59
    go_wp2
    go_ret2
    exact ⟨rfl, Gr.alloc g w _⟩
/-- One escape, read or not. -/
theorem uto_some {A : Option Addr} {c : Nat} {l : List Int} {w : World} (hr : ReadsInt w .u8 A l.length l) (hlc : l.length ≤ c) {g n dLen dCap : Nat} {E : List Int} (hB : BO w g n E) (hT : Tab w)
    (h0 : l.getD 0 0 = 92) {m : Nat} {bs : List Int} (h : u1 l = some (m, bs)) (hd : l.length ≤ dLen) (hn : E.length + l.length ≤ n) :
    Calls Tryd.prog 59 #[cfg, .slice A l.length c, .slice (some ⟨g, E.length, none⟩) dLen dCap] w fun e w' => e = .returned (.tuple #[.int .i64 m, .int .i64 bs.length]) ∧ BO w' g n (E ++ bs) ∧ Gr g w w' := by
  have hle := u1_le h
  unfold u1 at h
  split at h
  · cases h
  · rename_i hl
    split at h
    · rename_i hs
      simp only [Option.some.injEq, Prod.mk.injEq] at h
      obtain ⟨rfl, rfl⟩ := h
      exact uto_short A c l w hr g n dLen dCap E hB hT (by omega) h0 hs (by omega) (by omega)
    · split at h
      · rename_i hs
        split at h
        · cases h
        · rename_i hdec
          simp only [Option.some.injEq, Prod.mk.injEq] at h
          obtain ⟨rfl, rfl⟩ := h
          have hrg := dec_range l
          have := uto_u A c l w hr hlc g n dLen dCap E hB (by omega) h0 hs hdec (by omega) (by omega)
          rwa [show (dec l).2 = (((dec l).2.toNat : Nat) : Int) by omega] at this
      · cases h
theorem uto_none {A : Option Addr} {c : Nat} {l : List Int} {w : World} (hr : ReadsInt w .u8 A l.length l) (hlc : l.length ≤ c) (v : Value) (g : Nat) (h0 : l.getD 0 0 = 92) (h : u1 l = none) :
    Calls Tryd.prog 59 #[cfg, .slice A l.length c, v] w fun e w' => e = .returned (.tuple #[.int .i64 (-1), .int .i64 (-1)]) ∧ Gr g w w' := by
  unfold u1 at h
  split at h
  · rename_i hl
    exact uto_one A c l w v g hl
  · rename_i hl
    split at h
    · cases h
    · rename_i hs
      split at h
      · rename_i hu
        split at h
        · rename_i hdec
          exact uto_u_no A c l w hr hlc v g (by omega) h0 hu hdec
        · cases h
      · rename_i hu
        exact uto_other A c l w hr v g (by omega) h0 hs hu
end Go.Proofs.YtgbliniamkpocaaDoor.Jp
