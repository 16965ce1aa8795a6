/- The law FnMtWider. -/
import Derived.Test.YtphpjboljlkdkaaDoorMtPat
import Derived.Test.YtphpjboljlkdkaaDoorMtTrim
import Derived.Test.YtphpjboljlkdkaaDoorRows
import Derived.Lib.LaidU8
import Derived.PinnedBridge
import Derived.MakeChecks
import Derived.ArgAppend
import Derived.StillTailTactics
namespace Go.Proofs.YtphpjboljlkdkaaDoor.Mt
open Go.RowKit Go.Proofs.YtphpjboljlkdkaaDoorW.PrintWords Go.Lib Go.Proofs.YtphpjboljlkdkaaDoor.PMt

/-- What Match gives where the text is made of what the pattern says. -/
def MtC : Prop := ∀ (s p : ByteArray) (C : List Nat) (T : List Tm), (∀ c ∈ C, okc c) → (∀ t ∈ T, okt t) → Bs s (encL C) → Bs p (prL T) → s.size ≤ 1000000 → p.size ≤ 1000000 → Ft C T → ∀ w, Lib.Utf8Tabs 7 8 w →
    Calls Tryd.prog 11 #[.string s, .string p] w fun e w' => e = .returned (.bool true) ∧ Below w.heap.size w w'
/-- The cells of a row of terms. -/
def rc : List S31 → List Value
  | [] => []
  | x :: L => .bool x.f0 :: .bool x.f1 :: .int .i64 x.f2 :: rc L
theorem rc_len (L : List S31) : (rc L).length = L.length * 3 := by
  induction L with
  | nil => rfl
  | cons x L ih => simp only [rc, List.length_cons, ih]; omega
theorem rc_one (L : List S31) : ∀ u ∈ rc L, u.oneCell' = true := by
  induction L with
  | nil => intro u hu; simp [rc] at hu
  | cons x L ih =>
    intro u hu
    simp only [rc, List.mem_cons] at hu
    rcases hu with rfl | rfl | rfl | hu
    · rfl
    · rfl
    · rfl
    · exact ih u hu
theorem rc_get (L : List S31) : ∀ (j : Nat) (x : S31), L[j]? = some x → (rc L)[j * 3]? = some (.bool x.f0) ∧ (rc L)[j * 3 + 1]? = some (.bool x.f1) ∧ (rc L)[j * 3 + 2]? = some (.int .i64 x.f2) := by
  induction L with
  | nil => intro j x h; simp at h
  | cons y L ih =>
    intro j x h
    cases j with
    | zero =>
      simp only [List.getElem?_cons_zero, Option.some.injEq] at h
      subst h
      exact ⟨rfl, rfl, rfl⟩
    | succ j =>
      rw [List.getElem?_cons_succ] at h
      obtain ⟨h1, h2, h3⟩ := ih j x h
      rw [show (j + 1) * 3 = j * 3 + 1 + 1 + 1 by omega]
      exact ⟨h1, h2, h3⟩
theorem rc_at (L : List S31) : ∀ (q : Nat) (u : Value), (rc L)[q]? = some u → ∃ (j i : Nat) (x : S31), q = j * 3 + i ∧ L[j]? = some x ∧ [Value.bool x.f0, .bool x.f1, .int .i64 x.f2][i]? = some u := by
  induction L with
  | nil => intro q u h; simp [rc] at h
  | cons y L ih =>
    intro q u h
    match q, h with
    | 0, h => exact ⟨0, 0, y, rfl, rfl, h⟩
    | 1, h => exact ⟨0, 1, y, rfl, rfl, h⟩
    | 2, h => exact ⟨0, 2, y, rfl, rfl, h⟩
    | q + 3, h =>
      obtain ⟨j, i, x, rfl, h1, h2⟩ := ih q u h
      exact ⟨j + 1, i, x, by omega, h1, h2⟩
theorem add_at (g k : Nat) : (⟨g, 0, none⟩ : Addr).add k = ⟨g, k, none⟩ := by
  simp only [Addr.add]
  split <;> simp_all
/-- A row of terms that may be written. -/
def GR (w : World) (g cap : Nat) (L : List S31) : Prop :=
  ∃ cur t, w.heap[g]? = some (.cells cur t (0, 0)) ∧ L.length ≤ cap ∧ cur.size = cap * 3 ∧ cap ≤ 9223372036854775807 ∧ ∀ j x, L[j]? = some x → cur[j * 3]? = some (.bool x.f0) ∧ cur[j * 3 + 1]? = some (.bool x.f1) ∧ cur[j * 3 + 2]? = some (.int .i64 x.f2)
section
variable {w w1 : World} {g cap : Nat} {L : List S31}
theorem GR.lt (h : GR w g cap L) : g < w.heap.size := by
  obtain ⟨cur, t, h1, _⟩ := h
  exact Array.getElem?_eq_some_iff.1 h1 |>.1
theorem GR.below (h : GR w g cap L) (hb : Below w.heap.size w w1) : GR w1 g cap L := by
  have hl := h.lt
  obtain ⟨cur, t, h1, r⟩ := h
  exact ⟨cur, t, (hb.block g hl).trans h1, r⟩
theorem GR.cells (h : GR w g cap L) {m : Nat} (hm : m < L.length) : (∃ v, w.cell? ⟨g, m * 3, none⟩ = some v) ∧ (∃ v, w.cell? ⟨g, m * 3 + 1, none⟩ = some v) ∧ (∃ v, w.cell? ⟨g, m * 3 + 2, none⟩ = some v) ∧ ∀ o, w.frozen? ⟨g, o, none⟩ = false := by
  obtain ⟨cur, t, h1, _, _, _, h4⟩ := h
  obtain ⟨a, b, c⟩ := h4 m _ (List.getElem?_eq_getElem hm)
  refine ⟨⟨_, by simp only [World.cell?, h1]; exact a⟩, ⟨_, by simp only [World.cell?, h1]; exact b⟩, ⟨_, by simp only [World.cell?, h1]; exact c⟩, fun o => ?_⟩
  exact blk_frozen h1 o
theorem blk_set {cur : Array Value} {t : TypeId} (h : w.heap[g]? = some (.cells cur t (0, 0))) (o : Nat) (v : Value) : (w.setCell ⟨g, o, none⟩ v).heap[g]? = some (.cells (cur.setIfInBounds o v) t (0, 0)) := by
  simp [World.setCell, Array.getElem?_modify, h]
theorem GR.put (h : GR w g cap L) {m : Nat} (_hm : m < L.length) (x : S31) : GR (((w.setCell ⟨g, m * 3, none⟩ (.bool x.f0)).setCell ⟨g, m * 3 + 1, none⟩ (.bool x.f1)).setCell ⟨g, m * 3 + 2, none⟩ (.int .i64 x.f2)) g cap (L.set m x) := by
  obtain ⟨cur, t, h1, h2, h3, h4, h5⟩ := h
  refine ⟨((cur.setIfInBounds (m * 3) (.bool x.f0)).setIfInBounds (m * 3 + 1) (.bool x.f1)).setIfInBounds (m * 3 + 2) (.int .i64 x.f2), t, blk_set (blk_set (blk_set h1 _ _) _ _) _ _, by rw [List.length_set]; exact h2, by simpa using h3, h4, fun j y hy => ?_⟩
  rw [List.getElem?_set] at hy
  by_cases hj : m = j
  · subst hj
    rw [if_pos rfl] at hy
    split at hy
    · simp only [Option.some.injEq] at hy
      subst hy
      have : m < cap := by omega
      refine ⟨?_, ?_, ?_⟩ <;> simp only [Array.getElem?_setIfInBounds] <;> simp <;> omega
    · exact absurd _hm (by assumption)
  · rw [if_neg hj] at hy
    obtain ⟨a, b, c⟩ := h5 j y hy
    refine ⟨?_, ?_, ?_⟩
    · rw [Array.getElem?_setIfInBounds_ne (by omega), Array.getElem?_setIfInBounds_ne (by omega), Array.getElem?_setIfInBounds_ne (by omega)]; exact a
    · rw [Array.getElem?_setIfInBounds_ne (by omega), Array.getElem?_setIfInBounds_ne (by omega), Array.getElem?_setIfInBounds_ne (by omega)]; exact b
    · rw [Array.getElem?_setIfInBounds_ne (by omega), Array.getElem?_setIfInBounds_ne (by omega), Array.getElem?_setIfInBounds_ne (by omega)]; exact c
theorem GR.reads (h : GR w g cap L) : Kd.C k31 w (some ⟨g, 0, none⟩) L.length L := by
  obtain ⟨cur, t, h1, h2, h3, h4, h5⟩ := h
  refine ⟨rfl, by omega, fun _ => ⟨_, rfl, fun j p hp => ⟨[.bool p.f0, .bool p.f1, .int .i64 p.f2], rfl, k31_mk w p, fun i u hu => ?_⟩⟩⟩
  obtain ⟨a, b, c⟩ := h5 j p hp
  rw [show k31.sz = 3 from rfl, add_at]
  simp only [World.cell?, h1]
  match i, hu with
  | 0, hu => simp only [List.getElem?_cons_zero, Option.some.injEq] at hu; subst hu; exact a
  | 1, hu => simp only [List.getElem?_cons_succ, List.getElem?_cons_zero, Option.some.injEq] at hu; subst hu; exact b
  | 2, hu => simp only [List.getElem?_cons_succ, List.getElem?_cons_zero, Option.some.injEq] at hu; subst hu; exact c
theorem gr_of_own {base : Nat} {v : Value} {e : TypeId} (h : w.ownsRow base e 3 v L.length (rc L)) (hn : 0 < L.length) : ∃ g cap, v = .slice (some ⟨g, 0, none⟩) L.length cap ∧ base ≤ g ∧ L.length ≤ cap ∧ GR w g cap L := by
  obtain ⟨hl, h | ⟨g', cap', cur, hv, hg, hb, hnc, hm, hsz, ht⟩⟩ := h
  · omega
  · refine ⟨g', cap', hv, hg, hnc, cur, e, hb, hnc, hsz, by unfold maxLen at hm; omega, fun j x hx => ?_⟩
    have hj : j < L.length := (List.getElem?_eq_some_iff.1 hx).1
    obtain ⟨a, b, c⟩ := rc_get L j x hx
    have hq : ∀ q u, (rc L)[q]? = some u → q < L.length * 3 → cur[q]? = some u := fun q u hu hq => by
      have := congrArg (·[q]?) ht
      simp only [List.getElem?_take] at this
      rw [if_pos hq, Array.getElem?_toList] at this
      rw [this]
      exact hu
    exact ⟨hq _ _ a (by omega), hq _ _ b (by omega), hq _ _ c (by omega)⟩
end
theorem c_cells {W : World} {ad : Addr} {L : List S31} (h : Kd.C k31 W (some ad) L.length L) (hn : 0 < L.length) : ∀ q u, (rc L)[q]? = some u → W.cell? (ad.add q) = some u := by
  intro q u hq
  obtain ⟨j, i, x, rfl, h1, h2⟩ := rc_at L q u hq
  obtain ⟨ad', e, hc⟩ := h.2.2 hn
  cases e
  obtain ⟨c, _, h4, h5⟩ := hc j x h1
  rw [k31_open h4] at h5
  exact h5 i u h2
theorem prL_len (T : List Tm) : (prL T).length ≤ 5 * T.length := by
  induction T with
  | nil => simp [prL]
  | cons t T ih =>
    rw [prL_cons, List.length_append, List.length_cons]
    have := pr_len5 t
    omega
theorem pat_c (T : List Tm) (n : Nat) (hn : n = T.length) (hT : T.length ≤ 2147483647) (ho : ∀ t ∈ T, okt t) (W : World) (g cap : Nat) (h : GR W g cap (T.map gl)) :
    Calls Tryd.prog 14 #[.slice (some ⟨g, 0, none⟩) n cap] W fun e w' => e = .returned (.string (patS T)) ∧ Below W.heap.size W w' := by
  obtain ⟨k, hk⟩ := patF_ev hT ho
  have h1 := h.reads
  have h2 : (T.map gl).length ≤ cap := by
    obtain ⟨_, _, _, h2, _⟩ := h
    exact h2
  have := spec_Pattern.calls k (some ⟨g, 0, none⟩) cap (T.map gl) (patS T) W h1 h2 hk
  rwa [List.length_map, ← hn] at this
theorem set_ok {T : List Tm} (ho : ∀ t ∈ T, okt t) (m : Nat) {x : Tm} (hx : okt x) : ∀ t ∈ T.set m x, okt t := by
  intro t ht
  rcases List.mem_or_eq_of_mem_set ht with h | rfl
  · exact ho t h
  · exact hx
theorem gr_star {W : World} {g cap m : Nat} {T : List Tm} (h : GR W g cap ((T.map gl).set m ⟨true, false, 0⟩)) : GR W g cap ((T.set m .star).map gl) := by
  rw [List.map_set]
  exact h
theorem gr_one {W : World} {g cap m : Nat} {T : List Tm} {x : Tm} (h : GR W g cap (((T.set m x).map gl).set m ⟨false, true, 0⟩)) : GR W g cap ((T.set m .one).map gl) := by
  rw [List.map_set, List.set_set] at h
  rw [List.map_set]
  exact h
set_option maxRecDepth 100000 in
theorem inf31 : ∃ i, Tryd.prog.info? 31 = some i ∧ i.zero = some (.agg #[.bool false, .bool false, .int .i64 0]) ∧ i.size = 3 ∧ i.bytes = 16 := ⟨_, rfl, rfl, rfl, rfl⟩
theorem bl3 {w w1 : World} {g a b c : Nat} {x y z : Value} (h : Below w.heap.size w w1) (hg : w.heap.size ≤ g) : Below w.heap.size w (((w1.setCell ⟨g, a, none⟩ x).setCell ⟨g, b, none⟩ y).setCell ⟨g, c, none⟩ z) := ((h.setCell hg _).setCell hg _).setCell hg _
set_option maxHeartbeats 16000000 in
set_option maxRecDepth 100000 in
theorem law_c (hmt : MtC) (s p : ByteArray) (at_ : Int) (hs : s.size ≤ 140737488351232) (hp : p.size ≤ 140737488351232) (w : World) (hU : Lib.Utf8Tabs 7 8 w) :
    Calls Tryd.prog 4 #[.string s, .string p, .int .i64 at_] w fun e w' => e = .returned (.bool true) ∧ Below w.heap.size w w' := by
  have HU := Lib.hid hU
  clear hU
  by_cases z1 : 2147483647 < s.size
  · go_enter Tryd.func4, Tryd.ntmps4
    go_wp2
    go_ret
    exact ⟨rfl, Below.refl _ _⟩
  by_cases z2 : 2147483647 < p.size
  · go_enter Tryd.func4, Tryd.ntmps4
    go_wp2
    go_ret
    exact ⟨rfl, Below.refl _ _⟩
  obtain ⟨L, ok, hG, hok, hl⟩ := globs_ev p (by omega) _ 0 [] (Nat.le_refl _) (Nat.zero_le _) (Nat.le_refl _)
  have hok' : ok = true → ∃ T : List Tm, L = T.map gl ∧ ∀ t ∈ T, okt t := fun h => by
    obtain ⟨T, e1, e2⟩ := hok h
    exact ⟨T, by rw [e1]; simp, e2⟩
  have hG' : Ev (fun k => spec_Globs.f k p) (L, ok) := hG
  obtain ⟨fits, good, hF, hfit⟩ := told_ev s p (by omega) (by omega) L ok hG' hok' hl
  obtain ⟨kG, hkG⟩ := hG'.rounds
  obtain ⟨kF, hkF⟩ := hF.rounds
  have HF := Lib.hid (fun W => laws_mtTold.calls kF s p fits good W hkF)
  have HG := Lib.hid (fun W => spec_Globs.calls kG p L ok W hkG)
  have HFIT := Lib.hid hfit
  have HMT := Lib.hid hmt
  clear hG hok hok' hG' hF hfit hkG hkF hmt
  have a12 := HF
  cases fits with
  | false =>
    clear a12
    go_enter Tryd.func4, Tryd.ntmps4
    go_wp2_with (first | (go_at_call 12; refine (HF.out _).mono ?_; rintro e w1 ⟨rfl, hb1⟩; have HB1 := Lib.hid hb1; clear hb1) | (go_at_call 13; refine (HG.out _).mono ?_; rintro e w2 ⟨v0, rfl, hR, hb2⟩; have HB2 := Lib.hid (bl_step HB1.out hb2); clear hb2; clear hR))
    all_goals
      go_ret
      exact ⟨rfl, HB2.out⟩
  | true =>
    clear a12
    by_cases hneg : at_ < 0
    · go_enter Tryd.func4, Tryd.ntmps4
      go_wp2_with (first | (go_at_call 12; refine (HF.out _).mono ?_; rintro e w1 ⟨rfl, hb1⟩; have HB1 := Lib.hid hb1; clear hb1) | (go_at_call 13; refine (HG.out _).mono ?_; rintro e w2 ⟨v0, rfl, hR, hb2⟩; have HB2 := Lib.hid (bl_step HB1.out hb2); clear hb2; clear hR))
      all_goals
        go_ret
        exact ⟨rfl, HB2.out⟩
    by_cases hbig : (L.length : Int) ≤ at_
    · go_enter Tryd.func4, Tryd.ntmps4
      go_wp2_with (first | (go_at_call 12; refine (HF.out _).mono ?_; rintro e w1 ⟨rfl, hb1⟩; have HB1 := Lib.hid hb1; clear hb1) | (go_at_call 13; refine (HG.out _).mono ?_; rintro e w2 ⟨v0, rfl, hR, hb2⟩; have HB2 := Lib.hid (bl_step HB1.out hb2); clear hb2; obtain ⟨A, cA, rfl, _, _⟩ := Kd.R_reads hR; clear hR))
      all_goals
        go_ret
        exact ⟨rfl, HB2.out⟩
    obtain ⟨m, rfl⟩ : ∃ m : Nat, at_ = (m : Int) := ⟨at_.toNat, by omega⟩
    have hm : m < L.length := by omega
    obtain ⟨q1, q2, C, T, hL, hT, hsb, hC, hft⟩ := HFIT.out rfl
    obtain ⟨i31, hi31, hz31, hsz31, hby31⟩ := inf31
    have hlen : L.length ≤ 4096 := by omega
    have htl : T.length = L.length := by rw [hL, List.length_map]
    have HLT : Hid (L.length = T.length) := Lib.hid htl.symm
    have hmT : m < T.length := by omega
    have hsz : ∀ x, (patS (T.set m x)).size ≤ 1000000 := fun x => by
      have h1 := (patS_bs (T.set m x)).size
      have h2 := prL_len (T.set m x)
      rw [List.length_set] at h2
      omega
    have HW1 : Hid (∀ W, Lib.Utf8Tabs 7 8 W → Calls Tryd.prog 11 #[.string s, .string (patS (T.set m .star))] W fun e w' => e = .returned (.bool true) ∧ Below W.heap.size W w') := Lib.hid (fun W hW => HMT.out s _ C (T.set m .star) hC (set_ok hT m trivial) hsb (patS_bs _) (by omega) (hsz _) (hft.wider m hmT) W hW)
    have HW2 : Hid (T[m] ≠ .star → ∀ W, Lib.Utf8Tabs 7 8 W → Calls Tryd.prog 11 #[.string s, .string (patS (T.set m .one))] W fun e w' => e = .returned (.bool true) ∧ Below W.heap.size W w') := Lib.hid (fun hne W hW => HMT.out s _ C (T.set m .one) hC (set_ok hT m trivial) hsb (patS_bs _) (by omega) (hsz _) (hft.onely m ⟨_, List.getElem?_eq_getElem hmT, hne⟩) W hW)
    have HP1 : Hid (∀ W g cap, GR W g cap ((T.set m .star).map gl) → Calls Tryd.prog 14 #[.slice (some ⟨g, 0, none⟩) L.length cap] W fun e w' => e = .returned (.string (patS (T.set m .star))) ∧ Below W.heap.size W w') := Lib.hid (fun W g cap h => pat_c _ _ (by rw [List.length_set]; omega) (by rw [List.length_set]; omega) (set_ok hT m (x := .star) trivial) W g cap h)
    have HP2 : Hid (∀ W g cap, GR W g cap ((T.set m .one).map gl) → Calls Tryd.prog 14 #[.slice (some ⟨g, 0, none⟩) L.length cap] W fun e w' => e = .returned (.string (patS (T.set m .one))) ∧ Below W.heap.size W w') := Lib.hid (fun W g cap h => pat_c _ _ (by rw [List.length_set]; omega) (by rw [List.length_set]; omega) (set_ok hT m (x := .one) trivial) W g cap h)
    obtain ⟨P1, hP1⟩ : ∃ P, patS (T.set m .star) = P := ⟨_, rfl⟩
    obtain ⟨P2, hP2⟩ : ∃ P, patS (T.set m .one) = P := ⟨_, rfl⟩
    rw [hP1] at HW1 HP1
    rw [hP2] at HW2 HP2
    have HLg : Hid (L = T.map gl) := Lib.hid hL
    obtain ⟨bs, hbs⟩ : ∃ b, (gl T[m]).f0 = b := ⟨_, rfl⟩
    have HST : Hid (bs = false → T[m] ≠ .star) := Lib.hid (fun h e => by rw [e] at hbs; rw [← hbs] at h; cases h)
    have HRC : Hid ((rc L)[m * 3]? = some (.bool bs)) := Lib.hid (by
      have := (rc_get L m (gl T[m]) (by rw [hL, List.getElem?_map, List.getElem?_eq_getElem hmT]; rfl)).1
      rw [hbs] at this
      exact this)
    clear hL hT hsb hC hft HFIT hl z1 z2 hneg hbig hs hp hsz hP1 hP2 htl hbs
    have hn0 : 0 < L.length := by omega
    go_enter Tryd.func4, Tryd.ntmps4
    go_wp2_with (first | (go_at_call 12; refine (HF.out _).mono ?_; rintro e w1 ⟨rfl, hb1⟩; have HB1 := Lib.hid hb1; clear hb1) | (go_at_call 13; refine (HG.out _).mono ?_; rintro e w2 ⟨v0, rfl, hR, hb2⟩; have HB2 := Lib.hid (bl_step HB1.out hb2); clear hb2; obtain ⟨A, cA, rfl, hcA, hCd⟩ := Kd.R_reads hR; obtain ⟨ad, rfl, _⟩ := hCd.2.2 hn0; have HCD := Lib.hid hCd; clear hR hCd) | (at_builtin; refine wpList_append_grows _ rfl (.tmp 43) (.tmp 44) 27 rfl 31 i31 (.agg #[.bool false, .bool false, .int .i64 0]) 3 16 Tryd.underlying27 hi31 hz31 hsz31 hby31 rfl (by decide) (some ⟨w2.heap.size, 0, none⟩) 0 0 [] rfl (fun h => by cases h) rfl (fun b _ j u hj => by simp at hj) ad L.length cA (rc L) rfl (rc_len L) (c_cells (Kd.C_alloc HCD.out _) hn0) (rc_one L) (by omega) (by unfold maxLen; omega) (by omega) ?_; intro v3 w3 hown hgrow; simp only [Nat.zero_add, List.nil_append] at hown; obtain ⟨g3, cap3, rfl, hg3, hcap3, hGR⟩ := gr_of_own hown hn0; obtain ⟨⟨x0, c0⟩, ⟨x1, c1⟩, ⟨x2, c2⟩, fz⟩ := hGR.cells hm; have f0 := fz (m * 3); have f1 := fz (m * 3 + 1); have f2 := fz (m * 3 + 2); clear fz; have HB3 := Lib.hid (bl_step (HB2.out.alloc HB2.out.size (.cells #[] 31)) ((Below.refl _ _).grown hgrow (Nat.le_refl _) (fun _ h => by cases h))); have HB23 := Lib.hid (bl_step ((Below.refl w2.heap.size w2).alloc (Nat.le_refl _) (.cells #[] 31)) ((Below.refl _ _).grown hgrow (Nat.le_refl _) (fun _ h => by cases h))); have HG3 : Hid (GR w3 g3 cap3 (T.map gl)) := Lib.hid (by rw [← HLg.out]; exact hGR); have hg2 : w2.heap.size ≤ g3 := (by have := hg3; simp at this; omega); have hgw : w.heap.size ≤ g3 := Nat.le_trans HB2.out.size hg2; have HGS : Hid (GR (((w3.setCell ⟨g3, m * 3, none⟩ (.bool true)).setCell ⟨g3, m * 3 + 1, none⟩ (.bool false)).setCell ⟨g3, m * 3 + 2, none⟩ (.int .i64 0)) g3 cap3 ((T.set m .star).map gl)) := Lib.hid (gr_star (HG3.out.put (by rw [List.length_map, ← HLT.out]; exact hm) ⟨true, false, 0⟩)); have HPA := Lib.hid (HP1.out (((w3.setCell ⟨g3, m * 3, none⟩ (.bool true)).setCell ⟨g3, m * 3 + 1, none⟩ (.bool false)).setCell ⟨g3, m * 3 + 2, none⟩ (.int .i64 0)) g3 cap3 HGS.out); have HBA : Hid (Below w.heap.size w (((w3.setCell ⟨g3, m * 3, none⟩ (.bool true)).setCell ⟨g3, m * 3 + 1, none⟩ (.bool false)).setCell ⟨g3, m * 3 + 2, none⟩ (.int .i64 0))) := Lib.hid (bl3 HB3.out hgw); have HBB : Hid (Below w2.heap.size w2 (((w3.setCell ⟨g3, m * 3, none⟩ (.bool true)).setCell ⟨g3, m * 3 + 1, none⟩ (.bool false)).setCell ⟨g3, m * 3 + 2, none⟩ (.int .i64 0))) := Lib.hid (bl3 HB23.out hg2); clear hg3 hGR hown hgrow) | (go_at_call 14; refine HPA.out.mono ?_; rintro e w4 ⟨rfl, hb4⟩; have HB4 := Lib.hid (bl_step HBA.out hb4); have HB24 := Lib.hid (bl_step HBB.out hb4); have HG4 := Lib.hid (HGS.out.below hb4); clear hb4 HPA) | (go_at_call 11; refine (HW1.out _ (tabs_below HU.out HB4.out)).mono ?_; rintro e w5 ⟨rfl, hb5⟩; have HB5 := Lib.hid (bl_step HB4.out hb5); have HB25 := Lib.hid (bl_step HB24.out hb5); have HG5 := Lib.hid (HG4.out.below hb5); clear hb5 HW1; obtain ⟨⟨y0, d0⟩, ⟨y1, d1⟩, ⟨y2, d2⟩, fz⟩ := HG5.out.cells (m := m) (by rw [List.length_map, List.length_set, ← HLT.out]; exact hm); have k0 := fz (m * 3); have k1 := fz (m * 3 + 1); have k2 := fz (m * 3 + 2); clear fz; have HGT : Hid (GR (((w5.setCell ⟨g3, m * 3, none⟩ (.bool false)).setCell ⟨g3, m * 3 + 1, none⟩ (.bool true)).setCell ⟨g3, m * 3 + 2, none⟩ (.int .i64 0)) g3 cap3 ((T.set m .one).map gl)) := Lib.hid (gr_one (HG5.out.put (by rw [List.length_map, List.length_set, ← HLT.out]; exact hm) ⟨false, true, 0⟩)); have HPB := Lib.hid (HP2.out (((w5.setCell ⟨g3, m * 3, none⟩ (.bool false)).setCell ⟨g3, m * 3 + 1, none⟩ (.bool true)).setCell ⟨g3, m * 3 + 2, none⟩ (.int .i64 0)) g3 cap3 HGT.out); have HBC : Hid (Below w.heap.size w (((w5.setCell ⟨g3, m * 3, none⟩ (.bool false)).setCell ⟨g3, m * 3 + 1, none⟩ (.bool true)).setCell ⟨g3, m * 3 + 2, none⟩ (.int .i64 0))) := Lib.hid (bl3 HB5.out hgw); have hcx := c_cells (Kd.C_below HCD.out (bl3 (a := m * 3) (b := m * 3 + 1) (c := m * 3 + 2) (x := .bool false) (y := .bool true) (z := .int .i64 0) HB25.out hg2)) hn0 _ _ HRC.out; have hcy := hcx; simp only [Addr.add] at hcy) | (go_at_call 14; refine HPB.out.mono ?_; rintro e w6 ⟨rfl, hb6⟩; have HB6 := Lib.hid (bl_step HBC.out hb6); clear hb6 HPB) | (go_at_call 11; refine (HW2.out (HST.out (Bool.eq_false_iff.2 (by assumption))) _ (tabs_below HU.out HB6.out)).mono ?_; rintro e w7 ⟨rfl, hb7⟩; have HB7 := Lib.hid (bl_step HB6.out hb7); clear hb7))
    all_goals
      go_ret
      exact ⟨rfl, by first | exact HB7.out | exact HBC.out⟩
theorem accept_eq : Rows.laid_unicode_utf8_acceptRanges = Lib.acceptData := by kernel_rfl
theorem utf8_tabs {w : World} {l : List (String × DataW Unit)} (hp : (l.all fun x => x.2.handleName?.isNone) = true) (h1 : ("unicode/utf8.first", Rows.laid_unicode_utf8_first) ∈ l) (h2 : ("unicode/utf8.acceptRanges", Rows.laid_unicode_utf8_acceptRanges) ∈ l)
    (hL : laidMetH Tryd.prog l w) : Lib.Utf8Tabs 7 8 w := by
  rw [MakeChecks.laidMetH_plain _ _ _ hp] at hL
  have r1 := Lib.laidMet.reads hL h1
  have r2 := Lib.laidMet.reads hL h2
  rw [show Rows.laid_unicode_utf8_first = Lib.firstData from Pinned.utf8First_eq] at r1
  rw [accept_eq] at r2
  exact utf8Tabs_of_reads (ρ := Tryd.lays197_ren) { Tryd.lays197 with } ⟨by kernel_rfl, by kernel_rfl, by kernel_rfl, by kernel_rfl, by kernel_rfl, by kernel_rfl, by kernel_rfl⟩ r1 r2
end Go.Proofs.YtphpjboljlkdkaaDoor.Mt
