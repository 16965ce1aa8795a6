/- The row of FnJpSetCommute, over the walk of this session. -/
import Derived.Test.YtgbliniamkpocaaDoorRows
import Derived.Test.YtgbliniamkpocaaDoorCards
import Derived.Test.YtgbliniamkpocaaDoorTie
import Derived.LaidMore
import Derived.SliceStrings
import Derived.Lay
import Derived.SevenTiedAt
import Derived.Stop.Joined
import Derived.Test.YtgbliniamkpocaaDoorG21
import Derived.WalkKit
import Derived.ProofKit
import Derived.OpenShut
import Derived.ShutString
import Derived.ChangeOld
import Derived.Below
import Derived.SizedLaws
namespace Go.Proofs.YtgbliniamkpocaaDoor.fnJpSetCommute
open Go.ChangeShapes Go.WideShapes Go.ChangeAt Go.RowKit
open Go.ChangeMaps (open_string shut_string)
set_option linter.unusedVariables false
theorem own : ownKnob Tryd.prog.godebug = none := by kernel_rfl
theorem laidOut : laidOutB Tryd.prog = true := by kernel_rfl
def IsRow (k : IntKind) (w : World) (a : Option Addr) (len cap : Nat) (zs : List Int) : Prop :=
  (a = none ∧ len = 0 ∧ cap = 0 ∧ zs = []) ∨
  ∃ x, a = some x ∧ len ≤ cap ∧ cap ≤ maxLen ∧ zs.length = cap ∧ (∀ i, i < zs.length → w.cell? (x.add i) = some (.int k (zs.getD i 0))) ∧ ∀ n ∈ zs, (Lit.int k n).wf = true
set_option maxRecDepth 100000 in
theorem lifted (os : Os) (started : os.Started) (H : Type) (enc : TypeId × Value → H) :
    ReturnsInHanded {} Tryd.checked os 8 .any (fun w args => (Rows.fnJpSetCommuteSpec.pre enc Tryd.prog Tryd.f8 Rows.fnJpSetCommuteRow.domain false w args ∧ laidMetH Tryd.prog Rows.fnJpSetCommuteRow.laid w) ∧ sizedMet enc Tryd.prog Tryd.f8 (OpenSpec.ofChange Rows.fnJpSetCommuteSpec) false w args)
      (Rows.fnJpSetCommuteSpec.post enc Tryd.prog Tryd.f8 false true false false) := by
  refine returnsInHanded_of_change_and (C := Tryd.checked) (X := fun w _ => laidMetH Tryd.prog Rows.fnJpSetCommuteRow.laid w) (fun _ _ _ hh h => h.of_heap hh) own started (by kernel_rfl) Tryd.func8
    (ChangeSpec.witness_shaped (enc := enc) (C := Tryd.checked) (os := os) (X := fun w _ => laidMetH Tryd.prog Rows.fnJpSetCommuteRow.laid w) false (World.laidAll Tryd.prog os Rows.fnJpSetCommuteRow.laid) #[.string ByteArray.empty, .string ByteArray.empty, .string ByteArray.empty, .slice none 0 0, .slice none 0 0] 8 (World.laidAll_os _ _ _)
      (World.shaped_of_ZipB (by kernel_rfl) (by kernel_rfl)) (by kernel_rfl) (by kernel_rfl) (by kernel_rfl)
      (by rw [MakeChecks.laidMetH_plain _ _ _ (by kernel_rfl)]; exact laidMet_laidAll _ (by kernel_rfl) (by kernel_rfl))) ?_
  intro W base args ds gs before hval0 hW hcnd hsz0 hL _
  have hsz : (DataW.weightsEach Tryd.prog (Tryd.f8.params.toList ++ Rows.fnJpSetCommuteSpec.plain.varTypes Tryd.prog) (ds ++ gs)).all (· ≤ reachBytes) = true := hsz0
  have hval : ∀ (j : Nat) t v, Tryd.f8.params[j]? = some t → args[j]? = some v → Value.okWide Tryd.prog W .any base t v := hval0
  have hW' := hW
  obtain ⟨p, q, hA0, hV, rfl, hfz, hnd⟩ := hW
  have hA : DataW.TrodAll enc Tryd.prog W 0 (fun _ => true) true Tryd.f8.params.toList args.toList ds p := hA0
  rw [Tryd.params8] at hA hval hsz
  obtain ⟨v0, vs0, d0, ds0, p0, q0, hargs, rfl, rfl, h0, r0⟩ := trodAll_cons hA
  obtain ⟨v1, vs1, d1, ds1, p1, q1, rfl, rfl, rfl, h1, r1⟩ := trodAll_cons r0
  obtain ⟨v2, vs2, d2, ds2, p2, q2, rfl, rfl, rfl, h2, r2⟩ := trodAll_cons r1
  obtain ⟨v3, vs3, d3, ds3, p3, q3, rfl, rfl, rfl, h3, r3⟩ := trodAll_cons r2
  obtain ⟨v4, vs4, d4, ds4, p4, q4, rfl, rfl, rfl, h4, r4⟩ := trodAll_cons r3
  obtain ⟨rfl, rfl, rfl⟩ := trodAll_nil r4
  obtain rfl : args = #[v0, v1, v2, v3, v4] := by cases args; simp_all
  obtain ⟨rfl, rfl⟩ := trodVars_none hV
  obtain ⟨a0, rfl, rfl, rfl, y0⟩ := open_string Tryd.underlying9 (hval 0 9 v0 rfl rfl) h0
  have w0 : a0.size ≤ 140737488351232 := by
    have z := sized_string hsz (j := 0) (t := 9) rfl rfl
    rw [Array.length_toList] at z
    exact z
  obtain ⟨a1, rfl, rfl, rfl, y1⟩ := open_string Tryd.underlying9 (hval 1 9 v1 rfl rfl) h1
  have w1 : a1.size ≤ 140737488351232 := by
    have z := sized_string hsz (j := 1) (t := 9) rfl rfl
    rw [Array.length_toList] at z
    exact z
  obtain ⟨a2, rfl, rfl, rfl, y2⟩ := open_string Tryd.underlying9 (hval 2 9 v2 rfl rfl) h2
  have w2 : a2.size ≤ 140737488351232 := by
    have z := sized_string hsz (j := 2) (t := 9) rfl rfl
    rw [Array.length_toList] at z
    exact z
  obtain ⟨a3, len3, cap3, rfl⟩ := okWide_slice Tryd.underlying26 (hval 3 26 v3 rfl rfl)
  have k3 := h3
  have lt3 : ∀ x ∈ p3, x.block < W.heap.size := by obtain ⟨m, hm⟩ := k3; exact DataW.trod_lt m _ _ _ hm
  obtain ⟨z3, hz3, y3, w3⟩ : ∃ ks : List ByteArray, ks.length = len3 ∧ len3 ≤ cap3 ∧ Jp.KeysR W a3 ks := by
    obtain ⟨fuel, hf⟩ := h3
    rcases open_strings Tryd.underlying26 Tryd.underlying9 (by kernel_rfl) hf with ⟨hcs, _⟩ | ⟨x, l, c, ss, hcs, _, hl, hm, hz, _, hcell, _⟩
    · simp [Value.cells] at hcs
      obtain ⟨rfl, rfl, rfl⟩ := hcs
      exact ⟨[], rfl, Nat.le_refl _, rfl, by simp, fun h => absurd h (Nat.lt_irrefl 0)⟩
    · simp [Value.cells] at hcs
      obtain ⟨rfl, rfl, rfl⟩ := hcs
      have hsl : ss.length = cap3 := by simpa using hz
      have htl : (ss.take len3).length = len3 := by rw [List.length_take]; omega
      refine ⟨ss.take len3, htl, hl, rfl, by unfold maxLen at hm; omega, fun hn => ⟨_, rfl, fun j hj => ?_⟩⟩
      rw [htl] at hj
      rw [hcell j (by omega)]
      simp [List.getD, List.getElem?_take, hj]
  subst hz3
  obtain ⟨a4, len4, cap4, rfl⟩ := okWide_slice Tryd.underlying26 (hval 4 26 v4 rfl rfl)
  have k4 := h4
  have lt4 : ∀ x ∈ p4, x.block < W.heap.size := by obtain ⟨m, hm⟩ := k4; exact DataW.trod_lt m _ _ _ hm
  obtain ⟨z4, hz4, y4, w4⟩ : ∃ ks : List ByteArray, ks.length = len4 ∧ len4 ≤ cap4 ∧ Jp.KeysR W a4 ks := by
    obtain ⟨fuel, hf⟩ := h4
    rcases open_strings Tryd.underlying26 Tryd.underlying9 (by kernel_rfl) hf with ⟨hcs, _⟩ | ⟨x, l, c, ss, hcs, _, hl, hm, hz, _, hcell, _⟩
    · simp [Value.cells] at hcs
      obtain ⟨rfl, rfl, rfl⟩ := hcs
      exact ⟨[], rfl, Nat.le_refl _, rfl, by simp, fun h => absurd h (Nat.lt_irrefl 0)⟩
    · simp [Value.cells] at hcs
      obtain ⟨rfl, rfl, rfl⟩ := hcs
      have hsl : ss.length = cap4 := by simpa using hz
      have htl : (ss.take len4).length = len4 := by rw [List.length_take]; omega
      refine ⟨ss.take len4, htl, hl, rfl, by unfold maxLen at hm; omega, fun hn => ⟨_, rfl, fun j hj => ?_⟩⟩
      rw [htl] at hj
      rw [hcell j (by omega)]
      simp [List.getD, List.getElem?_take, hj]
  subst hz4
  clear hA0 hval0 hsz0 hsz
  refine (Jp.sc_walk a0 a1 a2 a3 cap3 z3 a4 cap4 z4 W w0 w1 w2 w3 y3 w4 y4 hL).mono fun e W' ⟨he, bel⟩ => ?_
  subst he
  exact ⟨_, rfl, _, _, _, [], _, [], hW', trodAll_mk1 (shut_bool Tryd.underlying4 _), (trodAll_cons_mk (shut_string Tryd.underlying9 y0) (trodAll_cons_mk (shut_string Tryd.underlying9 y1) (trodAll_cons_mk (shut_string Tryd.underlying9 y2) (trodAll_cons_mk (Below.trod laidOut (by kernel_rfl) (of_decide_eq_true (by kernel_rfl)) k3 bel lt3) (trodAll_cons_mk (Below.trod laidOut (by kernel_rfl) (of_decide_eq_true (by kernel_rfl)) k4 bel lt4) trodAll_mk0))))), rfl, bel.frame _, fun h => by cases h⟩
theorem over : Rows.fnJpSetCommuteRow.holds Tryd.pinned (OpenSpec.ofChange Rows.fnJpSetCommuteSpec) :=
  OpenClaim.holds_of_wide 8 Tryd.f8 rfl rfl rfl rfl rfl rfl rfl ⟨rfl, rfl, rfl, rfl, rfl⟩ rfl rfl rfl rfl rfl (by kernel_rfl) Tryd.func8 (by kernel_rfl)
    (of_decide_eq_true (by kernel_rfl)) (by unfold Func.isWrapper; first | (rw [if_pos (by decide +kernel)]; kernel_rfl) | (rw [if_neg (by decide +kernel)]; exact ⟨rfl, rfl⟩))
    (fun os started H enc _ => lifted os started H enc)
theorem card_over : Rows.FnJpSetCommuteCardSaid :=
  Claim7.holds_tied_plain_at .later [] [.data, .data, .data, .sentinel, .sentinel, .data, .data, .sentinel, .sentinel, .sentinel, .sentinel, .sentinel, .sentinel, .sentinel] true (true, "160f44d64e66052b19b028ad38ee80bbe6a2991b777d839a98894af91dad02f3") true over (fun _ h => by cases h) (by kernel_rfl) (fun _ h => by cases h) fnJpSetCommute_row_tie rfl ⟨rfl, rfl⟩ (by kernel_rfl) rfl
    (fun f fn hf hfn => by
      obtain rfl : f = 8 := Option.some.inj ((show Tryd.prog.funcNamed "pub-tetrapla/laws.FnJpSetCommute" = some 8 by kernel_rfl).symm.trans hf) |>.symm
      obtain rfl : fn = Tryd.f8 := (Option.some.inj (Tryd.func8.symm.trans hfn)).symm
      exact ⟨by kernel_rfl, fun j t ht => by
        rw [Tryd.params8] at ht
        have hm : t ∈ [9, 9, 9, 26, 26] := by simpa using Array.mem_of_getElem? ht
        have hall : ([9, 9, 9, 26, 26].all fun u => !Tryd.prog.wantsStandIn u) = true := by kernel_rfl
        exact (show Tryd.prog.wantsStandIn t = false by simpa using List.all_eq_true.1 hall t hm)⟩)
    (by kernel_rfl)
#print axioms card_over
end Go.Proofs.YtgbliniamkpocaaDoor.fnJpSetCommute
namespace Go.Proofs.YtgbliniamkpocaaDoor
/-- The card, under a short name, for the claim. -/
theorem fnJpSetCommute_card : Rows.FnJpSetCommuteCardSaid := fnJpSetCommute.card_over
end Go.Proofs.YtgbliniamkpocaaDoor
