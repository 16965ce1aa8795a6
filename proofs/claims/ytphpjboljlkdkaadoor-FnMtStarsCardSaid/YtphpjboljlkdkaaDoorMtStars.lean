/- A pattern of one star or more matches every text. No condition. -/
import Derived.Test.YtphpjboljlkdkaaDoorShelfMt
import Derived.Test.YtphpjboljlkdkaaDoorKit
import Derived.Test.YtphpjboljlkdkaaDoorRows
import Derived.Lib.LaidU8
import Derived.PinnedBridge
import Derived.MakeChecks
import Derived.WalkKit
import Derived.WalkSpells
import Derived.WalkLawsBesides
import Derived.OpenShut
import Derived.Lib.Hide
import Derived.Lib.ConvBytes
import Derived.Deep.LoopGhost
import Derived.LoopTactic
namespace Go.Proofs.YtphpjboljlkdkaaDoor
open Go.RowKit Go.Proofs.YtphpjboljlkdkaaDoorW.PrintWords

theorem star_at {q : ByteArray} {m : Nat} (h : q.data.toList = List.replicate m 42) : q.size = m := by
  rw [Lib.size_eq, h, List.length_replicate]
theorem star_get {q : ByteArray} {m : Nat} (h : q.data.toList = List.replicate m 42) (i : Nat) (hi : i < q.size) : q[i] = 42 := by
  have h1 : q.data.toList[i]? = some 42 := by
    rw [h, List.getElem?_replicate, if_pos (by rw [← star_at h]; exact hi)]
  have h2 : q.data.toList[i]? = some q[i] := by
    rw [Array.getElem?_toList, Array.getElem?_eq_getElem hi]
    rfl
  rw [h2] at h1
  exact Option.some.inj h1
theorem star_tail {q : ByteArray} {m : Nat} (h : q.data.toList = List.replicate (m + 1) 42) : (q.extract 1 q.size).data.toList = List.replicate m 42 := by
  have := star_at h
  rw [ByteArray.data_extract, Array.toList_extract, h]
  simp [this]

set_option maxHeartbeats 4000000 in
set_option maxRecDepth 100000 in
theorem match_stars (s q : ByteArray) (m : Nat) (hm : 1 ≤ m) (hm2 : m ≤ 4096) (hq : q.data.toList = List.replicate m 42) (w : World) (hT : Lib.Utf8Tabs 7 8 w) :
    Calls Tryd.prog 81 #[.string s, .string q, .int .i64 0, .pointer none, .int .i64 (-1), .bool false] w fun e w' => e = .returned (.int .i64 1) ∧ Below w.heap.size w w' := by
  have hz := star_at hq
  have hz1 : 1 ≤ q.size := by omega
  have hz2 : q.size ≤ 4096 := by omega
  have g0 := star_get hq 0 hz1
  have HQ := Lib.hid hq
  have HT := Lib.hid hT
  have HZ := Lib.hid hz
  clear hq hT hz
  go_enter Tryd.func81, Tryd.ntmps81
  go_wp2_with fail
  refine wp_loop_rounds 1 ?_
  rw [rounds_succ]
  go_wp2_with (go_at_call 94; refine (Tryd.utf8_DecodeRuneInString _ _ HT.out).mono ?_; rintro e w1 ⟨rfl, hb1⟩)
  all_goals
    go_loop [1] (fun v => ∃ (p : ByteArray) (j : Nat), 1 ≤ j ∧ j ≤ 4096 ∧ p.data.toList = List.replicate j 42 ∧ v = .string p) (fun v => match v with | .string p => p.size | _ => 0)
    case atStart => exact ⟨q, m, hm, hm2, HQ.out, rfl⟩
    case round =>
      obtain ⟨p, j, hj1, hj2, hp, rfl⟩ := hrel
      have hzp := star_at hp
      have hp1 : 1 ≤ p.size := by omega
      have hp2 : p.size ≤ 4096 := by omega
      by_cases hlt : 1 < p.size
      · have g1 := star_get hp 1 hlt
        have HP := Lib.hid hp
        have HZP := Lib.hid hzp
        clear hp hzp
        go_wp2
        go_round
        case rel =>
          obtain ⟨j, rfl⟩ : ∃ i, j = i + 1 := ⟨j - 1, by omega⟩
          have := HZP.out
          exact ⟨p.extract 1 p.size, j, by omega, by omega, star_tail HP.out, rfl⟩
        case measure => first | omega | (show (p.extract 1 p.size).size < p.size; rw [ByteArray.size_extract]; omega)
      · have hone : p.size = 1 := by omega
        clear hlt hp hzp hp1 hp2
        go_wp2
        go_ret
        exact ⟨rfl, by first | assumption | exact Below.refl _ _⟩

theorem lt_of_cell {w : World} {b o : Nat} {v : Value} (h : w.cell? ⟨b, o, none⟩ = some v) : b < w.heap.size := by
  refine Nat.lt_of_not_le fun hle => ?_
  simp [World.cell?, Array.getElem?_eq_none hle] at h
theorem tabs_below {g3 g4 : Nat} {w w1 : World} (h : Lib.Utf8Tabs g3 g4 w) (hb : Below w.heap.size w w1) : Lib.Utf8Tabs g3 g4 w1 :=
  ⟨fun c hc => by rw [hb.cell (p := ⟨g3, c, none⟩) (lt_of_cell (h.1 c hc))]; exact h.1 c hc,
   fun i hi => by rw [hb.cell (p := ⟨g4, 2 * i, none⟩) (lt_of_cell (h.2 i hi).1), hb.cell (p := ⟨g4, 2 * i + 1, none⟩) (lt_of_cell (h.2 i hi).2)]; exact h.2 i hi⟩
theorem bb_of_own {w : World} {base g n cap : Nat} {e : TypeId} {l : List Int} (h : w.ownsRow base e 1 (.slice (some ⟨g, 0, none⟩) n cap) n (l.map (Value.int .u8))) : Kit.BB w g cap l := by
  obtain ⟨hl, h | ⟨g', cap', cur, hv, hg, hb, hnc, hm, hsz, ht⟩⟩ := h
  · simp at h
  · simp only [Value.slice.injEq, Option.some.injEq, Addr.mk.injEq, and_true, true_and] at hv
    obtain ⟨rfl, rfl⟩ := hv
    rw [List.length_map] at hl
    refine ⟨cur, e, 0, 0, hb, by omega, .inl rfl, by omega, fun j hj => ?_⟩
    have := congrArg (·[j]?) ht
    simp only [List.getElem?_take, List.getElem?_map] at this
    rw [if_pos (by omega), Array.getElem?_toList] at this
    rw [this]
    simp [List.getD, hj]
theorem stars_set (k n : Nat) (h : k < n) : (List.replicate k (42 : Int) ++ List.replicate (n - k) 0).set k 42 = List.replicate (k + 1) 42 ++ List.replicate (n - (k + 1)) 0 := by
  obtain ⟨d, rfl⟩ : ∃ d, n = k + 1 + d := ⟨n - (k + 1), by omega⟩
  rw [show k + 1 + d - k = d + 1 by omega, show k + 1 + d - (k + 1) = d by omega]
  rw [List.set_append_right _ _ (by simp), List.length_replicate, Nat.sub_self, List.replicate_succ (n := d), List.set_cons_zero, List.replicate_succ' (n := k)]
  simp
theorem stars_str (n : Nat) : (strOfNums (List.replicate n (42 : Int))).data.toList = List.replicate n 42 := by
  simp [strOfNums]

theorem star_eq {q : ByteArray} (h : q.data.toList = List.replicate 1 42) : q = ⟨#[42]⟩ := by
  apply ByteArray.ext
  apply Array.ext'
  rw [h]
  rfl
theorem star_ne {q : ByteArray} {m : Nat} (hm : 2 ≤ m) (h : q.data.toList = List.replicate m 42) : q ≠ ⟨#[42]⟩ := fun e => by
  rw [e] at h
  have := congrArg List.length h
  simp at this
  omega
set_option maxHeartbeats 4000000 in
set_option maxRecDepth 100000 in
theorem match0_stars (s q : ByteArray) (m : Nat) (hm : 1 ≤ m) (hm2 : m ≤ 4096) (hq : q.data.toList = List.replicate m 42) (w : World) (hT : Lib.Utf8Tabs 7 8 w) :
    Calls Tryd.prog 52 #[.string s, .string q, .bool false] w fun e w' => e = .returned (.bool true) ∧ Below w.heap.size w w' := by
  by_cases h1 : m = 1
  · subst h1
    obtain rfl := star_eq hq
    go_enter Tryd.func52, Tryd.ntmps52
    go_wp2_with fail
    go_ret
    exact ⟨rfl, Below.refl _ _⟩
  · have hne := star_ne (by omega) hq
    have HQ := Lib.hid hq
    have HT := Lib.hid hT
    clear hq hT
    go_enter Tryd.func52, Tryd.ntmps52
    go_wp2_with (go_at_call 81; refine (match_stars _ _ m hm hm2 HQ.out _ HT.out).mono ?_; rintro e w1 ⟨rfl, hb1⟩)
    all_goals
      go_ret
      exact ⟨rfl, by first | assumption | exact Below.refl _ _⟩
set_option maxHeartbeats 4000000 in
theorem match_all (s q : ByteArray) (m : Nat) (hm : 1 ≤ m) (hm2 : m ≤ 4096) (hq : q.data.toList = List.replicate m 42) (w : World) (hT : Lib.Utf8Tabs 7 8 w) :
    Calls Tryd.prog 32 #[.string s, .string q] w fun e w' => e = .returned (.bool true) ∧ Below w.heap.size w w' := by
  have HQ := Lib.hid hq
  have HT := Lib.hid hT
  clear hq hT
  go_enter Tryd.func32, Tryd.ntmps32
  go_wp2_with (go_at_call 52; refine (match0_stars _ _ m hm hm2 HQ.out _ HT.out).mono ?_; rintro e w1 ⟨rfl, hb1⟩)
  go_ret
  exact ⟨rfl, hb1⟩
set_option maxHeartbeats 4000000 in
theorem mtMatch_stars (s q : ByteArray) (m : Nat) (hm : 1 ≤ m) (hm2 : m ≤ 4096) (hq : q.data.toList = List.replicate m 42) (w : World) (hT : Lib.Utf8Tabs 7 8 w) :
    Calls Tryd.prog 11 #[.string s, .string q] w fun e w' => e = .returned (.bool true) ∧ Below w.heap.size w w' := by
  have HQ := Lib.hid hq
  have HT := Lib.hid hT
  clear hq hT
  go_enter Tryd.func11, Tryd.ntmps11
  go_wp2_with (go_at_call 32; refine (match_all _ _ m hm hm2 HQ.out _ HT.out).mono ?_; rintro e w1 ⟨rfl, hb1⟩)
  go_ret
  exact ⟨rfl, hb1⟩

set_option maxHeartbeats 4000000 in
set_option maxRecDepth 100000 in
theorem law_walk (s : ByteArray) (n : Int) (w : World) (hs : s.size ≤ 140737488351232) (hT : Lib.Utf8Tabs 7 8 w) :
    Calls Tryd.prog 3 #[.string s, .int .i64 n] w fun e w' => e = .returned (.bool true) ∧ Below w.heap.size w w' := by
  have HT := Lib.hid hT
  clear hT
  by_cases h1 : 2147483647 < s.size
  · go_enter Tryd.func3, Tryd.ntmps3
    go_wp2_with fail
    go_ret
    exact ⟨rfl, Below.refl _ _⟩
  by_cases h2 : n < 1
  · go_enter Tryd.func3, Tryd.ntmps3
    go_wp2_with fail
    go_ret
    exact ⟨rfl, Below.refl _ _⟩
  by_cases h3 : 4096 < n
  · go_enter Tryd.func3, Tryd.ntmps3
    go_wp2_with fail
    go_ret
    exact ⟨rfl, Below.refl _ _⟩
  obtain ⟨m, rfl⟩ : ∃ m : Nat, n = (m : Int) := ⟨n.toNat, by omega⟩
  obtain ⟨i5, hi5, hz5, hsz5, hby5⟩ : ∃ i, Tryd.prog.info? 5 = some i ∧ i.zero = some (.int .u8 0) ∧ i.size = 1 ∧ i.bytes = 1 := ⟨_, rfl, rfl, rfl, rfl⟩
  have hm1 : 1 ≤ m := by omega
  have hm2 : m ≤ 4096 := by omega
  go_enter Tryd.func3, Tryd.ntmps3
  go_wp2_with (refine wpList_make_full _ rfl _ _ 22 rfl w.heap.size 5 i5 (.int .u8 0) 1 Tryd.underlying22 hi5 hz5 hsz5 .i64 .i64 m m m rfl rfl rfl rfl (by rw [hby5]; omega) (by unfold maxLen; omega) (Nat.le_refl _) ?_; intro w1 hown hgrow)
  have hbb : Kit.BB w1 w.heap.size m (List.replicate m 0) := bb_of_own (n := m) (by
    have e : (List.replicate m (0 : Int)).map (Value.int .u8) = (madeCells (Value.int .u8 0).cells (m * 1)).toList := by
      rw [show (Value.int .u8 0).cells = #[.int .u8 0] from rfl, toList_madeCells_one]
      simp
    rw [e]
    exact hown)
  have hb1 : Below w.heap.size w w1 := (Below.refl _ _).grown hgrow (Nat.le_refl _) (fun _ h => by cases h)
  have HBB := Lib.hid hbb
  clear hown hgrow hbb
  have HB1 := Lib.hid hb1
  clear hb1 hi5 hz5 hsz5 hby5
  go_loopw [6, 20] (fun _ i wr => ∃ k : Nat, k ≤ m ∧ i = .int .i64 k ∧ Kit.BB wr w.heap.size m (List.replicate k 42 ++ List.replicate (m - k) 0) ∧ Below w.heap.size w wr) (fun _ i _ => m - (intOf i).toNat)
  case atStart => exact ⟨0, by omega, rfl, by simpa using HBB.out, HB1.out⟩
  case round =>
    obtain ⟨k, hk, rfl, hbb, hb⟩ := hrel
    have HBB := Lib.hid hbb
    have HB := Lib.hid hb
    by_cases hlt : k < m
    · have hc := hbb.cell k (by simp; omega)
      have hf := hbb.frozen k hlt
      clear hbb hb
      go_wp2_with fail
      go_roundw
      case rel =>
        refine ⟨k + 1, by omega, by go_num, ?_, ?_⟩
        · have := HBB.out.set k (by simp; omega) 42
          rwa [stars_set k m hlt] at this
        · exact HB.out.setCell (Nat.le_refl _) _
      case measure => simp [intOf]; omega
    · obtain rfl : k = m := by omega
      have hcv : ((convert 22 9 (.slice (some ⟨w.heap.size, 0, none⟩) k k)).run Tryd.prog wr) = .ok (.string (strOfNums (List.replicate k 42))) wr := by
        have hb2 : Kit.BB wr w.heap.size k (List.replicate k 42) := by simpa using HBB.out
        have := hb2.str (P := Tryd.prog) (src := 22) (dst := 9) (e := 5) (c := k) Tryd.underlying22 Tryd.underlying5 Tryd.underlying9 (by simp; omega)
        simpa using this
      have HU : Lib.Utf8Tabs 7 8 wr := tabs_below HT.out hb
      have HU' := Lib.hid HU
      clear hbb hb HU
      go_wp2_with (go_at_call 11; refine (mtMatch_stars _ _ k hm1 hm2 (stars_str k) _ HU'.out).mono ?_; rintro e w2 ⟨rfl, hb2⟩)
      go_ret
      exact ⟨rfl, HB.out.trans (hb2.mono HB.out.size)⟩
theorem accept_eq : Rows.laid_unicode_utf8_acceptRanges = Lib.acceptData := by kernel_rfl
theorem utf8_tabs {w : World} {l : List (String × DataW Unit)} (hp : (l.all fun x => x.2.handleName?.isNone) = true) (h1 : ("unicode/utf8.first", Rows.laid_unicode_utf8_first) ∈ l) (h2 : ("unicode/utf8.acceptRanges", Rows.laid_unicode_utf8_acceptRanges) ∈ l)
    (hL : laidMetH Tryd.prog l w) : Lib.Utf8Tabs 7 8 w := by
  rw [MakeChecks.laidMetH_plain _ _ _ hp] at hL
  have r1 := Lib.laidMet.reads hL h1
  have r2 := Lib.laidMet.reads hL h2
  rw [show Rows.laid_unicode_utf8_first = Lib.firstData from Pinned.utf8First_eq] at r1
  rw [accept_eq] at r2
  exact utf8Tabs_of_reads (ρ := Tryd.lays197_ren) { Tryd.lays197 with } ⟨by kernel_rfl, by kernel_rfl, by kernel_rfl, by kernel_rfl, by kernel_rfl, by kernel_rfl, by kernel_rfl⟩ r1 r2
theorem mtStars_walk (s : ByteArray) (n : Int) (w : World) (hs : s.size ≤ 140737488351232) (_hn : (Lit.int .i64 n).wf = true) (hL : laidMetH Tryd.prog Rows.fnMtStarsRow.laid w) :
    Calls Tryd.prog 3 #[.string s, .int .i64 n] w fun e w' => e = .returned (.bool true) ∧ Below w.heap.size w w' :=
  law_walk s n w hs (utf8_tabs (by kernel_rfl) (.tail _ (.head _)) (.head _) hL)
end Go.Proofs.YtphpjboljlkdkaaDoor
