/- No text that is cut off from a string, an array or an object that is a JSON text has a value for Get; the text itself has. -/
import Derived.Test.YtgbliniamkpocaaDoorJpCut
import Derived.Test.YtgbliniamkpocaaDoorPureJp
namespace Go.Proofs.YtgbliniamkpocaaDoor.Jp
open Go.RowKit Go.Proofs.YtgbliniamkpocaaDoorW.PrintWords Go.Proofs.YtgbliniamkpocaaDoorW.PrintMore Go.Proofs.YtgbliniamkpocaaDoor.Kit Go.Proofs.YtgbliniamkpocaaDoor.PPl

theorem errs_of {w : World} {l : List (String × DataW Unit)} (hp : (l.all fun x => x.2.handleName?.isNone) = true)
    (h1 : ("pub-tetrapla/pub/jsonparser.DefaultConfig", Rows.laid_pub_tetrapla_pub_jsonparser_DefaultConfig) ∈ l)
    (h2 : ("pub-tetrapla/pub/jsonparser.MalformedArrayError", Rows.laid_pub_tetrapla_pub_jsonparser_MalformedArrayError) ∈ l) (h5 : ("pub-tetrapla/pub/jsonparser.MalformedJsonError", Rows.laid_pub_tetrapla_pub_jsonparser_MalformedJsonError) ∈ l)
    (h8 : ("pub-tetrapla/pub/jsonparser.MalformedObjectError", Rows.laid_pub_tetrapla_pub_jsonparser_MalformedObjectError) ∈ l) (h9 : ("pub-tetrapla/pub/jsonparser.MalformedStringError", Rows.laid_pub_tetrapla_pub_jsonparser_MalformedStringError) ∈ l)
    (hL : laidMetH Tryd.prog l w) : Cfg0 w ∧ Errs w := by
  rw [MakeChecks.laidMetH_plain _ _ _ hp] at hL
  exact ⟨cfg_of hL h1, iface_cell hL h2 (by kernel_rfl) (by kernel_rfl) Tryd.underlying59, iface_cell hL h5 (by kernel_rfl) (by kernel_rfl) Tryd.underlying59, iface_cell hL h8 (by kernel_rfl) (by kernel_rfl) Tryd.underlying59, iface_cell hL h9 (by kernel_rfl) (by kernel_rfl) Tryd.underlying59⟩
/-- What jpPlaces hands back. -/
def PlPost (w : World) (r1 r2 r3 : Int) (ok : Bool) (e : Ending) (w' : World) : Prop :=
  ∃ A3 n3 c3 A4 n4 c4, e = .returned (.tuple #[.agg #[.int .i64 r1, .int .i64 r2, .int .i64 r3, .slice A3 n3 c3, .slice A4 n4 c4], .bool ok]) ∧ Below w.heap.size w w'
theorem pl_c (s : ByteArray) (w : World) (p : Option S35) (hp : (if s.size ≤ 65536 then Pure.places (Kit.nums s) else none) = p) :
    Calls Tryd.prog 15 #[.string s] w fun e w' => PlPost w ((p.map (·.f0)).getD 0) ((p.map (·.f1)).getD 0) ((p.map (·.f2)).getD 0) p.isSome e w' := by
  have hev := Pure.jpPlaces_ev s
  rw [hp] at hev
  cases p with
  | none =>
    obtain ⟨k, hk⟩ := hev
    refine (laws_jpPlaces.calls k s _ _ _ _ _ _ w (hk k (Nat.le_refl _))).mono ?_
    rintro e w' ⟨v3, v4, rfl, h3, h4, hb⟩
    obtain ⟨A3, c3, rfl⟩ := Kd.R_slice h3
    obtain ⟨A4, c4, rfl⟩ := Kd.R_slice h4
    exact ⟨A3, _, c3, A4, _, c4, rfl, hb⟩
  | some p =>
    obtain ⟨k, hk⟩ := hev
    refine (laws_jpPlaces.calls k s _ _ _ _ _ _ w (hk k (Nat.le_refl _))).mono ?_
    rintro e w' ⟨v3, v4, rfl, h3, h4, hb⟩
    obtain ⟨A3, c3, rfl⟩ := Kd.R_slice h3
    obtain ⟨A4, c4, rfl⟩ := Kd.R_slice h4
    exact ⟨A3, _, c3, A4, _, c4, rfl, hb⟩
set_option pp.maxSteps 3000
set_option maxHeartbeats 8000000 in
set_option maxRecDepth 100000 in
theorem cut_main (s : ByteArray) (n : Int) (w : World) (hs : s.size ≤ 140737488351232) (hV : Cfg0 w) (hE : Errs w) :
    Calls Tryd.prog 5 #[.string s, .int .i64 n] w fun e w' => e = .returned (.bool true) ∧ Below w.heap.size w w' := by
  by_cases hbig : 2147483647 < s.size
  · clear hV hE
    go_enter Tryd.func5, Tryd.ntmps5
    go_wp2
    go_ret
    exact ⟨rfl, Below.refl _ _⟩
  obtain ⟨p, hp⟩ : ∃ p, (if s.size ≤ 65536 then Pure.places (Kit.nums s) else none) = p := ⟨_, rfl⟩
  have HP := Lib.hid (pl_c s w p hp)
  have HV := Lib.hid (And.intro hV hE)
  clear hV hE
  cases p with
  | none =>
    clear hp HV
    simp only [Option.map_none, Option.getD_none, Option.isSome_none] at HP
    go_enter Tryd.func5, Tryd.ntmps5
    go_wp2_with (go_at_call 15; (with_reducible refine HP.out.mono ?_); rintro e w1 ⟨A3, n3, c3, A4, n4, c4, rfl, hb1⟩)
    all_goals (
      go_ret
      exact ⟨rfl, below_alloc hb1 _⟩)
  | some p =>
    simp only [Option.map_some, Option.getD_some, Option.isSome_some] at HP
    have hsz : s.size ≤ 65536 := by
      by_cases h : s.size ≤ 65536
      · exact h
      · rw [if_neg h] at hp
        cases hp
    rw [if_pos hsz] at hp
    have HPP := Lib.hid hp
    clear hp
    obtain ⟨k1, hk1⟩ : ∃ k, p.f0 = k := ⟨_, rfl⟩
    obtain ⟨k2, hk2⟩ : ∃ k, p.f1 = k := ⟨_, rfl⟩
    obtain ⟨k3, hk3⟩ : ∃ k, p.f2 = k := ⟨_, rfl⟩
    rw [hk1, hk2, hk3] at HP
    by_cases hkd : k1 < 4
    · clear HPP HV hk1 hk2 hk3
      go_enter Tryd.func5, Tryd.ntmps5
      go_wp2_with (go_at_call 15; (with_reducible refine HP.out.mono ?_); rintro e w1 ⟨A3, n3, c3, A4, n4, c4, rfl, hb1⟩)
      all_goals (
        go_ret
        exact ⟨rfl, below_alloc hb1 _⟩)
    by_cases hn0 : n < 0
    · clear HPP HV hk1 hk2 hk3
      go_enter Tryd.func5, Tryd.ntmps5
      go_wp2_with (go_at_call 15; (with_reducible refine HP.out.mono ?_); rintro e w1 ⟨A3, n3, c3, A4, n4, c4, rfl, hb1⟩)
      all_goals (
        go_ret
        exact ⟨rfl, below_alloc hb1 _⟩)
    by_cases hn3 : k3 ≤ n
    · clear HPP HV hk1 hk2 hk3
      go_enter Tryd.func5, Tryd.ntmps5
      go_wp2_with (go_at_call 15; (with_reducible refine HP.out.mono ?_); rintro e w1 ⟨A3, n3, c3, A4, n4, c4, rfl, hb1⟩)
      all_goals (
        go_ret
        exact ⟨rfl, below_alloc hb1 _⟩)
    obtain ⟨m, rfl⟩ : ∃ m : Nat, n = (m : Int) := ⟨n.toNat, by omega⟩
    have hlen := Kit.nums_len s
    obtain ⟨hml, ⟨b, e, hF1⟩, hF2⟩ := Pure.cut_law (Kit.nums s) p HPP.out (by omega) m (by omega)
    have hG1 : GF (Kit.nums s) true := .inr ⟨b, some e, hF1.1, hF1.2.1, rfl, hF1.2.2⟩
    have hex : Kit.nums (s.extract 0 m) = (Kit.nums s).take m := by rw [Kit.nums_extract]; simp
    have hG2 : GF (Kit.nums (s.extract 0 m)) false := by
      rw [hex]
      rcases hF2 with h | ⟨b2, h⟩
      · exact .inl ⟨rfl, h⟩
      · exact .inr ⟨b2, none, h.1, h.2.1, rfl, h.2.2⟩
    have hms : m ≤ s.size := by omega
    have HC1 : Hid (∀ W, Below w.heap.size w W → Calls Tryd.prog 16 #[.string s, .slice none 0 0] W fun e w' => JgPost W true e w') :=
      Lib.hid (fun W hb => jpget_c s hsz W (HV.out.1.below hb) (HV.out.2.below hb) true hG1)
    have HC2 : Hid (∀ W, Below w.heap.size w W → Calls Tryd.prog 16 #[.string (s.extract 0 m), .slice none 0 0] W fun e w' => JgPost W false e w') :=
      Lib.hid (fun W hb => jpget_c (s.extract 0 m) (by rw [ByteArray.size_extract]; omega) W (HV.out.1.below hb) (HV.out.2.below hb) false hG2)
    clear HPP HV hk1 hk2 hk3 hlen hml hF1 hF2 hG1 hG2 hex
    go_enter Tryd.func5, Tryd.ntmps5
    go_wp2_with (first
      | (go_at_call 15; (with_reducible refine HP.out.mono ?_); rintro e w1 ⟨A3, n3, c3, A4, n4, c4, rfl, hb1⟩)
      | (go_at_call 16; (with_reducible refine (HC2.out _ (below_alloc hb1 _)).mono ?_); rintro e w2 ⟨t2, y2, o2, rfl, hb2⟩)
      | (go_at_call 16; (with_reducible refine (HC1.out _ (below_alloc ((below_alloc hb1 _).trans (hb2.mono (below_alloc hb1 _).size)) _)).mono ?_); rintro e w3 ⟨t3, y3, o3, rfl, hb3⟩))
    go_ret
    have B2 := below_step (below_alloc hb1 _) hb2
    have B3 := below_step (below_alloc B2 _) hb3
    exact ⟨rfl, below_alloc B3 _⟩
theorem cut_walk (s : ByteArray) (n : Int) (w : World) (hs : s.size ≤ 140737488351232) (_hn : (Lit.int .i64 n).wf = true) (hL : laidMetH Tryd.prog Rows.fnJpCutWholeRow.laid w) :
    Calls Tryd.prog 5 #[.string s, .int .i64 n] w fun e w' => e = .returned (.bool true) ∧ Below w.heap.size w w' := by
  obtain ⟨hV, hE⟩ := errs_of (l := Rows.fnJpCutWholeRow.laid) (by kernel_rfl) (by simp [Rows.fnJpCutWholeRow]) (by simp [Rows.fnJpCutWholeRow]) (by simp [Rows.fnJpCutWholeRow]) (by simp [Rows.fnJpCutWholeRow]) (by simp [Rows.fnJpCutWholeRow]) hL
  exact cut_main s n w hs hV hE
end Go.Proofs.YtgbliniamkpocaaDoor.Jp
