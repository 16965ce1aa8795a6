/- What the variables of jsonparser hold that Unescape reads, out of what the row lists. -/
import Derived.Test.YtgbliniamkpocaaDoorJpUncT
import Derived.Test.YtgbliniamkpocaaDoorRows
import Derived.Lib.LaidU8
import Derived.MakeChecks
namespace Go.Proofs.YtgbliniamkpocaaDoor.Jp
open Go.RowKit Go.Proofs.YtgbliniamkpocaaDoorW.PrintWords Go.Proofs.YtgbliniamkpocaaDoor.Kit

def Cfg0 (w : World) : Prop := w.cell? ⟨0, 0, none⟩ = some (.bool false) ∧ w.cell? ⟨0, 1, none⟩ = some (.bool false) ∧ w.cell? ⟨0, 2, none⟩ = some (.int .i64 0)
theorem below_cell {w w1 : World} (hb : Below w.heap.size w w1) {b o : Nat} {v : Value} (h : w.cell? ⟨b, o, none⟩ = some v) : w1.cell? ⟨b, o, none⟩ = some v := by
  rw [hb.cell (p := ⟨b, o, none⟩) (World.block_lt_of_cell? w _ h)]
  exact h
theorem Cfg0.below {w w1 : World} (h : Cfg0 w) (hb : Below w.heap.size w w1) : Cfg0 w1 := ⟨below_cell hb h.1, below_cell hb h.2.1, below_cell hb h.2.2⟩
theorem Tab.below {w w1 : World} (h : Tab w) (hb : Below w.heap.size w w1) : Tab w1 := fun c hc => below_cell hb (h c hc)
theorem Err3.below {w w1 : World} (h : Err3 w) (hb : Below w.heap.size w w1) : Err3 w1 := by
  obtain ⟨tp, p, h⟩ := h
  exact ⟨tp, p, below_cell hb h⟩
/-- The variables of the package that Unescape reads. -/
def Vars (w : World) : Prop := Cfg0 w ∧ Tab w ∧ Err3 w
theorem Vars.below {w w1 : World} (h : Vars w) (hb : Below w.heap.size w w1) : Vars w1 := ⟨h.1.below hb, h.2.1.below hb, h.2.2.below hb⟩
def escT : List Int := [0, 0, 0, 0, 0, 0, 0, 0, 0, 0, 0, 0, 0, 0, 0, 0, 0, 0, 0, 0, 0, 0, 0, 0, 0, 0, 0, 0, 0, 0, 0, 0, 0, 0, 34, 0, 0, 0, 0, 0, 0, 0, 0, 0, 0, 0, 0, 47, 0, 0, 0, 0, 0, 0, 0, 0, 0, 0, 0, 0, 0, 0, 0, 0, 0, 0, 0, 0, 0, 0, 0, 0, 0, 0, 0, 0, 0, 0, 0, 0, 0, 0, 0, 0, 0, 0, 0, 0, 0, 0, 0, 0, 92, 0, 0, 0, 0, 0, 8, 0, 0, 0, 12, 0, 0, 0, 0, 0, 0, 0, 10, 0, 0, 0, 13, 0, 9]
theorem escT_eq : (Rows.laid_pub_tetrapla_pub_jsonparser_backslashCharEscapeTable : DataW Unit) = Lib.tabData .u8 escT := by kernel_rfl
/-- A variable of an interface type that is listed with a datum under an interface. -/
theorem iface_cell {w : World} {l : List (String × DataW Unit)} {nm dn : String} {d : DataW Unit} (h : laidMet Tryd.prog l w) (hm : (nm, .iface dn d) ∈ l) {g t : Nat} {ms : Array (String × TypeId)} (hg : Tryd.prog.globalNamed nm = some g)
    (ht : (Tryd.prog.globals[g]?).map (·.type) = some t) (hi : Tryd.prog.underlying t = some (.interface ms)) : ∃ tp p, w.cell? ⟨g, 0, none⟩ = some (.iface tp p) := by
  obtain ⟨g', t', cs, fuel, p, hg', hty, hvar, hd⟩ := Lib.laidMet.reads h hm
  obtain rfl : g = g' := Option.some.inj (hg.symm.trans hg')
  obtain rfl : t = t' := Option.some.inj (ht.symm.trans hty)
  obtain ⟨f1, u, v, hcs, _⟩ := iface_of_trod hi hd
  refine ⟨u, v, ?_⟩
  rw [World.var?_cell hg hvar 0, ← Array.getElem?_toList, hcs]
  rfl
theorem tab_of {w : World} {l : List (String × DataW Unit)} (h : laidMet Tryd.prog l w) (hm : ("pub-tetrapla/pub/jsonparser.backslashCharEscapeTable", Rows.laid_pub_tetrapla_pub_jsonparser_backslashCharEscapeTable) ∈ l) : Tab w := by
  obtain ⟨g, t, cs, fuel, p, hg, hty, hvar, hd⟩ := Lib.laidMet.reads h hm
  obtain rfl : 4 = g := Option.some.inj ((show Tryd.prog.globalNamed "pub-tetrapla/pub/jsonparser.backslashCharEscapeTable" = some 4 by kernel_rfl).symm.trans hg)
  obtain rfl : 111 = t := Option.some.inj ((show (Tryd.prog.globals[4]?).map (·.type) = some 111 by kernel_rfl).symm.trans hty)
  rw [escT_eq] at hd
  have hcs := Lib.cells_of_tab Tryd.underlying111 Tryd.underlying5 (by kernel_rfl) (by kernel_rfl) hd
  intro c hc
  rw [World.var?_cell hg hvar c.toNat, ← Array.getElem?_toList, hcs]
  unfold isSh at hc
  rcases hc with rfl | rfl | rfl | rfl | rfl | rfl | rfl | rfl <;> rfl
theorem cfg_of {w : World} {l : List (String × DataW Unit)} (h : laidMet Tryd.prog l w) (hm : ("pub-tetrapla/pub/jsonparser.DefaultConfig", Rows.laid_pub_tetrapla_pub_jsonparser_DefaultConfig) ∈ l) : Cfg0 w := by
  obtain ⟨g, t, cs, fuel, p, hg, hty, hvar, hd⟩ := Lib.laidMet.reads h hm
  obtain rfl : 0 = g := Option.some.inj ((show Tryd.prog.globalNamed "pub-tetrapla/pub/jsonparser.DefaultConfig" = some 0 by kernel_rfl).symm.trans hg)
  obtain rfl : 80 = t := Option.some.inj ((show (Tryd.prog.globals[0]?).map (·.type) = some 80 by kernel_rfl).symm.trans hty)
  obtain ⟨xs, n, _, hx, _, hxl, hall⟩ := DataW.trod_struct Tryd.underlying80 hd
  have c4 : Tryd.prog.cellsOf 4 = 1 := by kernel_rfl
  have c3 : Tryd.prog.cellsOf 3 = 1 := by kernel_rfl
  have hxs : xs.map (·.1) = [.lit (.bool false), .lit (.bool false), .lit (.int .i64 0)] := by
    have := congrArg Prod.fst hx
    simpa [Rows.laid_pub_tetrapla_pub_jsonparser_DefaultConfig] using this.symm
  match xs, hxl, hxs with
  | [x0, x1, x2], _, hxs =>
    simp only [List.map_cons, List.map_nil, List.cons.injEq, and_true] at hxs
    obtain ⟨e0, e1, e2⟩ := hxs
    have h0 : DataW.trod (fun _ => ()) Tryd.prog w 0 (fun _ => true) false n 4 ((cs.toList.drop 0).take (Tryd.prog.cellsOf 4)) = some x0 := hall 0 _ rfl
    have h1 : DataW.trod (fun _ => ()) Tryd.prog w 0 (fun _ => true) false n 4 ((cs.toList.drop 1).take (Tryd.prog.cellsOf 4)) = some x1 := hall 1 _ rfl
    have h2 : DataW.trod (fun _ => ()) Tryd.prog w 0 (fun _ => true) false n 3 ((cs.toList.drop 2).take (Tryd.prog.cellsOf 3)) = some x2 := hall 2 _ rfl
    rw [c4] at h0 h1
    rw [c3] at h2
    obtain ⟨b0, k0, r0⟩ := DataW.trod_bool Tryd.underlying4 h0
    obtain ⟨b1, k1, r1⟩ := DataW.trod_bool Tryd.underlying4 h1
    obtain ⟨b2, k2, r2, _⟩ := DataW.trod_int Tryd.underlying3 h2
    rw [r0] at e0
    rw [r1] at e1
    rw [r2] at e2
    simp only [DataW.lit.injEq, Lit.bool.injEq, Lit.int.injEq, true_and] at e0 e1 e2
    subst e0
    subst e1
    subst e2
    have at_ : ∀ i : Nat, w.cell? ⟨0, i, none⟩ = cs.toList[i]? := fun i => by rw [World.var?_cell hg hvar i, ← Array.getElem?_toList]
    refine ⟨?_, ?_, ?_⟩
    · rw [at_ 0]
      have := congrArg (·[0]?) k0
      simpa [List.getElem?_take, List.getElem?_drop] using this
    · rw [at_ 1]
      have := congrArg (·[0]?) k1
      simpa [List.getElem?_take, List.getElem?_drop] using this
    · rw [at_ 2]
      have := congrArg (·[0]?) k2
      simpa [List.getElem?_take, List.getElem?_drop] using this
theorem vars_of {w : World} {l : List (String × DataW Unit)} (hp : (l.all fun x => x.2.handleName?.isNone) = true) (h1 : ("pub-tetrapla/pub/jsonparser.DefaultConfig", Rows.laid_pub_tetrapla_pub_jsonparser_DefaultConfig) ∈ l)
    (h2 : ("pub-tetrapla/pub/jsonparser.backslashCharEscapeTable", Rows.laid_pub_tetrapla_pub_jsonparser_backslashCharEscapeTable) ∈ l) (h3 : ("pub-tetrapla/pub/jsonparser.MalformedStringEscapeError", Rows.laid_pub_tetrapla_pub_jsonparser_MalformedStringEscapeError) ∈ l)
    (hL : laidMetH Tryd.prog l w) : Vars w := by
  rw [MakeChecks.laidMetH_plain _ _ _ hp] at hL
  exact ⟨cfg_of hL h1, tab_of hL h2, iface_cell hL h3 (by kernel_rfl) (by kernel_rfl) Tryd.underlying59⟩
end Go.Proofs.YtgbliniamkpocaaDoor.Jp
