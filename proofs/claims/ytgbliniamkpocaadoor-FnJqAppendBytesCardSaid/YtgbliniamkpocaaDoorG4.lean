/- Texts of this claim, laid together. -/
import Derived.Test.YtgbliniamkpocaaDoorJpUncT
import Derived.Test.YtgbliniamkpocaaDoorRows
import Derived.Lib.LaidU8
import Derived.MakeChecks
import Derived.Shelf.Bin.ReadersZ
import Derived.Test.YtgbliniamkpocaaDoorProg
import Derived.Laws.BitsLemmas
import Derived.Test.YtgbliniamkpocaaDoorG0
import Derived.StillTailTactics
import Derived.Deep.DeepCutAuto
import Derived.Deep.CutBlock
import Derived.Deep.CutRange
/- What the variables of jsonparser hold that Unescape reads, out of what the row lists. -/
namespace Go.Proofs.YtgbliniamkpocaaDoor.Jp
open Go.RowKit Go.Proofs.YtgbliniamkpocaaDoorW.PrintWords Go.Proofs.YtgbliniamkpocaaDoor.Kit

def Cfg0 (w : World) : Prop := w.cell? ⟨0, 0, none⟩ = some (.bool false) ∧ w.cell? ⟨0, 1, none⟩ = some (.bool false) ∧ w.cell? ⟨0, 2, none⟩ = some (.int .i64 0)
theorem below_cell {w w1 : World} (hb : Below w.heap.size w w1) {b o : Nat} {v : Value} (h : w.cell? ⟨b, o, none⟩ = some v) : w1.cell? ⟨b, o, none⟩ = some v := by
  rw [hb.cell (p := ⟨b, o, none⟩) (World.block_lt_of_cell? w _ h)]
  exact h
theorem Cfg0.below {w w1 : World} (h : Cfg0 w) (hb : Below w.heap.size w w1) : Cfg0 w1 := ⟨below_cell hb h.1, below_cell hb h.2.1, below_cell hb h.2.2⟩
theorem Tab.below {w w1 : World} (h : Tab w) (hb : Below w.heap.size w w1) : Tab w1 := fun c hc => below_cell hb (h c hc)
theorem Err3.below {w w1 : World} (h : Err3 w) (hb : Below w.heap.size w w1) : Err3 w1 := by
  obtain ⟨tp, p, h⟩ := h
  exact ⟨tp, p, below_cell hb h⟩
/-- The variables of the package that Unescape reads. -/
def Vars (w : World) : Prop := Cfg0 w ∧ Tab w ∧ Err3 w
theorem Vars.below {w w1 : World} (h : Vars w) (hb : Below w.heap.size w w1) : Vars w1 := ⟨h.1.below hb, h.2.1.below hb, h.2.2.below hb⟩
def escT : List Int := [0, 0, 0, 0, 0, 0, 0, 0, 0, 0, 0, 0, 0, 0, 0, 0, 0, 0, 0, 0, 0, 0, 0, 0, 0, 0, 0, 0, 0, 0, 0, 0, 0, 0, 34, 0, 0, 0, 0, 0, 0, 0, 0, 0, 0, 0, 0, 47, 0, 0, 0, 0, 0, 0, 0, 0, 0, 0, 0, 0, 0, 0, 0, 0, 0, 0, 0, 0, 0, 0, 0, 0, 0, 0, 0, 0, 0, 0, 0, 0, 0, 0, 0, 0, 0, 0, 0, 0, 0, 0, 0, 0, 92, 0, 0, 0, 0, 0, 8, 0, 0, 0, 12, 0, 0, 0, 0, 0, 0, 0, 10, 0, 0, 0, 13, 0, 9]
theorem escT_eq : (Rows.laid_pub_tetrapla_pub_jsonparser_backslashCharEscapeTable : DataW Unit) = Lib.tabData .u8 escT := by kernel_rfl
/-- A variable of an interface type that is listed with a datum under an interface. -/
theorem iface_cell {w : World} {l : List (String × DataW Unit)} {nm dn : String} {d : DataW Unit} (h : laidMet Tryd.prog l w) (hm : (nm, .iface dn d) ∈ l) {g t : Nat} {ms : Array (String × TypeId)} (hg : Tryd.prog.globalNamed nm = some g)
    (ht : (Tryd.prog.globals[g]?).map (·.type) = some t) (hi : Tryd.prog.underlying t = some (.interface ms)) : ∃ tp p, w.cell? ⟨g, 0, none⟩ = some (.iface tp p) := by
  obtain ⟨g', t', cs, fuel, p, hg', hty, hvar, hd⟩ := Lib.laidMet.reads h hm
  obtain rfl : g = g' := Option.some.inj (hg.symm.trans hg')
  obtain rfl : t = t' := Option.some.inj (ht.symm.trans hty)
  obtain ⟨f1, u, v, hcs, _⟩ := iface_of_trod hi hd
  refine ⟨u, v, ?_⟩
  rw [World.var?_cell hg hvar 0, ← Array.getElem?_toList, hcs]
  rfl
theorem tab_of {w : World} {l : List (String × DataW Unit)} (h : laidMet Tryd.prog l w) (hm : ("pub-tetrapla/pub/jsonparser.backslashCharEscapeTable", Rows.laid_pub_tetrapla_pub_jsonparser_backslashCharEscapeTable) ∈ l) : Tab w := by
  obtain ⟨g, t, cs, fuel, p, hg, hty, hvar, hd⟩ := Lib.laidMet.reads h hm
  obtain rfl : 4 = g := Option.some.inj ((show Tryd.prog.globalNamed "pub-tetrapla/pub/jsonparser.backslashCharEscapeTable" = some 4 by kernel_rfl).symm.trans hg)
  obtain rfl : 111 = t := Option.some.inj ((show (Tryd.prog.globals[4]?).map (·.type) = some 111 by kernel_rfl).symm.trans hty)
  rw [escT_eq] at hd
  have hcs := Lib.cells_of_tab Tryd.underlying111 Tryd.underlying5 (by kernel_rfl) (by kernel_rfl) hd
  intro c hc
  rw [World.var?_cell hg hvar c.toNat, ← Array.getElem?_toList, hcs]
  unfold isSh at hc
  rcases hc with rfl | rfl | rfl | rfl | rfl | rfl | rfl | rfl <;> rfl
theorem cfg_of {w : World} {l : List (String × DataW Unit)} (h : laidMet Tryd.prog l w) (hm : ("pub-tetrapla/pub/jsonparser.DefaultConfig", Rows.laid_pub_tetrapla_pub_jsonparser_DefaultConfig) ∈ l) : Cfg0 w := by
  obtain ⟨g, t, cs, fuel, p, hg, hty, hvar, hd⟩ := Lib.laidMet.reads h hm
  obtain rfl : 0 = g := Option.some.inj ((show Tryd.prog.globalNamed "pub-tetrapla/pub/jsonparser.DefaultConfig" = some 0 by kernel_rfl).symm.trans hg)
  obtain rfl : 80 = t := Option.some.inj ((show (Tryd.prog.globals[0]?).map (·.type) = some 80 by kernel_rfl).symm.trans hty)
  obtain ⟨xs, n, _, hx, _, hxl, hall⟩ := DataW.trod_struct Tryd.underlying80 hd
  have c4 : Tryd.prog.cellsOf 4 = 1 := by kernel_rfl
  have c3 : Tryd.prog.cellsOf 3 = 1 := by kernel_rfl
  have hxs : xs.map (·.1) = [.lit (.bool false), .lit (.bool false), .lit (.int .i64 0)] := by
    have := congrArg Prod.fst hx
    simpa [Rows.laid_pub_tetrapla_pub_jsonparser_DefaultConfig] using this.symm
  match xs, hxl, hxs with
  | [x0, x1, x2], _, hxs =>
    simp only [List.map_cons, List.map_nil, List.cons.injEq, and_true] at hxs
    obtain ⟨e0, e1, e2⟩ := hxs
    have h0 : DataW.trod (fun _ => ()) Tryd.prog w 0 (fun _ => true) false n 4 ((cs.toList.drop 0).take (Tryd.prog.cellsOf 4)) = some x0 := hall 0 _ rfl
    have h1 : DataW.trod (fun _ => ()) Tryd.prog w 0 (fun _ => true) false n 4 ((cs.toList.drop 1).take (Tryd.prog.cellsOf 4)) = some x1 := hall 1 _ rfl
    have h2 : DataW.trod (fun _ => ()) Tryd.prog w 0 (fun _ => true) false n 3 ((cs.toList.drop 2).take (Tryd.prog.cellsOf 3)) = some x2 := hall 2 _ rfl
    rw [c4] at h0 h1
    rw [c3] at h2
    obtain ⟨b0, k0, r0⟩ := DataW.trod_bool Tryd.underlying4 h0
    obtain ⟨b1, k1, r1⟩ := DataW.trod_bool Tryd.underlying4 h1
    obtain ⟨b2, k2, r2, _⟩ := DataW.trod_int Tryd.underlying3 h2
    rw [r0] at e0
    rw [r1] at e1
    rw [r2] at e2
    simp only [DataW.lit.injEq, Lit.bool.injEq, Lit.int.injEq, true_and] at e0 e1 e2
    subst e0
    subst e1
    subst e2
    have at_ : ∀ i : Nat, w.cell? ⟨0, i, none⟩ = cs.toList[i]? := fun i => by rw [World.var?_cell hg hvar i, ← Array.getElem?_toList]
    refine ⟨?_, ?_, ?_⟩
    · rw [at_ 0]
      have := congrArg (·[0]?) k0
      simpa [List.getElem?_take, List.getElem?_drop] using this
    · rw [at_ 1]
      have := congrArg (·[0]?) k1
      simpa [List.getElem?_take, List.getElem?_drop] using this
    · rw [at_ 2]
      have := congrArg (·[0]?) k2
      simpa [List.getElem?_take, List.getElem?_drop] using this
theorem vars_of {w : World} {l : List (String × DataW Unit)} (hp : (l.all fun x => x.2.handleName?.isNone) = true) (h1 : ("pub-tetrapla/pub/jsonparser.DefaultConfig", Rows.laid_pub_tetrapla_pub_jsonparser_DefaultConfig) ∈ l)
    (h2 : ("pub-tetrapla/pub/jsonparser.backslashCharEscapeTable", Rows.laid_pub_tetrapla_pub_jsonparser_backslashCharEscapeTable) ∈ l) (h3 : ("pub-tetrapla/pub/jsonparser.MalformedStringEscapeError", Rows.laid_pub_tetrapla_pub_jsonparser_MalformedStringEscapeError) ∈ l)
    (hL : laidMetH Tryd.prog l w) : Vars w := by
  rw [MakeChecks.laidMetH_plain _ _ _ hp] at hL
  exact ⟨cfg_of hL h1, tab_of hL h2, iface_cell hL h3 (by kernel_rfl) (by kernel_rfl) Tryd.underlying59⟩
end Go.Proofs.YtgbliniamkpocaaDoor.Jp
/- Contracts of the library at this dump, laid in plain words by the kit's own tool: those that this claim needs. -/
namespace Go.Proofs
open Go.Shelf
def Tryd.laysBin33_ren : Go.Shelf.Ren := ⟨fun | 33 => 91 | n => n, fun | 25 => 132 | 22 => 57 | 33 => 130 | 0 => 0 | 5 => 5 | 45 => 136 | n => n, fun | n => n⟩
theorem Tryd.laysBin33 : Go.Proofs.LaysBin.n33 Tryd.prog Tryd.laysBin33_ren := {
  mixed := by kernel_rfl
  f33 := Tryd.func91.trans (congrArg some (by kernel_rfl))
  t0 := Tryd.underlying0
  a0 := Tryd.isAgg0
  z0 := Tryd.sizeOf0
  v0 := Tryd.zeroValue0
  i0 := by kernel_rfl
  t5 := Tryd.underlying5
  a5 := Tryd.isAgg5
  z5 := Tryd.sizeOf5
  v5 := Tryd.zeroValue5
  i5 := by kernel_rfl
  t22 := Tryd.underlying57
  a22 := Tryd.isAgg57
  z22 := Tryd.sizeOf57
  v22 := Tryd.zeroValue57
  i22 := by kernel_rfl
  t25 := Tryd.underlying132
  a25 := Tryd.isAgg132
  z25 := Tryd.sizeOf132
  v25 := Tryd.zeroValue132
  i25 := by kernel_rfl
  t33 := Tryd.underlying130
  a33 := Tryd.isAgg130
  z33 := Tryd.sizeOf130
  v33 := Tryd.zeroValue130
  i33 := by kernel_rfl
  t45 := Tryd.underlying136
  a45 := Tryd.isAgg136
  z45 := Tryd.sizeOf136
  v45 := Tryd.zeroValue136
  i45 := by kernel_rfl }
open Go.RowKit in
theorem Tryd.binary_LE_Uint64_z (a : Addr) (n c : Nat) (zs : List Int) (w : World) (hn : 8 ≤ n) (hl : 8 ≤ zs.length) (hcell : ∀ i, i < zs.length → w.cell? (a.add i) = some (.int .u8 (zs.getD i 0))) (hw : ∀ z ∈ zs, (Lit.int .u8 z).wf = true) :
    Calls Tryd.prog 91 #[.agg #[], .slice (some a) n c] w fun e w' => e = .returned (.int .u64 (Lib.leZ (zs.take 8))) ∧ Below w.heap.size w w' := Any.binary_LE_Uint64_z Tryd.laysBin33 a n c zs w hn hl hcell hw
end Go.Proofs
/- Eight bytes at once: where the test says 0, none of the eight is a quotation mark or a backslash. -/
namespace Go.Proofs.YtgbliniamkpocaaDoor.Jp
open Go
theorem swar_bytes (b0 b1 b2 b3 b4 b5 b6 b7 : Nat) (h0 : b0 < 256) (h1 : b1 < 256) (h2 : b2 < 256) (h3 : b3 < 256) (h4 : b4 < 256) (h5 : b5 < 256) (h6 : b6 < 256) (h7 : b7 < 256)
    (hz : b0 = 0 ∨ b1 = 0 ∨ b2 = 0 ∨ b3 = 0 ∨ b4 = 0 ∨ b5 = 0 ∨ b6 = 0 ∨ b7 = 0) (x s : Nat)
    (hx : x = b0 + 256 * b1 + 65536 * b2 + 16777216 * b3 + 4294967296 * b4 + 1099511627776 * b5 + 281474976710656 * b6 + 72057594037927936 * b7)
    (hs : s = (x + 18446744073709551616 - 72340172838076673) % 18446744073709551616) :
    ∃ k, k < 8 ∧ s / 2 ^ (8 * k + 7) % 2 = 1 ∧ x / 2 ^ (8 * k + 7) % 2 = 0 := by
  by_cases z0 : b0 = 0
  · exact ⟨0, by omega, by show s / 128 % 2 = 1; omega, by show x / 128 % 2 = 0; omega⟩
  by_cases z1 : b1 = 0
  · exact ⟨1, by omega, by show s / 32768 % 2 = 1; omega, by show x / 32768 % 2 = 0; omega⟩
  by_cases z2 : b2 = 0
  · exact ⟨2, by omega, by show s / 8388608 % 2 = 1; omega, by show x / 8388608 % 2 = 0; omega⟩
  by_cases z3 : b3 = 0
  · exact ⟨3, by omega, by show s / 2147483648 % 2 = 1; omega, by show x / 2147483648 % 2 = 0; omega⟩
  by_cases z4 : b4 = 0
  · exact ⟨4, by omega, by show s / 549755813888 % 2 = 1; omega, by show x / 549755813888 % 2 = 0; omega⟩
  by_cases z5 : b5 = 0
  · exact ⟨5, by omega, by show s / 140737488355328 % 2 = 1; omega, by show x / 140737488355328 % 2 = 0; omega⟩
  by_cases z6 : b6 = 0
  · exact ⟨6, by omega, by show s / 36028797018963968 % 2 = 1; omega, by show x / 36028797018963968 % 2 = 0; omega⟩
  have z7 : b7 = 0 := by omega
  exact ⟨7, by omega, by show s / 9223372036854775808 % 2 = 1; omega, by show x / 9223372036854775808 % 2 = 0; omega⟩
def hitN (X : BitVec 64) : BitVec 64 := (X - 72340172838076673#64) &&& ~~~X &&& 9259542123273814144#64
theorem hitN_ne (X : BitVec 64) (j : Nat) (hj : j < 8) (h : X.toNat / 2 ^ (8 * j) % 256 = 0) : hitN X ≠ 0#64 := by
  have hX := X.isLt
  obtain ⟨x, hx⟩ : ∃ x, X.toNat = x := ⟨_, rfl⟩
  rw [hx] at hX h
  have hs : (X - 72340172838076673#64).toNat = (x + 18446744073709551616 - 72340172838076673) % 18446744073709551616 := by
    rw [BitVec.toNat_sub, hx]
    simp only [BitVec.toNat_ofNat]
    omega
  obtain ⟨k, hk, e1, e2⟩ := swar_bytes (x % 256) (x / 256 % 256) (x / 65536 % 256) (x / 16777216 % 256) (x / 4294967296 % 256) (x / 1099511627776 % 256) (x / 281474976710656 % 256) (x / 72057594037927936 % 256)
    (by omega) (by omega) (by omega) (by omega) (by omega) (by omega) (by omega) (by omega)
    (by
      rcases (by omega : j = 0 ∨ j = 1 ∨ j = 2 ∨ j = 3 ∨ j = 4 ∨ j = 5 ∨ j = 6 ∨ j = 7) with rfl | rfl | rfl | rfl | rfl | rfl | rfl | rfl <;> simp at h <;> simp [h])
    x _ (by omega) rfl
  intro h0
  have hb := congrArg (fun v : BitVec 64 => v.getLsbD (8 * k + 7)) h0
  simp only [hitN, BitVec.getLsbD_and, BitVec.getLsbD_not, BitVec.getLsbD_zero] at hb
  have t1 : (X - 72340172838076673#64).getLsbD (8 * k + 7) = true := by
    rw [← BitVec.testBit_toNat, hs, Nat.testBit_eq_decide_div_mod_eq]
    simpa using e1
  have t2 : X.getLsbD (8 * k + 7) = false := by
    rw [← BitVec.testBit_toNat, hx, Nat.testBit_eq_decide_div_mod_eq]
    simp [e2]
  have t3 : (9259542123273814144#64).getLsbD (8 * k + 7) = true := by
    rcases (by omega : k = 0 ∨ k = 1 ∨ k = 2 ∨ k = 3 ∨ k = 4 ∨ k = 5 ∨ k = 6 ∨ k = 7) with rfl | rfl | rfl | rfl | rfl | rfl | rfl | rfl <;> rfl
  rw [t1, t2, t3] at hb
  have : decide (8 * k + 7 < 64) = true := by simp; omega
  rw [this] at hb
  simp at hb
theorem xor_byte (a b j : Nat) (h : a / 2 ^ (8 * j) % 256 = b / 2 ^ (8 * j) % 256) : (a ^^^ b) / 2 ^ (8 * j) % 256 = 0 := by
  rw [Nat.xor_div_two_pow, show (256 : Nat) = 2 ^ 8 from rfl, Nat.xor_mod_two_pow]
  rw [show (256 : Nat) = 2 ^ 8 from rfl] at h
  rw [h, Nat.xor_self]
theorem wrap_bv (n : Int) : IntKind.u64.wrap n = ((BitVec.ofInt 64 n).toNat : Int) := by
  simp only [IntKind.wrap, IntKind.bits, IntKind.signed, BitVec.toNat_ofInt]
  simp
  omega
theorem bv_back (X : BitVec 64) : BitVec.ofInt 64 (X.toNat : Int) = X := by simp
def hitI (Z q : Int) : Int :=
  bits .and .u64 (bits .and .u64 (IntKind.u64.wrap (bits .xor .u64 Z q - 72340172838076673)) (bits .xor .u64 (if IntKind.u64.signed = true then -1 else IntKind.u64.max) (bits .xor .u64 Z q))) 9259542123273814144
theorem bits_bv_and (x y : Int) : bits .and .u64 x y = ((BitVec.ofInt 64 x &&& BitVec.ofInt 64 y).toNat : Int) := by
  show IntKind.u64.wrap ((BitVec.ofInt 64 x &&& BitVec.ofInt 64 y).toNat : Int) = _
  rw [wrap_bv, bv_back]
theorem bits_bv_or (x y : Int) : bits .or .u64 x y = ((BitVec.ofInt 64 x ||| BitVec.ofInt 64 y).toNat : Int) := by
  show IntKind.u64.wrap ((BitVec.ofInt 64 x ||| BitVec.ofInt 64 y).toNat : Int) = _
  rw [wrap_bv, bv_back]
theorem bits_bv_xor (x y : Int) : bits .xor .u64 x y = ((BitVec.ofInt 64 x ^^^ BitVec.ofInt 64 y).toNat : Int) := by
  show IntKind.u64.wrap ((BitVec.ofInt 64 x ^^^ BitVec.ofInt 64 y).toNat : Int) = _
  rw [wrap_bv, bv_back]
theorem hitI_eq (Z q : Int) : hitI Z q = ((hitN (BitVec.ofInt 64 Z ^^^ BitVec.ofInt 64 q)).toNat : Int) := by
  have hm : BitVec.ofInt 64 (if IntKind.u64.signed = true then -1 else IntKind.u64.max) = BitVec.allOnes 64 := by decide
  have hsub : ∀ X : BitVec 64, BitVec.ofInt 64 ((X.toNat : Int) - 72340172838076673) = X - 72340172838076673#64 := fun X => by
    apply BitVec.eq_of_toNat_eq
    have hX := X.isLt
    rw [BitVec.toNat_ofInt, BitVec.toNat_sub]
    simp only [BitVec.toNat_ofNat]
    omega
  unfold hitI hitN
  simp only [bits_bv_and, bits_bv_xor, wrap_bv, bv_back, hm, hsub, BitVec.allOnes_xor]
  rfl
theorem swar (Z : Int) (h : bits .or .u64 (hitI Z 2459565876494606882) (hitI Z 6655295901103053916) = 0) (h0 : 0 ≤ Z) (h1 : Z < 18446744073709551616) (j : Nat) (hj : j < 8) :
    Z.toNat / 2 ^ (8 * j) % 256 ≠ 34 ∧ Z.toNat / 2 ^ (8 * j) % 256 ≠ 92 := by
  rw [bits_bv_or, hitI_eq, hitI_eq, bv_back, bv_back] at h
  have h' : hitN (BitVec.ofInt 64 Z ^^^ BitVec.ofInt 64 2459565876494606882) ||| hitN (BitVec.ofInt 64 Z ^^^ BitVec.ofInt 64 6655295901103053916) = 0#64 := BitVec.eq_of_toNat_eq (by simpa using h)
  rw [BitVec.or_eq_zero_iff] at h'
  have hz : (BitVec.ofInt 64 Z).toNat = Z.toNat := by
    rw [BitVec.toNat_ofInt]
    congr 1
    omega
  have key : ∀ (q : Nat) (Q : BitVec 64), hitN (BitVec.ofInt 64 Z ^^^ Q) = 0#64 → Q.toNat / 2 ^ (8 * j) % 256 = q → Z.toNat / 2 ^ (8 * j) % 256 ≠ q := by
    intro q Q hh hq e
    refine hitN_ne _ j hj ?_ hh
    rw [BitVec.toNat_xor, hz]
    exact xor_byte _ _ _ (by rw [e, hq])
  refine ⟨key 34 _ h'.1 ?_, key 92 _ h'.2 ?_⟩
  · rcases (by omega : j = 0 ∨ j = 1 ∨ j = 2 ∨ j = 3 ∨ j = 4 ∨ j = 5 ∨ j = 6 ∨ j = 7) with rfl | rfl | rfl | rfl | rfl | rfl | rfl | rfl <;> rfl
  · rcases (by omega : j = 0 ∨ j = 1 ∨ j = 2 ∨ j = 3 ∨ j = 4 ∨ j = 5 ∨ j = 6 ∨ j = 7) with rfl | rfl | rfl | rfl | rfl | rfl | rfl | rfl <;> rfl
theorem le8 (zs : List Int) (hl : zs.length = 8) (hb : ∀ x ∈ zs, 0 ≤ x ∧ x ≤ 255) : 0 ≤ Lib.leZ zs ∧ Lib.leZ zs < 18446744073709551616 ∧ ∀ j, j < 8 → (zs.getD j 0) = ((Lib.leZ zs).toNat / 2 ^ (8 * j) % 256 : Nat) := by
  match zs, hl with
  | [a, b, c, d, e, f, g, h], _ =>
    have ha := hb a (by simp)
    have hb' := hb b (by simp)
    have hc := hb c (by simp)
    have hd := hb d (by simp)
    have he := hb e (by simp)
    have hf := hb f (by simp)
    have hg := hb g (by simp)
    have hh := hb h (by simp)
    simp only [Lib.leZ]
    refine ⟨by omega, by omega, fun j hj => ?_⟩
    rcases (by omega : j = 0 ∨ j = 1 ∨ j = 2 ∨ j = 3 ∨ j = 4 ∨ j = 5 ∨ j = 6 ∨ j = 7) with rfl | rfl | rfl | rfl | rfl | rfl | rfl | rfl <;> simp <;> omega
/-- The eight bytes at i. -/
theorem swar_list (l : List Int) (i : Nat) (hb : ∀ x ∈ l, 0 ≤ x ∧ x ≤ 255) (h8 : i + 8 ≤ l.length) (Z : Int) (hZ : Lib.leZ ((l.drop i).take 8) = Z)
    (h : bits .or .u64 (hitI Z 2459565876494606882) (hitI Z 6655295901103053916) = 0) (k : Nat) (hk : i ≤ k) (hk2 : k < i + 8) : l.getD k 0 ≠ 34 ∧ l.getD k 0 ≠ 92 := by
  obtain ⟨h0, h1, h2⟩ := le8 ((l.drop i).take 8) (by rw [List.length_take, List.length_drop]; omega) (fun x hx => hb x (List.mem_of_mem_drop (List.mem_of_mem_take hx)))
  rw [hZ] at h0 h1 h2
  have h3 := swar Z h h0 h1 (k - i) (by omega)
  have h4 := h2 (k - i) (by omega)
  have h5 : ((l.drop i).take 8).getD (k - i) 0 = l.getD k 0 := by
    simp only [List.getD, List.getElem?_take, List.getElem?_drop]
    rw [if_pos (by omega), show i + (k - i) = k by omega]
  rw [h5] at h4
  omega
end Go.Proofs.YtgbliniamkpocaaDoor.Jp
/- jsonparser.stringEndConfig: where a string ends. -/
namespace Go.Proofs.YtgbliniamkpocaaDoor.Jp
open Go.RowKit Go.Proofs.YtgbliniamkpocaaDoorW.PrintWords Go.Proofs.YtgbliniamkpocaaDoor.Kit

/-- An odd number of backslashes stands ahead of i. -/
def par (l : List Int) : Nat → Bool
  | 0 => false
  | i + 1 => decide (gb l i = 92) && !par l i
/-- A backslash stands ahead of i. -/
def bsf (l : List Int) : Nat → Bool
  | 0 => false
  | i + 1 => bsf l i || decide (gb l i = 92)
theorem par_of_bsf {l : List Int} : ∀ {i : Nat}, bsf l i = false → par l i = false
  | 0, _ => rfl
  | i + 1, h => by
    simp only [bsf, Bool.or_eq_false_iff] at h
    simp [par, h.2]
theorem bsf_none {l : List Int} : ∀ {i : Nat}, (∀ k, k < i → gb l k ≠ 92) → bsf l i = false
  | 0, _ => rfl
  | i + 1, h => by
    have h1 := h i (by omega)
    have h2 : bsf l i = false := bsf_none (fun k hk => h k (by omega))
    simp [bsf, h2, h1]
theorem par_two {l : List Int} {m : Nat} (h1 : gb l (m + 1) = 92) (h2 : gb l m = 92) : par l (m + 2) = par l m := by
  simp [par, h1, h2]
theorem par_stop {l : List Int} {m : Nat} (h : m = 0 ∨ gb l (m - 1) ≠ 92) : par l m = false := by
  cases m with
  | zero => rfl
  | succ m =>
    rcases h with h | h
    · omega
    · simp only [Nat.add_sub_cancel] at h
      simp [par, h]
theorem qe_par {l : List Int} {i : Nat} (hi : i < l.length) (h : ¬ (gb l i = 34 ∧ par l i = false)) : qe l i (par l i) = qe l (i + 1) (par l (i + 1)) := by
  rw [qe, dif_pos hi, if_neg h]
  rfl
theorem qe_start {l : List Int} : ∀ {i : Nat}, i ≤ l.length → (∀ k, k < i → gb l k ≠ 34 ∧ gb l k ≠ 92) → qe l 0 false = qe l i (par l i)
  | 0, _, _ => rfl
  | i + 1, h, hk => by
    rw [qe_start (i := i) (by omega) (fun k h2 => hk k (by omega))]
    exact qe_par (by omega) (fun h2 => (hk i (by omega)).1 h2.1)
/-- What is handed back. -/
def seR (l : List Int) : Value :=
  match qe l 0 false with
  | some j => .tuple #[.int .i64 (j : Int), .bool (bsf l (j - 1))]
  | none => .tuple #[.int .i64 (-1), .bool (bsf l l.length)]
theorem seR_found {l : List Int} {i : Nat} (hi : i < l.length) (h0 : qe l 0 false = qe l i (par l i)) (h34 : gb l i = 34) (hp : par l i = false) : seR l = .tuple #[.int .i64 ((i : Int) + 1), .bool (bsf l i)] := by
  have : qe l 0 false = some (i + 1) := by
    rw [h0, qe, dif_pos hi, if_pos ⟨h34, hp⟩]
  unfold seR
  rw [this]
  rfl
theorem seR_none {l : List Int} {i : Nat} (hi : l.length ≤ i) (h0 : qe l 0 false = qe l i (par l i)) : seR l = .tuple #[.int .i64 (-1), .bool (bsf l l.length)] := by
  unfold seR
  rw [h0, qe_out hi]
theorem u64_c (A : Option Addr) (c : Nat) (l : List Int) (i : Nat) (W : World) (hr : ReadsInt W .u8 A l.length l) (h8 : i + 8 ≤ l.length) (hlc : l.length ≤ c) (hb : ∀ x ∈ l, 0 ≤ x ∧ x ≤ 255) :
    Calls Tryd.prog 91 #[.agg #[], .slice (Option.map (fun x => x.add i) A) (l.length - i) (c - i)] W fun e w' => e = .returned (.int .u64 (Lib.leZ ((l.drop i).take 8))) ∧ Below W.heap.size W w' := by
  have h2 := hr.drop_ i (by omega) hlc
  rw [if_neg (show ¬ c = i by omega)] at h2
  obtain ⟨ad, hA, _⟩ := hr.at_ 0 (by omega) (by omega)
  subst hA
  refine Tryd.binary_LE_Uint64_z _ _ _ (l.drop i) W (by omega) (by rw [List.length_drop]; omega) (fun k hk => ?_) (fun z hz => ?_)
  · obtain ⟨a2, e2, h3⟩ := h2.at_ k (by omega) (by rw [List.length_drop] at hk; omega)
    injection e2 with e2
    subst e2
    simpa [rd] using h3
  · have := hb z (List.mem_of_mem_drop hz)
    simp [Lit.wf]
    exact this
def SePost (w : World) (l : List Int) (e : Ending) (w' : World) : Prop := e = .returned (seR l) ∧ Below w.heap.size w w'
set_option pp.maxSteps 3000
set_option maxHeartbeats 8000000 in
set_option maxRecDepth 100000 in
theorem se_c (A : Option Addr) (c : Nat) (l : List Int) (w : World) (hr : ReadsInt w .u8 A l.length l) (hlc : l.length ≤ c) (hb : ∀ x ∈ l, 0 ≤ x ∧ x ≤ 255) (hlm : l.length ≤ 140737488355328) :
    Calls Tryd.prog 77 #[cfg, .slice A l.length c, .int .u8 34] w fun e w' => SePost w l e w' := by
  have hll : l.length ≤ 9223372036854775807 := hr.2.1
  have hlb : (l.length : Int) ≤ 140737488355328 := by omega
  have HR := Lib.hid hr
  have HB := Lib.hid hb
  clear hr hb
  unfold cfg
  go_enter Tryd.func77, Tryd.ntmps77
  go_upto_block 0 with (fail)
  go_cut [10, 12, 13, 14, 15, 16] from 25 to 57 (fun vi _ _ _ _ _ wr => ∃ i : Nat, i ≤ l.length ∧ vi = .int .i64 i ∧ Hid (∀ k, k < i → l.getD k 0 ≠ 34 ∧ l.getD k 0 ≠ 92) ∧ Hid (Below w.heap.size w wr))
  case first =>
    go_wp2
    go_loopw [10] (fun vi wr => ∃ i : Nat, i ≤ l.length ∧ vi = .int .i64 i ∧ Hid (∀ k, k < i → l.getD k 0 ≠ 34 ∧ l.getD k 0 ≠ 92) ∧ Hid (Below w.heap.size w wr)) (fun vi _ => l.length - (intOf vi).toNat)
    case atStart => exact ⟨0, Nat.zero_le _, rfl, Lib.hid (fun k h => by omega), Lib.hid ((Below.refl _ _).alloc (Nat.le_refl _) _)⟩
    case round =>
      obtain ⟨i, hi, rfl, HI, HBW⟩ := hrel
      have hw8 : wrap64 ((i : Int) + 8) = (i : Int) + 8 := by unfold wrap64; omega
      by_cases h8 : i + 8 ≤ l.length
      · have hd8 : decide ((i : Int) + 8 ≤ (l.length : Int)) = true := by simp; omega
        go_upto_region 6 with (fail)
        go_still_tail 4, (by kernel_rfl)
        change wpList _ _ _ _ _ wr.drew
        obtain ⟨Z, hZ⟩ : ∃ Z, Lib.leZ ((l.drop i).take 8) = Z := ⟨_, rfl⟩
        have HC := Lib.hid (u64_c A c l i wr.drew (HR.out.below (HBW.out.drew)) h8 hlc HB.out)
        have HS := Lib.hid (swar_list l i HB.out h8 Z hZ)
        unfold hitI at HS
        rw [hZ] at HC
        clear hZ
        go_wp2_with (go_at_call 91; (with_reducible refine HC.out.mono ?_); rintro e w1 ⟨rfl, hb1⟩)
        case roundEnd =>
          rename_i hz
          have hz' := eq_of_beq hz
          have HK := Lib.hid (HS.out hz')
          clear hz hz' HS
          go_round
          case rel =>
            refine ⟨i + 8, by omega, by go_num, Lib.hid (fun k hk => ?_), Lib.hid (HBW.out.drew.trans (hb1.mono HBW.out.size))⟩
            by_cases hki : k < i
            · exact HI.out k hki
            · exact HK.out k (by omega) hk
          case measure => simp [intOf]; omega
        case inr.inr =>
          go_meet
          exact ⟨i, hi, rfl, HI, Lib.hid (HBW.out.drew.trans (hb1.mono HBW.out.size))⟩
      · have hd8 : decide ((i : Int) + 8 ≤ (l.length : Int)) = false := by simp; omega
        go_wp2
        go_meet
        exact ⟨i, hi, rfl, HI, HBW⟩
  case rest =>
    obtain ⟨i0, hi0, rfl, HI, HBW⟩ := hcut
    have HR2 := Lib.hid (HR.out.below HBW.out)
    have HQ0 := Lib.hid (And.intro (qe_start hi0 HI.out) (bsf_none (l := l) (i := i0) (fun k hk => (HI.out k hk).2)))
    clear HI HR
    go_wp2
    go_loop [10, 17] (fun vi ve => ∃ i : Nat, i ≤ l.length ∧ vi = .int .i64 i ∧ ve = .bool (bsf l i) ∧ Hid (qe l 0 false = qe l i (par l i))) (fun vi _ => l.length - (intOf vi).toNat)
    case atStart => exact ⟨i0, hi0, rfl, congrArg Value.bool HQ0.out.2.symm, Lib.hid HQ0.out.1⟩
    case round =>
      clear HQ0
      obtain ⟨i, hi, rfl, rfl, HQ⟩ := hrel
      by_cases hlt : i < l.length
      · obtain ⟨ad, rfl, hcell⟩ := HR2.out.at_ i (by omega) (by omega)
        obtain ⟨x, hx⟩ : ∃ x, gb l i = x := ⟨_, rfl⟩
        have hcell' : wc.cell? (ad.add i) = some (.int .u8 x) := by rw [Int.toNat_natCast] at hcell; rw [hcell, ← hx]; simp [rd, gb]
        clear hcell
        have hxb : 0 ≤ x ∧ x ≤ 255 := by rw [← hx]; exact HB.out _ (by unfold gb; rw [List.getD, List.getElem?_eq_getElem hlt]; exact List.getElem_mem hlt)
        have HN := Lib.hid (fun h : ¬ (x = 34 ∧ par l i = false) => HQ.out.trans (qe_par hlt (by rw [hx]; exact h)))
        have HE : Hid (bsf l (i + 1) = (bsf l i || decide (x = 92))) := Lib.hid (by rw [← hx]; rfl)
        have HF := Lib.hid (fun (h : x = 34) (hp : par l i = false) => seR_found hlt HQ.out (hx.trans h) hp)
        by_cases hgt : 92 < x
        · have HE2 := Lib.hid (HE.out.trans (by rw [show decide (x = 92) = false by simp; omega, Bool.or_false]))
          go_wp2
          go_round
          case rel => exact ⟨i + 1, by omega, by go_num, congrArg Value.bool HE2.out.symm, Lib.hid (HN.out (by omega))⟩
          case measure => simp [intOf]; omega
        by_cases h34 : x = 34
        · subst h34
          cases hE : bsf l i
          · have hr := HF.out rfl (par_of_bsf hE)
            rw [hE] at hr
            have HRR := Lib.hid hr
            clear hr
            go_wp2
            go_ret2
            exact ⟨congrArg Ending.returned HRR.out.symm, HBW.out⟩
          · have hi1 : 1 ≤ i := by
              cases i with
              | zero => cases hE
              | succ n => omega
            have HN2 := Lib.hid (fun h : par l i = true => HN.out (by rw [h]; simp))
            have HF2 := Lib.hid (HF.out rfl)
            rw [hE] at HF2
            have HP1 : Hid (par l (i - 1 + 1) = par l i) := Lib.hid (by rw [Nat.sub_add_cancel hi1])
            have HE2 := Lib.hid (HE.out.trans (by rw [hE]; rfl : _ = true))
            clear HE HN HF hE HQ hx
            go_wp2
            go_loop [19] (fun vj => (vj = .int .i64 (-1) ∧ Hid (par l i = false)) ∨ ∃ m : Nat, m < i ∧ vj = .int .i64 m ∧ Hid (par l (m + 1) = par l i)) (fun vj => (intOf vj + 1).toNat)
            case atStart => exact .inr ⟨i - 1, by omega, congrArg (Value.int .i64) (by omega), HP1⟩
            case round =>
              clear HP1
              rcases hrel with ⟨rfl, HP⟩ | ⟨m, hm, rfl, HP⟩
              · have hr := HF2.out HP.out
                have HRR := Lib.hid hr
                clear hr
                go_wp2
                go_ret2
                exact ⟨congrArg Ending.returned HRR.out.symm, HBW.out⟩
              · obtain ⟨ad2, had2, hcy⟩ := HR2.out.at_ m (by omega) (by omega)
                injection had2 with had2
                subst had2
                obtain ⟨y, hy⟩ : ∃ y, gb l m = y := ⟨_, rfl⟩
                have hcy' : wc.cell? (ad.add m) = some (.int .u8 y) := by rw [Int.toNat_natCast] at hcy; rw [hcy, ← hy]; simp [rd, gb]
                clear hcy
                by_cases hy92 : y = 92
                · subst hy92
                  by_cases hm0 : m = 0
                  · have HNN := Lib.hid (HN2.out (by rw [← HP.out, hm0]; rw [hm0] at hy; simp [par, hy]))
                    clear HP hy
                    have hcy0 : wc.cell? ad = some (.int .u8 92) := by
                      rw [hm0] at hcy'
                      simpa [Addr.add] using hcy'
                    go_wp2
                    go_round
                    case rel => exact ⟨i + 1, by omega, by go_num, congrArg Value.bool HE2.out.symm, HNN⟩
                    case measure => simp [intOf]; omega
                  · obtain ⟨ad2, had2, hcz⟩ := HR2.out.at_ ((m : Int) - 1) (by omega) (by omega)
                    injection had2 with had2
                    subst had2
                    obtain ⟨z, hz⟩ : ∃ z, gb l (m - 1) = z := ⟨_, rfl⟩
                    have hcz' : wc.cell? (ad.add (m - 1)) = some (.int .u8 z) := by
                      rw [show ((m : Int) - 1).toNat = m - 1 by omega] at hcz
                      rw [hcz, ← hz]
                      simp only [rd, gb]
                      rw [show ((m : Int) - 1).toNat = m - 1 by omega]
                    clear hcz
                    have hpm : par l (m + 1) = !(decide (z = 92) && !par l (m - 1)) := by
                      obtain ⟨m1, rfl⟩ : ∃ m1, m = m1 + 1 := ⟨m - 1, by omega⟩
                      simp only [Nat.add_sub_cancel] at hz ⊢
                      simp [par, hy, hz]
                    by_cases hz92 : z = 92
                    · subst hz92
                      have HP2 : Hid (par l (m - 1) = par l i) := Lib.hid (by rw [← HP.out, hpm]; simp)
                      clear HP hy hz hpm
                      go_wp2
                      go_round
                      case rel =>
                        by_cases hm1 : m = 1
                        · refine .inl ⟨by rw [hm1]; rfl, Lib.hid ?_⟩
                          rw [← HP2.out, hm1]
                          rfl
                        · exact .inr ⟨m - 2, by omega, congrArg (Value.int .i64) (by omega), Lib.hid (by rw [← HP2.out]; congr 1; omega)⟩
                      case measure => simp [intOf]; omega
                    · have HNN := Lib.hid (HN2.out (by rw [← HP.out, hpm]; simp [hz92]))
                      have ez : (z != 92) = true := by simpa using hz92
                      clear HP hy hz hpm
                      go_wp2
                      go_round
                      case rel => exact ⟨i + 1, by omega, by go_num, congrArg Value.bool HE2.out.symm, HNN⟩
                      case measure => simp [intOf]; omega
                · have hr := HF2.out (by rw [← HP.out]; simp [par, hy, hy92])
                  have HRR := Lib.hid hr
                  have ey : (y != 92) = true := by simpa using hy92
                  clear hr HP hy
                  go_wp2
                  go_ret2
                  exact ⟨congrArg Ending.returned HRR.out.symm, HBW.out⟩
        by_cases h92 : x = 92
        · subst h92
          have HE2 : Hid (bsf l (i + 1) = true) := Lib.hid (HE.out.trans (by simp))
          go_wp2
          go_round
          case rel => exact ⟨i + 1, by omega, by go_num, congrArg Value.bool HE2.out.symm, Lib.hid (HN.out (by omega))⟩
          case measure => simp [intOf]; omega
        · have e34 : (x == 34) = false := by simpa using h34
          have e92 : (x == 92) = false := by simpa using h92
          have HE2 := Lib.hid (HE.out.trans (by rw [show decide (x = 92) = false by simpa using h92, Bool.or_false]))
          go_wp2
          go_round
          case rel => exact ⟨i + 1, by omega, by go_num, congrArg Value.bool HE2.out.symm, Lib.hid (HN.out (by omega))⟩
          case measure => simp [intOf]; omega
      · have hr := seR_none (by omega) HQ.out
        obtain rfl : i = l.length := by omega
        have HRR := Lib.hid hr
        clear hr
        go_wp2
        go_ret2
        exact ⟨congrArg Ending.returned HRR.out.symm, HBW.out⟩
end Go.Proofs.YtgbliniamkpocaaDoor.Jp
