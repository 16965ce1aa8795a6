/- Contracts of the library at this dump, laid in plain words by the kit's own tool: those that this claim needs. -/
import Derived.Shelf.Bin.ReadersZ
import Derived.Test.YtgbliniamkpocaaDoorProg
namespace Go.Proofs
open Go.Shelf
def Tryd.laysBin33_ren : Go.Shelf.Ren := ⟨fun | 33 => 91 | n => n, fun | 25 => 132 | 22 => 57 | 33 => 130 | 0 => 0 | 5 => 5 | 45 => 136 | n => n, fun | n => n⟩
theorem Tryd.laysBin33 : Go.Proofs.LaysBin.n33 Tryd.prog Tryd.laysBin33_ren := {
  mixed := by kernel_rfl
  f33 := Tryd.func91.trans (congrArg some (by kernel_rfl))
  t0 := Tryd.underlying0
  a0 := Tryd.isAgg0
  z0 := Tryd.sizeOf0
  v0 := Tryd.zeroValue0
  i0 := by kernel_rfl
  t5 := Tryd.underlying5
  a5 := Tryd.isAgg5
  z5 := Tryd.sizeOf5
  v5 := Tryd.zeroValue5
  i5 := by kernel_rfl
  t22 := Tryd.underlying57
  a22 := Tryd.isAgg57
  z22 := Tryd.sizeOf57
  v22 := Tryd.zeroValue57
  i22 := by kernel_rfl
  t25 := Tryd.underlying132
  a25 := Tryd.isAgg132
  z25 := Tryd.sizeOf132
  v25 := Tryd.zeroValue132
  i25 := by kernel_rfl
  t33 := Tryd.underlying130
  a33 := Tryd.isAgg130
  z33 := Tryd.sizeOf130
  v33 := Tryd.zeroValue130
  i33 := by kernel_rfl
  t45 := Tryd.underlying136
  a45 := Tryd.isAgg136
  z45 := Tryd.sizeOf136
  v45 := Tryd.zeroValue136
  i45 := by kernel_rfl }
open Go.RowKit in
theorem Tryd.binary_LE_Uint64_z (a : Addr) (n c : Nat) (zs : List Int) (w : World) (hn : 8 ≤ n) (hl : 8 ≤ zs.length) (hcell : ∀ i, i < zs.length → w.cell? (a.add i) = some (.int .u8 (zs.getD i 0))) (hw : ∀ z ∈ zs, (Lit.int .u8 z).wf = true) :
    Calls Tryd.prog 91 #[.agg #[], .slice (some a) n c] w fun e w' => e = .returned (.int .u64 (Lib.leZ (zs.take 8))) ∧ Below w.heap.size w w' := Any.binary_LE_Uint64_z Tryd.laysBin33 a n c zs w hn hl hcell hw
end Go.Proofs
