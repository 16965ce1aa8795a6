/- Contracts of the library at this dump, laid in plain words by the kit's own tool: those that this claim needs. -/
import Derived.Shelf.Bytes.SlIndexAt
import Derived.Shelf.Bytes.IndexByte
import Derived.Shelf.Spec.EncodeRune
import Derived.Test.YtgbliniamkpocaaDoorProg
namespace Go.Proofs
open Go.Shelf
def Tryd.lays187_ren : Go.Shelf.Ren := ⟨fun | 187 => 58 | 255 => 74 | n => n, fun | 37 => 57 | 5 => 5 | 3 => 3 | n => n, fun | n => n⟩
theorem Tryd.lays187 : Go.Proofs.Lays.n187 Tryd.prog Tryd.lays187_ren := {
  mixed := by kernel_rfl
  f187 := Tryd.func58.trans (congrArg some (by kernel_rfl))
  f255 := Tryd.func74.trans (congrArg some (by kernel_rfl))
  t3 := Tryd.underlying3
  a3 := Tryd.isAgg3
  z3 := Tryd.sizeOf3
  v3 := Tryd.zeroValue3
  t5 := Tryd.underlying5
  a5 := Tryd.isAgg5
  z5 := Tryd.sizeOf5
  v5 := Tryd.zeroValue5
  t37 := Tryd.underlying57
  a37 := Tryd.isAgg57
  z37 := Tryd.sizeOf57
  v37 := Tryd.zeroValue57 }
open Go.RowKit Go.Lib in
theorem Tryd.bytes_IndexByte_at (a : Addr) (n c : Nat) (xs : List Int) (cv : Int) (w : World) (hx : xs.length = n) (hc : ∀ i, i < n → w.cell? (a.add i) = some (.int .u8 (xs.getD i 0))) :
    Calls Tryd.prog 58 #[.slice (some a) n c, .int .u8 cv] w fun e w' => e = .returned (.int .i64 (Lib.indexByte (Lib.bytesOf xs) cv.toNat.toUInt8)) ∧ w' = w := Any.bytes_IndexByte_at Tryd.lays187 a n c xs cv w hx hc
theorem Tryd.bytes_IndexByte_nil (cv : Int) (w : World) :
    Calls Tryd.prog 58 #[.slice none 0 0, .int .u8 cv] w fun e w' => e = .returned (.int .i64 (-1)) ∧ w' = w := Any.bytes_IndexByte_nil Tryd.lays187 cv w
def Tryd.lays7n30_ren : Go.Shelf.Ren := ⟨fun | 30 => 76 | 47 => 90 | n => n, fun | 30 => 57 | 21 => 21 | 3 => 3 | 27 => 129 | 4 => 4 | 5 => 5 | 0 => 0 | 25 => 136 | n => n, fun | n => n⟩
theorem Tryd.lays7n30 : Go.Proofs.Lays7.n30 Tryd.prog Tryd.lays7n30_ren := {
  mixed := by kernel_rfl
  f30 := Tryd.func76.trans (congrArg some (by kernel_rfl))
  f47 := Tryd.func90.trans (congrArg some (by kernel_rfl))
  t0 := Tryd.underlying0
  a0 := Tryd.isAgg0
  z0 := Tryd.sizeOf0
  v0 := Tryd.zeroValue0
  i0 := by kernel_rfl
  t3 := Tryd.underlying3
  a3 := Tryd.isAgg3
  z3 := Tryd.sizeOf3
  v3 := Tryd.zeroValue3
  i3 := by kernel_rfl
  t4 := Tryd.underlying4
  a4 := Tryd.isAgg4
  z4 := Tryd.sizeOf4
  v4 := Tryd.zeroValue4
  i4 := by kernel_rfl
  t5 := Tryd.underlying5
  a5 := Tryd.isAgg5
  z5 := Tryd.sizeOf5
  v5 := Tryd.zeroValue5
  i5 := by kernel_rfl
  t21 := Tryd.underlying21
  a21 := Tryd.isAgg21
  z21 := Tryd.sizeOf21
  v21 := Tryd.zeroValue21
  i21 := by kernel_rfl
  t25 := Tryd.underlying136
  a25 := Tryd.isAgg136
  z25 := Tryd.sizeOf136
  v25 := Tryd.zeroValue136
  i25 := by kernel_rfl
  t27 := Tryd.underlying129
  a27 := Tryd.isAgg129
  z27 := Tryd.sizeOf129
  v27 := Tryd.zeroValue129
  i27 := by kernel_rfl
  t30 := Tryd.underlying57
  a30 := Tryd.isAgg57
  z30 := Tryd.sizeOf57
  v30 := Tryd.zeroValue57
  i30 := by kernel_rfl }
open Go.RowKit Go.Lib in
theorem Tryd.utf8_EncodeRune (b off len cap : Nat) (r : Int) (hlo : -2147483648 ≤ r) (hhi : r ≤ 2147483647) (w : World) (hl : (Lib.runeCells r).length ≤ len)
    (hc : ∀ j, j < (Lib.runeCells r).length → (w.cell? ⟨b, off + j, none⟩).isSome = true) (hf : ∀ j, j < (Lib.runeCells r).length → w.frozen? ⟨b, off + j, none⟩ = false) :
    Calls Tryd.prog 76 #[.slice (some ⟨b, off, none⟩) len cap, .int .i32 r] w fun e w' => e = .returned (.int .i64 (Lib.runeCells r).length) ∧ w' = w.setCells b off (Lib.runeCells r) := Any7.utf8_EncodeRune Tryd.lays7n30 b off len cap r hlo hhi w hl hc hf

end Go.Proofs
