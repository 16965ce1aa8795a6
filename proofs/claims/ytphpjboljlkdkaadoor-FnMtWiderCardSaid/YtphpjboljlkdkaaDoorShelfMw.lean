/- Contracts of the library at this dump, laid in plain words by the kit's own tool: those that this claim needs. -/
import Derived.Shelf.Unicode.DecodeAny
import Derived.Shelf.Unicode.DecodeLast
import Derived.Test.YtphpjboljlkdkaaDoorProg
namespace Go.Proofs
open Go.Shelf
def Tryd.lays197_ren : Go.Shelf.Ren := ⟨fun | 197 => 94 | 260 => 112 | n => n, fun | 9 => 9 | 21 => 21 | 3 => 3 | 4 => 4 | 5 => 5 | 105 => 137 | 119 => 165 | 0 => 0 | 46 => 111 | 139 => 168 | 138 => 167 | n => n, fun | 3 => 7 | 4 => 8 | n => n⟩
theorem Tryd.lays197 : Go.Proofs.Lays.n197 Tryd.prog Tryd.lays197_ren := {
  mixed := by kernel_rfl
  f197 := Tryd.func94.trans (congrArg some (by kernel_rfl))
  f260 := Tryd.func112.trans (congrArg some (by kernel_rfl))
  t0 := Tryd.underlying0
  a0 := Tryd.isAgg0
  z0 := Tryd.sizeOf0
  v0 := Tryd.zeroValue0
  t3 := Tryd.underlying3
  a3 := Tryd.isAgg3
  z3 := Tryd.sizeOf3
  v3 := Tryd.zeroValue3
  t4 := Tryd.underlying4
  a4 := Tryd.isAgg4
  z4 := Tryd.sizeOf4
  v4 := Tryd.zeroValue4
  t5 := Tryd.underlying5
  a5 := Tryd.isAgg5
  z5 := Tryd.sizeOf5
  v5 := Tryd.zeroValue5
  t9 := Tryd.underlying9
  a9 := Tryd.isAgg9
  z9 := Tryd.sizeOf9
  v9 := Tryd.zeroValue9
  t21 := Tryd.underlying21
  a21 := Tryd.isAgg21
  z21 := Tryd.sizeOf21
  v21 := Tryd.zeroValue21
  t46 := Tryd.underlying111
  a46 := Tryd.isAgg111
  z46 := Tryd.sizeOf111
  v46 := Tryd.zeroValue111
  t105 := Tryd.underlying137
  a105 := Tryd.isAgg137
  z105 := Tryd.sizeOf137
  v105 := Tryd.zeroValue137
  t119 := Tryd.underlying165
  a119 := Tryd.isAgg165
  z119 := Tryd.sizeOf165
  t138 := Tryd.underlying167
  a138 := Tryd.isAgg167
  z138 := Tryd.sizeOf167
  v138 := Tryd.zeroValue167
  t139 := Tryd.underlying168
  a139 := Tryd.isAgg168
  z139 := Tryd.sizeOf168
  v139 := Tryd.zeroValue168
  g3 := by kernel_rfl
  g4 := by kernel_rfl }
open Go.RowKit Go.Lib in
theorem Tryd.utf8_DecodeRuneInString (s : ByteArray) (w : World) (hT : Lib.Utf8Tabs 7 8 w) :
    Calls Tryd.prog 94 #[.string s] w fun e w' => e = .returned (.tuple #[.int .i32 (Lib.decodeGo s).1, .int .i64 (Lib.decodeGo s).2]) ∧ Below w.heap.size w w' := Any.utf8_DecodeRuneInString Tryd.lays197 s w hT
def Tryd.lays271_ren : Go.Shelf.Ren := ⟨fun | 271 => 113 | 120 => 119 | 197 => 94 | 260 => 112 | n => n, fun | 9 => 9 | 21 => 21 | 3 => 3 | 4 => 4 | 5 => 5 | 105 => 137 | 119 => 165 | 0 => 0 | 46 => 111 | 139 => 168 | 138 => 167 | n => n, fun | 3 => 7 | 4 => 8 | n => n⟩
theorem Tryd.lays271 : Go.Proofs.Lays.n271 Tryd.prog Tryd.lays271_ren := {
  mixed := by kernel_rfl
  f120 := Tryd.func119.trans (congrArg some (by kernel_rfl))
  f197 := Tryd.func94.trans (congrArg some (by kernel_rfl))
  f260 := Tryd.func112.trans (congrArg some (by kernel_rfl))
  f271 := Tryd.func113.trans (congrArg some (by kernel_rfl))
  t0 := Tryd.underlying0
  a0 := Tryd.isAgg0
  z0 := Tryd.sizeOf0
  v0 := Tryd.zeroValue0
  t3 := Tryd.underlying3
  a3 := Tryd.isAgg3
  z3 := Tryd.sizeOf3
  v3 := Tryd.zeroValue3
  t4 := Tryd.underlying4
  a4 := Tryd.isAgg4
  z4 := Tryd.sizeOf4
  v4 := Tryd.zeroValue4
  t5 := Tryd.underlying5
  a5 := Tryd.isAgg5
  z5 := Tryd.sizeOf5
  v5 := Tryd.zeroValue5
  t9 := Tryd.underlying9
  a9 := Tryd.isAgg9
  z9 := Tryd.sizeOf9
  v9 := Tryd.zeroValue9
  t21 := Tryd.underlying21
  a21 := Tryd.isAgg21
  z21 := Tryd.sizeOf21
  v21 := Tryd.zeroValue21
  t46 := Tryd.underlying111
  a46 := Tryd.isAgg111
  z46 := Tryd.sizeOf111
  v46 := Tryd.zeroValue111
  t105 := Tryd.underlying137
  a105 := Tryd.isAgg137
  z105 := Tryd.sizeOf137
  v105 := Tryd.zeroValue137
  t119 := Tryd.underlying165
  a119 := Tryd.isAgg165
  z119 := Tryd.sizeOf165
  t138 := Tryd.underlying167
  a138 := Tryd.isAgg167
  z138 := Tryd.sizeOf167
  v138 := Tryd.zeroValue167
  t139 := Tryd.underlying168
  a139 := Tryd.isAgg168
  z139 := Tryd.sizeOf168
  v139 := Tryd.zeroValue168
  g3 := by kernel_rfl
  g4 := by kernel_rfl }
open Go.RowKit Go.Lib in
theorem Tryd.utf8_DecodeLastRuneInString (s : ByteArray) (w : World) (hs : s.size ≤ 9223372036854775807) (hT : Lib.Utf8Tabs 7 8 w) :
    Calls Tryd.prog 113 #[.string s] w fun e w' => e = .returned (.tuple #[.int .i32 (Lib.decodeLastL s.data.toList).1, .int .i64 (Lib.decodeLastL s.data.toList).2]) ∧ Below w.heap.size w w' := Any.utf8_DecodeLastRuneInString Tryd.lays271 s w hs hT

end Go.Proofs
