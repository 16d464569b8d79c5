/- The shelf's contracts of utf8.DecodeRuneInString and DecodeLastRuneInString, laid at this program (written by the kit's tool lay-plain out of layings named by hand). -/
import Derived.Shelf.Unicode.DecodeAny
import Derived.Shelf.Unicode.DecodeLast
import Derived.Test.YtenibebomafdmaaDoorRows
namespace Go.Proofs
open Go.Shelf
def Tryd.lays197_ren : Go.Shelf.Ren := ⟨fun | 197 => 23 | 260 => 27 | n => n, fun | 9 => 9 | 21 => 21 | 3 => 3 | 4 => 4 | 5 => 5 | 105 => 83 | 119 => 93 | 0 => 0 | 46 => 67 | 139 => 96 | 138 => 95 | n => n, fun | 3 => 0 | 4 => 1 | n => n⟩
theorem Tryd.lays197 : Go.Proofs.Lays.n197 Tryd.prog Tryd.lays197_ren := {
  mixed := by kernel_rfl
  f197 := Tryd.func23.trans (congrArg some (by kernel_rfl))
  f260 := Tryd.func27.trans (congrArg some (by kernel_rfl))
  t0 := Tryd.underlying0
  a0 := Tryd.isAgg0
  z0 := Tryd.sizeOf0
  v0 := Tryd.zeroValue0
  t3 := Tryd.underlying3
  a3 := Tryd.isAgg3
  z3 := Tryd.sizeOf3
  v3 := Tryd.zeroValue3
  t4 := Tryd.underlying4
  a4 := Tryd.isAgg4
  z4 := Tryd.sizeOf4
  v4 := Tryd.zeroValue4
  t5 := Tryd.underlying5
  a5 := Tryd.isAgg5
  z5 := Tryd.sizeOf5
  v5 := Tryd.zeroValue5
  t9 := Tryd.underlying9
  a9 := Tryd.isAgg9
  z9 := Tryd.sizeOf9
  v9 := Tryd.zeroValue9
  t21 := Tryd.underlying21
  a21 := Tryd.isAgg21
  z21 := Tryd.sizeOf21
  v21 := Tryd.zeroValue21
  t46 := Tryd.underlying67
  a46 := Tryd.isAgg67
  z46 := Tryd.sizeOf67
  v46 := Tryd.zeroValue67
  t105 := Tryd.underlying83
  a105 := Tryd.isAgg83
  z105 := Tryd.sizeOf83
  v105 := Tryd.zeroValue83
  t119 := Tryd.underlying93
  a119 := Tryd.isAgg93
  z119 := Tryd.sizeOf93
  t138 := Tryd.underlying95
  a138 := Tryd.isAgg95
  z138 := Tryd.sizeOf95
  v138 := Tryd.zeroValue95
  t139 := Tryd.underlying96
  a139 := Tryd.isAgg96
  z139 := Tryd.sizeOf96
  v139 := Tryd.zeroValue96
  g3 := by kernel_rfl
  g4 := by kernel_rfl }
def Tryd.lays260_ren : Go.Shelf.Ren := ⟨fun | 260 => 27 | n => n, fun | 9 => 9 | 21 => 21 | 3 => 3 | 4 => 4 | 5 => 5 | 119 => 93 | 0 => 0 | 46 => 67 | 139 => 96 | 138 => 95 | n => n, fun | 3 => 0 | 4 => 1 | n => n⟩
theorem Tryd.lays260 : Go.Proofs.Lays.n260 Tryd.prog Tryd.lays260_ren := {
  mixed := by kernel_rfl
  f260 := Tryd.func27.trans (congrArg some (by kernel_rfl))
  t0 := Tryd.underlying0
  a0 := Tryd.isAgg0
  z0 := Tryd.sizeOf0
  v0 := Tryd.zeroValue0
  t3 := Tryd.underlying3
  a3 := Tryd.isAgg3
  z3 := Tryd.sizeOf3
  v3 := Tryd.zeroValue3
  t4 := Tryd.underlying4
  a4 := Tryd.isAgg4
  z4 := Tryd.sizeOf4
  v4 := Tryd.zeroValue4
  t5 := Tryd.underlying5
  a5 := Tryd.isAgg5
  z5 := Tryd.sizeOf5
  v5 := Tryd.zeroValue5
  t9 := Tryd.underlying9
  a9 := Tryd.isAgg9
  z9 := Tryd.sizeOf9
  v9 := Tryd.zeroValue9
  t21 := Tryd.underlying21
  a21 := Tryd.isAgg21
  z21 := Tryd.sizeOf21
  v21 := Tryd.zeroValue21
  t46 := Tryd.underlying67
  a46 := Tryd.isAgg67
  z46 := Tryd.sizeOf67
  v46 := Tryd.zeroValue67
  t119 := Tryd.underlying93
  a119 := Tryd.isAgg93
  z119 := Tryd.sizeOf93
  t138 := Tryd.underlying95
  a138 := Tryd.isAgg95
  z138 := Tryd.sizeOf95
  v138 := Tryd.zeroValue95
  t139 := Tryd.underlying96
  a139 := Tryd.isAgg96
  z139 := Tryd.sizeOf96
  v139 := Tryd.zeroValue96
  g3 := by kernel_rfl
  g4 := by kernel_rfl }
def Tryd.lays271_ren : Go.Shelf.Ren := ⟨fun | 271 => 25 | 120 => 28 | 197 => 23 | 260 => 27 | n => n, fun | 9 => 9 | 21 => 21 | 3 => 3 | 4 => 4 | 5 => 5 | 105 => 83 | 119 => 93 | 0 => 0 | 46 => 67 | 139 => 96 | 138 => 95 | n => n, fun | 3 => 0 | 4 => 1 | n => n⟩
theorem Tryd.lays271 : Go.Proofs.Lays.n271 Tryd.prog Tryd.lays271_ren := {
  mixed := by kernel_rfl
  f120 := Tryd.func28.trans (congrArg some (by kernel_rfl))
  f197 := Tryd.func23.trans (congrArg some (by kernel_rfl))
  f260 := Tryd.func27.trans (congrArg some (by kernel_rfl))
  f271 := Tryd.func25.trans (congrArg some (by kernel_rfl))
  t0 := Tryd.underlying0
  a0 := Tryd.isAgg0
  z0 := Tryd.sizeOf0
  v0 := Tryd.zeroValue0
  t3 := Tryd.underlying3
  a3 := Tryd.isAgg3
  z3 := Tryd.sizeOf3
  v3 := Tryd.zeroValue3
  t4 := Tryd.underlying4
  a4 := Tryd.isAgg4
  z4 := Tryd.sizeOf4
  v4 := Tryd.zeroValue4
  t5 := Tryd.underlying5
  a5 := Tryd.isAgg5
  z5 := Tryd.sizeOf5
  v5 := Tryd.zeroValue5
  t9 := Tryd.underlying9
  a9 := Tryd.isAgg9
  z9 := Tryd.sizeOf9
  v9 := Tryd.zeroValue9
  t21 := Tryd.underlying21
  a21 := Tryd.isAgg21
  z21 := Tryd.sizeOf21
  v21 := Tryd.zeroValue21
  t46 := Tryd.underlying67
  a46 := Tryd.isAgg67
  z46 := Tryd.sizeOf67
  v46 := Tryd.zeroValue67
  t105 := Tryd.underlying83
  a105 := Tryd.isAgg83
  z105 := Tryd.sizeOf83
  v105 := Tryd.zeroValue83
  t119 := Tryd.underlying93
  a119 := Tryd.isAgg93
  z119 := Tryd.sizeOf93
  t138 := Tryd.underlying95
  a138 := Tryd.isAgg95
  z138 := Tryd.sizeOf95
  v138 := Tryd.zeroValue95
  t139 := Tryd.underlying96
  a139 := Tryd.isAgg96
  z139 := Tryd.sizeOf96
  v139 := Tryd.zeroValue96
  g3 := by kernel_rfl
  g4 := by kernel_rfl }
open Go.RowKit Go.Lib in
theorem Tryd.utf8_DecodeRuneInString (s : ByteArray) (w : World) (hT : Lib.Utf8Tabs 0 1 w) :
    Calls Tryd.prog 23 #[.string s] w fun e w' => e = .returned (.tuple #[.int .i32 (Lib.decodeGo s).1, .int .i64 (Lib.decodeGo s).2]) ∧ Below w.heap.size w w' := Any.utf8_DecodeRuneInString Tryd.lays197 s w hT
open Go.RowKit Go.Lib in
theorem Tryd.utf8_DecodeLastRuneInString (s : ByteArray) (w : World) (hs : s.size ≤ 9223372036854775807) (hT : Lib.Utf8Tabs 0 1 w) :
    Calls Tryd.prog 25 #[.string s] w fun e w' => e = .returned (.tuple #[.int .i32 (Lib.decodeLastL s.data.toList).1, .int .i64 (Lib.decodeLastL s.data.toList).2]) ∧ Below w.heap.size w w' := Any.utf8_DecodeLastRuneInString Tryd.lays271 s w hs hT
end Go.Proofs
