/- The shelf's contracts of sort.Strings, laid at this program (written by the kit's tools lay-shelf and lay-plain). -/
import Derived.Shelf.Sort.Plain
import Derived.Shelf.Slices.In.SortNone
import Derived.Shelf.Slices.In.SortNone2
import Derived.Test.YtadehfoamdkcmaaRows
namespace Go.Proofs
open Go.Shelf
def Try.lays192_ren : Go.Shelf.Ren := ⟨fun | 192 => 10 | 190 => 14 | 125 => 18 | 258 => 17 | 128 => 29 | 129 => 30 | 302 => 20 | 303 => 21 | 304 => 22 | 305 => 23 | 306 => 24 | 307 => 25 | 308 => 26 | 309 => 27 | 310 => 28 | 333 => 31 | 329 => 32 | 330 => 33 | 334 => 34 | 335 => 35 | 336 => 36 | 344 => 37 | n => n, fun | 31 => 22 | 0 => 0 | 9 => 9 | 3 => 3 | 46 => 61 | 51 => 73 | 53 => 75 | 4 => 4 | 183 => 65 | 182 => 64 | 131 => 70 | 5 => 5 | 218 => 76 | 222 => 80 | 228 => 83 | 229 => 84 | n => n, fun | n => n⟩
theorem Try.lays192 : Go.Proofs.Lays.n192 Try.prog Try.lays192_ren := {
  mixed := by kernel_rfl
  f125 := Try.func18.trans (congrArg some (by kernel_rfl))
  f128 := Try.func29.trans (congrArg some (by kernel_rfl))
  f129 := Try.func30.trans (congrArg some (by kernel_rfl))
  f190 := Try.func14.trans (congrArg some (by kernel_rfl))
  f192 := Try.func10.trans (congrArg some (by kernel_rfl))
  f258 := Try.func17.trans (congrArg some (by kernel_rfl))
  f302 := Try.func20.trans (congrArg some (by kernel_rfl))
  f303 := Try.func21.trans (congrArg some (by kernel_rfl))
  f304 := Try.func22.trans (congrArg some (by kernel_rfl))
  f305 := Try.func23.trans (congrArg some (by kernel_rfl))
  f306 := Try.func24.trans (congrArg some (by kernel_rfl))
  f307 := Try.func25.trans (congrArg some (by kernel_rfl))
  f308 := Try.func26.trans (congrArg some (by kernel_rfl))
  f309 := Try.func27.trans (congrArg some (by kernel_rfl))
  f310 := Try.func28.trans (congrArg some (by kernel_rfl))
  f329 := Try.func32.trans (congrArg some (by kernel_rfl))
  f330 := Try.func33.trans (congrArg some (by kernel_rfl))
  f333 := Try.func31.trans (congrArg some (by kernel_rfl))
  f334 := Try.func34.trans (congrArg some (by kernel_rfl))
  f335 := Try.func35.trans (congrArg some (by kernel_rfl))
  f336 := Try.func36.trans (congrArg some (by kernel_rfl))
  f344 := Try.func37.trans (congrArg some (by kernel_rfl))
  t0 := Try.underlying0
  a0 := Try.isAgg0
  z0 := Try.sizeOf0
  v0 := Try.zeroValue0
  t3 := Try.underlying3
  a3 := Try.isAgg3
  z3 := Try.sizeOf3
  v3 := Try.zeroValue3
  t4 := Try.underlying4
  a4 := Try.isAgg4
  z4 := Try.sizeOf4
  v4 := Try.zeroValue4
  t5 := Try.underlying5
  a5 := Try.isAgg5
  z5 := Try.sizeOf5
  v5 := Try.zeroValue5
  t9 := Try.underlying9
  a9 := Try.isAgg9
  z9 := Try.sizeOf9
  v9 := Try.zeroValue9
  t31 := Try.underlying22
  a31 := Try.isAgg22
  z31 := Try.sizeOf22
  v31 := Try.zeroValue22
  t46 := Try.underlying61
  a46 := Try.isAgg61
  z46 := Try.sizeOf61
  v46 := Try.zeroValue61
  t51 := Try.underlying73
  a51 := Try.isAgg73
  z51 := Try.sizeOf73
  v51 := Try.zeroValue73
  t53 := Try.underlying75
  a53 := Try.isAgg75
  z53 := Try.sizeOf75
  v53 := Try.zeroValue75
  t131 := Try.underlying70
  a131 := Try.isAgg70
  z131 := Try.sizeOf70
  v131 := Try.zeroValue70
  t182 := Try.underlying64
  a182 := Try.isAgg64
  z182 := Try.sizeOf64
  v182 := Try.zeroValue64
  t183 := Try.underlying65
  a183 := Try.isAgg65
  z183 := Try.sizeOf65
  v183 := Try.zeroValue65
  t218 := Try.underlying76
  a218 := Try.isAgg76
  z218 := Try.sizeOf76
  v218 := Try.zeroValue76
  t222 := Try.underlying80
  a222 := Try.isAgg80
  z222 := Try.sizeOf80
  v222 := Try.zeroValue80
  t228 := Try.underlying83
  a228 := Try.isAgg83
  z228 := Try.sizeOf83
  v228 := Try.zeroValue83
  t229 := Try.underlying84
  a229 := Try.isAgg84
  z229 := Try.sizeOf84
  v229 := Try.zeroValue84 }
open Go.Sort Go.RowKit in
theorem Try.sort_Strings (blk off cap : Nat) (ss : List (List UInt8)) (w : World) (hH : Holds encStr w blk off ss.toArray) (hblk : blk < w.heap.size) (hsz : ss.length < 4611686018427387904) :
    Calls Try.prog 10 #[.slice (some ⟨blk, off, none⟩) ss.length cap] w fun e w' =>
      e = .returned (.tuple #[]) ∧ ∃ n os, w' = grow (putRow encStr (Sort.ahead w n) blk off (ss.mergeSort fun x y => decide (x ≤ y)).toArray) os := Any.sort_Strings Try.lays192 blk off cap ss w hH hblk hsz
open Go.RowKit Go.Sort in
/-- .. and plain. (LAID: no walk: one application.) -/
theorem Try.sort_Strings_none (p : Option Addr) (cap : Nat) (w : World) :
    Calls Try.prog 10 #[.slice p 0 cap] w fun e w' => e = .returned (.tuple #[]) ∧ w' = w := Any.sort_Strings_none Try.lays192 p cap w
end Go.Proofs
