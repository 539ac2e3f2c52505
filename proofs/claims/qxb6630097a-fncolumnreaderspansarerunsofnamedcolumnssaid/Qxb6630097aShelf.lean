/- The contract of slices.Sort over this program, laid by the kit's shelf in plain words. -/
import Derived.Shelf.Sort.Plain
import Derived.Shelf.Slices.In.SortNone
import Derived.Test.Qxb6630097aProg
namespace Go.Proofs
open Go.Shelf
def Try.lays189_ren : Go.Shelf.Ren := ⟨fun | 189 => 20 | 125 => 25 | 257 => 24 | 128 => 34 | 129 => 35 | 294 => 26 | 295 => 27 | 296 => 28 | 297 => 29 | 298 => 30 | 299 => 31 | 216 => 18 | 300 => 32 | 301 => 33 | 328 => 36 | 329 => 37 | 330 => 38 | 331 => 39 | 332 => 40 | 215 => 22 | 343 => 41 | n => n, fun | 28 => 23 | 3 => 3 | 46 => 61 | 0 => 0 | 51 => 71 | 53 => 73 | 4 => 4 | 183 => 64 | 182 => 63 | 131 => 68 | 5 => 5 | 9 => 9 | 218 => 74 | 222 => 78 | 228 => 80 | 229 => 81 | n => n, fun | n => n⟩
theorem Try.lays189 : Go.Proofs.Lays.n189 Try.prog Try.lays189_ren := {
  mixed := by kernel_rfl
  f125 := Try.func25.trans (congrArg some (by kernel_rfl))
  f128 := Try.func34.trans (congrArg some (by kernel_rfl))
  f129 := Try.func35.trans (congrArg some (by kernel_rfl))
  f189 := Try.func20.trans (congrArg some (by kernel_rfl))
  f215 := Try.func22.trans (congrArg some (by kernel_rfl))
  f216 := Try.func18.trans (congrArg some (by kernel_rfl))
  f257 := Try.func24.trans (congrArg some (by kernel_rfl))
  f294 := Try.func26.trans (congrArg some (by kernel_rfl))
  f295 := Try.func27.trans (congrArg some (by kernel_rfl))
  f296 := Try.func28.trans (congrArg some (by kernel_rfl))
  f297 := Try.func29.trans (congrArg some (by kernel_rfl))
  f298 := Try.func30.trans (congrArg some (by kernel_rfl))
  f299 := Try.func31.trans (congrArg some (by kernel_rfl))
  f300 := Try.func32.trans (congrArg some (by kernel_rfl))
  f301 := Try.func33.trans (congrArg some (by kernel_rfl))
  f328 := Try.func36.trans (congrArg some (by kernel_rfl))
  f329 := Try.func37.trans (congrArg some (by kernel_rfl))
  f330 := Try.func38.trans (congrArg some (by kernel_rfl))
  f331 := Try.func39.trans (congrArg some (by kernel_rfl))
  f332 := Try.func40.trans (congrArg some (by kernel_rfl))
  f343 := Try.func41.trans (congrArg some (by kernel_rfl))
  t0 := Try.underlying0
  a0 := Try.isAgg0
  z0 := Try.sizeOf0
  v0 := Try.zeroValue0
  t3 := Try.underlying3
  a3 := Try.isAgg3
  z3 := Try.sizeOf3
  v3 := Try.zeroValue3
  t4 := Try.underlying4
  a4 := Try.isAgg4
  z4 := Try.sizeOf4
  v4 := Try.zeroValue4
  t5 := Try.underlying5
  a5 := Try.isAgg5
  z5 := Try.sizeOf5
  v5 := Try.zeroValue5
  t9 := Try.underlying9
  a9 := Try.isAgg9
  z9 := Try.sizeOf9
  v9 := Try.zeroValue9
  t28 := Try.underlying23
  a28 := Try.isAgg23
  z28 := Try.sizeOf23
  v28 := Try.zeroValue23
  t46 := Try.underlying61
  a46 := Try.isAgg61
  z46 := Try.sizeOf61
  v46 := Try.zeroValue61
  t51 := Try.underlying71
  a51 := Try.isAgg71
  z51 := Try.sizeOf71
  v51 := Try.zeroValue71
  t53 := Try.underlying73
  a53 := Try.isAgg73
  z53 := Try.sizeOf73
  v53 := Try.zeroValue73
  t131 := Try.underlying68
  a131 := Try.isAgg68
  z131 := Try.sizeOf68
  v131 := Try.zeroValue68
  t182 := Try.underlying63
  a182 := Try.isAgg63
  z182 := Try.sizeOf63
  v182 := Try.zeroValue63
  t183 := Try.underlying64
  a183 := Try.isAgg64
  z183 := Try.sizeOf64
  v183 := Try.zeroValue64
  t218 := Try.underlying74
  a218 := Try.isAgg74
  z218 := Try.sizeOf74
  v218 := Try.zeroValue74
  t222 := Try.underlying78
  a222 := Try.isAgg78
  z222 := Try.sizeOf78
  v222 := Try.zeroValue78
  t228 := Try.underlying80
  a228 := Try.isAgg80
  z228 := Try.sizeOf80
  v228 := Try.zeroValue80
  t229 := Try.underlying81
  a229 := Try.isAgg81
  z229 := Try.sizeOf81
  v229 := Try.zeroValue81 }
open Go.Sort Go.RowKit in
theorem Try.slices_Sort_int (blk off cap : Nat) (zs : List Int) (w : World) (hH : Holds (Value.int .i64) w blk off zs.toArray) (hblk : blk < w.heap.size) (hsz : zs.length < 4611686018427387904) :
    Calls Try.prog 20 #[.slice (some ⟨blk, off, none⟩) zs.length cap] w fun e w' =>
      e = .returned (.tuple #[]) ∧ ∃ n os, w' = grow (putRow (Value.int .i64) (Sort.ahead w n) blk off (zs.mergeSort fun x y => decide (x ≤ y)).toArray) os := Any.slices_Sort_int Try.lays189 blk off cap zs w hH hblk hsz
open Go.RowKit Go.Sort in
/-- .. and plain. (LAID: no walk: one application.) -/
theorem Try.slices_Sort_int_none (p : Option Addr) (cap : Nat) (w : World) :
    Calls Try.prog 20 #[.slice p 0 cap] w fun e w' => e = .returned (.tuple #[]) ∧ w' = w := Any.slices_Sort_int_none Try.lays189 p cap w
end Go.Proofs
