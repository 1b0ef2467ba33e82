/-
  THE SHELF's CONTRACT OF slices.Sort AT []int, LAID AT THIS DUMP (the kit's lay-shelf.mjs and lay-plain.mjs wrote it).
-/
import Derived.Shelf.Sort.Plain
import Derived.Test.Qxb6604014aProg
namespace Go.Proofs
open Go.Shelf
def Try.lays189_ren : Go.Shelf.Ren := ⟨fun | 189 => 38 | 125 => 45 | 257 => 44 | 128 => 57 | 129 => 58 | 294 => 48 | 295 => 49 | 296 => 50 | 297 => 51 | 298 => 52 | 299 => 53 | 216 => 54 | 300 => 55 | 301 => 56 | 328 => 59 | 329 => 60 | 330 => 61 | 331 => 62 | 332 => 63 | 215 => 64 | 343 => 65 | n => n, fun | 28 => 35 | 3 => 3 | 46 => 62 | 0 => 0 | 51 => 69 | 53 => 72 | 4 => 4 | 183 => 77 | 182 => 76 | 131 => 82 | 5 => 5 | 9 => 9 | 218 => 86 | 222 => 90 | 228 => 92 | 229 => 93 | n => n, fun | n => n⟩
theorem Try.lays189 : Go.Proofs.Lays.n189 Try.prog Try.lays189_ren := {
  mixed := by kernel_rfl
  f125 := Try.func45.trans (congrArg some (by kernel_rfl))
  f128 := Try.func57.trans (congrArg some (by kernel_rfl))
  f129 := Try.func58.trans (congrArg some (by kernel_rfl))
  f189 := Try.func38.trans (congrArg some (by kernel_rfl))
  f215 := Try.func64.trans (congrArg some (by kernel_rfl))
  f216 := Try.func54.trans (congrArg some (by kernel_rfl))
  f257 := Try.func44.trans (congrArg some (by kernel_rfl))
  f294 := Try.func48.trans (congrArg some (by kernel_rfl))
  f295 := Try.func49.trans (congrArg some (by kernel_rfl))
  f296 := Try.func50.trans (congrArg some (by kernel_rfl))
  f297 := Try.func51.trans (congrArg some (by kernel_rfl))
  f298 := Try.func52.trans (congrArg some (by kernel_rfl))
  f299 := Try.func53.trans (congrArg some (by kernel_rfl))
  f300 := Try.func55.trans (congrArg some (by kernel_rfl))
  f301 := Try.func56.trans (congrArg some (by kernel_rfl))
  f328 := Try.func59.trans (congrArg some (by kernel_rfl))
  f329 := Try.func60.trans (congrArg some (by kernel_rfl))
  f330 := Try.func61.trans (congrArg some (by kernel_rfl))
  f331 := Try.func62.trans (congrArg some (by kernel_rfl))
  f332 := Try.func63.trans (congrArg some (by kernel_rfl))
  f343 := Try.func65.trans (congrArg some (by kernel_rfl))
  t0 := Try.underlying0
  a0 := Try.isAgg0
  z0 := Try.sizeOf0
  v0 := Try.zeroValue0
  t3 := Try.underlying3
  a3 := Try.isAgg3
  z3 := Try.sizeOf3
  v3 := Try.zeroValue3
  t4 := Try.underlying4
  a4 := Try.isAgg4
  z4 := Try.sizeOf4
  v4 := Try.zeroValue4
  t5 := Try.underlying5
  a5 := Try.isAgg5
  z5 := Try.sizeOf5
  v5 := Try.zeroValue5
  t9 := Try.underlying9
  a9 := Try.isAgg9
  z9 := Try.sizeOf9
  v9 := Try.zeroValue9
  t28 := Try.underlying35
  a28 := Try.isAgg35
  z28 := Try.sizeOf35
  v28 := Try.zeroValue35
  t46 := Try.underlying62
  a46 := Try.isAgg62
  z46 := Try.sizeOf62
  v46 := Try.zeroValue62
  t51 := Try.underlying69
  a51 := Try.isAgg69
  z51 := Try.sizeOf69
  v51 := Try.zeroValue69
  t53 := Try.underlying72
  a53 := Try.isAgg72
  z53 := Try.sizeOf72
  v53 := Try.zeroValue72
  t131 := Try.underlying82
  a131 := Try.isAgg82
  z131 := Try.sizeOf82
  v131 := Try.zeroValue82
  t182 := Try.underlying76
  a182 := Try.isAgg76
  z182 := Try.sizeOf76
  v182 := Try.zeroValue76
  t183 := Try.underlying77
  a183 := Try.isAgg77
  z183 := Try.sizeOf77
  v183 := Try.zeroValue77
  t218 := Try.underlying86
  a218 := Try.isAgg86
  z218 := Try.sizeOf86
  v218 := Try.zeroValue86
  t222 := Try.underlying90
  a222 := Try.isAgg90
  z222 := Try.sizeOf90
  v222 := Try.zeroValue90
  t228 := Try.underlying92
  a228 := Try.isAgg92
  z228 := Try.sizeOf92
  v228 := Try.zeroValue92
  t229 := Try.underlying93
  a229 := Try.isAgg93
  z229 := Try.sizeOf93
  v229 := Try.zeroValue93 }
open Go.Sort Go.RowKit in
theorem Try.slices_Sort_int (blk off cap : Nat) (zs : List Int) (w : World) (hH : Holds (Value.int .i64) w blk off zs.toArray) (hblk : blk < w.heap.size) (hsz : zs.length < 4611686018427387904) :
    Calls Try.prog 38 #[.slice (some ⟨blk, off, none⟩) zs.length cap] w fun e w' =>
      e = .returned (.tuple #[]) ∧ ∃ n os, w' = grow (putRow (Value.int .i64) (Sort.ahead w n) blk off (zs.mergeSort fun x y => decide (x ≤ y)).toArray) os := Any.slices_Sort_int Try.lays189 blk off cap zs w hH hblk hsz
end Go.Proofs
