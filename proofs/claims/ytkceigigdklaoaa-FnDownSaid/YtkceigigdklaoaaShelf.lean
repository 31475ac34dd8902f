/-
  The shelf contracts of slices.Sort and slices.Min at this dump, in plain words (written by the tool lay-plain).
-/
import Derived.Shelf.Sort.Plain
import Derived.Shelf.Slices.Turned
import Derived.Shelf.Slices.In.SortNone
import Derived.Test.YtkceigigdklaoaaProg
namespace Go.Proofs
open Go.Shelf
def Try.lays189_ren : Go.Shelf.Ren := ⟨fun | 189 => 31 | 125 => 40 | 257 => 39 | 128 => 58 | 129 => 59 | 294 => 49 | 295 => 50 | 296 => 51 | 297 => 52 | 298 => 53 | 299 => 54 | 216 => 55 | 300 => 56 | 301 => 57 | 328 => 60 | 329 => 61 | 330 => 62 | 331 => 63 | 332 => 64 | 215 => 65 | 343 => 66 | n => n, fun | 28 => 22 | 3 => 3 | 46 => 40 | 0 => 0 | 51 => 59 | 53 => 61 | 4 => 4 | 183 => 52 | 182 => 51 | 131 => 56 | 5 => 5 | 9 => 9 | 218 => 68 | 222 => 72 | 228 => 75 | 229 => 76 | n => n, fun | n => n⟩
theorem Try.lays189 : Go.Proofs.Lays.n189 Try.prog Try.lays189_ren := {
  mixed := by kernel_rfl
  f125 := Try.func40.trans (congrArg some (by kernel_rfl))
  f128 := Try.func58.trans (congrArg some (by kernel_rfl))
  f129 := Try.func59.trans (congrArg some (by kernel_rfl))
  f189 := Try.func31.trans (congrArg some (by kernel_rfl))
  f215 := Try.func65.trans (congrArg some (by kernel_rfl))
  f216 := Try.func55.trans (congrArg some (by kernel_rfl))
  f257 := Try.func39.trans (congrArg some (by kernel_rfl))
  f294 := Try.func49.trans (congrArg some (by kernel_rfl))
  f295 := Try.func50.trans (congrArg some (by kernel_rfl))
  f296 := Try.func51.trans (congrArg some (by kernel_rfl))
  f297 := Try.func52.trans (congrArg some (by kernel_rfl))
  f298 := Try.func53.trans (congrArg some (by kernel_rfl))
  f299 := Try.func54.trans (congrArg some (by kernel_rfl))
  f300 := Try.func56.trans (congrArg some (by kernel_rfl))
  f301 := Try.func57.trans (congrArg some (by kernel_rfl))
  f328 := Try.func60.trans (congrArg some (by kernel_rfl))
  f329 := Try.func61.trans (congrArg some (by kernel_rfl))
  f330 := Try.func62.trans (congrArg some (by kernel_rfl))
  f331 := Try.func63.trans (congrArg some (by kernel_rfl))
  f332 := Try.func64.trans (congrArg some (by kernel_rfl))
  f343 := Try.func66.trans (congrArg some (by kernel_rfl))
  t0 := Try.underlying0
  a0 := Try.isAgg0
  z0 := Try.sizeOf0
  v0 := Try.zeroValue0
  t3 := Try.underlying3
  a3 := Try.isAgg3
  z3 := Try.sizeOf3
  v3 := Try.zeroValue3
  t4 := Try.underlying4
  a4 := Try.isAgg4
  z4 := Try.sizeOf4
  v4 := Try.zeroValue4
  t5 := Try.underlying5
  a5 := Try.isAgg5
  z5 := Try.sizeOf5
  v5 := Try.zeroValue5
  t9 := Try.underlying9
  a9 := Try.isAgg9
  z9 := Try.sizeOf9
  v9 := Try.zeroValue9
  t28 := Try.underlying22
  a28 := Try.isAgg22
  z28 := Try.sizeOf22
  v28 := Try.zeroValue22
  t46 := Try.underlying40
  a46 := Try.isAgg40
  z46 := Try.sizeOf40
  v46 := Try.zeroValue40
  t51 := Try.underlying59
  a51 := Try.isAgg59
  z51 := Try.sizeOf59
  v51 := Try.zeroValue59
  t53 := Try.underlying61
  a53 := Try.isAgg61
  z53 := Try.sizeOf61
  v53 := Try.zeroValue61
  t131 := Try.underlying56
  a131 := Try.isAgg56
  z131 := Try.sizeOf56
  v131 := Try.zeroValue56
  t182 := Try.underlying51
  a182 := Try.isAgg51
  z182 := Try.sizeOf51
  v182 := Try.zeroValue51
  t183 := Try.underlying52
  a183 := Try.isAgg52
  z183 := Try.sizeOf52
  v183 := Try.zeroValue52
  t218 := Try.underlying68
  a218 := Try.isAgg68
  z218 := Try.sizeOf68
  v218 := Try.zeroValue68
  t222 := Try.underlying72
  a222 := Try.isAgg72
  z222 := Try.sizeOf72
  v222 := Try.zeroValue72
  t228 := Try.underlying75
  a228 := Try.isAgg75
  z228 := Try.sizeOf75
  v228 := Try.zeroValue75
  t229 := Try.underlying76
  a229 := Try.isAgg76
  z229 := Try.sizeOf76
  v229 := Try.zeroValue76 }
open Go.Sort Go.RowKit in
theorem Try.slices_Sort_int (blk off cap : Nat) (zs : List Int) (w : World) (hH : Holds (Value.int .i64) w blk off zs.toArray) (hblk : blk < w.heap.size) (hsz : zs.length < 4611686018427387904) :
    Calls Try.prog 31 #[.slice (some ⟨blk, off, none⟩) zs.length cap] w fun e w' =>
      e = .returned (.tuple #[]) ∧ ∃ n os, w' = grow (putRow (Value.int .i64) (Sort.ahead w n) blk off (zs.mergeSort fun x y => decide (x ≤ y)).toArray) os := Any.slices_Sort_int Try.lays189 blk off cap zs w hH hblk hsz
def Try.lays114_ren : Go.Shelf.Ren := ⟨fun | 114 => 30 | n => n, fun | 28 => 22 | 3 => 3 | 4 => 4 | 9 => 9 | 20 => 20 | 0 => 0 | n => n, fun | n => n⟩
theorem Try.lays114 : Go.Proofs.Lays.n114 Try.prog Try.lays114_ren := {
  mixed := by kernel_rfl
  f114 := Try.func30.trans (congrArg some (by kernel_rfl))
  t0 := Try.underlying0
  a0 := Try.isAgg0
  z0 := Try.sizeOf0
  v0 := Try.zeroValue0
  t3 := Try.underlying3
  a3 := Try.isAgg3
  z3 := Try.sizeOf3
  v3 := Try.zeroValue3
  t4 := Try.underlying4
  a4 := Try.isAgg4
  z4 := Try.sizeOf4
  v4 := Try.zeroValue4
  t9 := Try.underlying9
  a9 := Try.isAgg9
  z9 := Try.sizeOf9
  v9 := Try.zeroValue9
  t20 := Try.underlying20
  a20 := Try.isAgg20
  z20 := Try.sizeOf20
  v20 := Try.zeroValue20
  t28 := Try.underlying22
  a28 := Try.isAgg22
  z28 := Try.sizeOf22
  v28 := Try.zeroValue22 }
open Go.Lib in
/-- slices.Min at []int: "Min returns the minimal value in x. It panics if x is empty.": OF A SLICE THAT IS NOT EMPTY IT RETURNS 'Lib.minOf (the elements)'; the world is as it was. (Of an empty one it panics: no contract here.) (LAID: no walk: one application.) -/
theorem Try.slices_Min_int (b off n c : Nat) (zs : List Int) (w : World) (hn : 0 < n) (hz : n ≤ zs.length) (hbig : n ≤ 9223372036854775807) (hc : ∀ j, j < zs.length → w.cell? ⟨b, off + j, none⟩ = some (.int .i64 (zs.getD j 0))) :
    Calls Try.prog 30 #[.slice (some ⟨b, off, none⟩) n c] w fun e w' => e = .returned (.int .i64 (Lib.minOf (zs.take n))) ∧ w' = w := Any.slices_Min_int Try.lays114 b off n c zs w hn hz hbig hc
open Go.RowKit Go.Sort in
/-- .. and plain. (LAID: no walk: one application.) -/
theorem Try.slices_Sort_int_none (p : Option Addr) (cap : Nat) (w : World) :
    Calls Try.prog 31 #[.slice p 0 cap] w fun e w' => e = .returned (.tuple #[]) ∧ w' = w := Any.slices_Sort_int_none Try.lays189 p cap w
end Go.Proofs
