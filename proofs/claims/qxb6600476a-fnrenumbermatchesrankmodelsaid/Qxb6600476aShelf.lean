/-
  THE SHELF's CONTRACTS OF slices.Sort, Compact, BinarySearch AT []int, LAID AT THIS DUMP IN PLAIN WORDS (written by the kit's lay-shelf.mjs and lay-plain.mjs for this program).
-/
import Derived.Shelf.Sort.Plain
import Derived.Ground.Names2Prog
import Derived.Shelf.Slices.CompactI
import Derived.Shelf.Slices.SearchI
import Derived.Test.Qxb6600476aProg
namespace Go.Proofs
open Go.Shelf
def Try.lays189_ren : Go.Shelf.Ren := ⟨fun | 189 => 34 | 125 => 39 | 257 => 38 | 128 => 50 | 129 => 51 | 294 => 42 | 295 => 43 | 296 => 44 | 297 => 45 | 298 => 46 | 299 => 47 | 216 => 40 | 300 => 48 | 301 => 49 | 328 => 53 | 329 => 54 | 330 => 55 | 331 => 56 | 332 => 57 | 215 => 52 | 343 => 58 | n => n, fun | 28 => 29 | 3 => 3 | 46 => 62 | 0 => 0 | 51 => 72 | 53 => 74 | 4 => 4 | 183 => 66 | 182 => 65 | 131 => 58 | 5 => 5 | 9 => 9 | 218 => 75 | 222 => 79 | 228 => 81 | 229 => 82 | n => n, fun | n => n⟩
theorem Try.lays189 : Go.Proofs.Lays.n189 Try.prog Try.lays189_ren := {
  mixed := by kernel_rfl
  f125 := Try.func39.trans (congrArg some (by kernel_rfl))
  f128 := Try.func50.trans (congrArg some (by kernel_rfl))
  f129 := Try.func51.trans (congrArg some (by kernel_rfl))
  f189 := Try.func34.trans (congrArg some (by kernel_rfl))
  f215 := Try.func52.trans (congrArg some (by kernel_rfl))
  f216 := Try.func40.trans (congrArg some (by kernel_rfl))
  f257 := Try.func38.trans (congrArg some (by kernel_rfl))
  f294 := Try.func42.trans (congrArg some (by kernel_rfl))
  f295 := Try.func43.trans (congrArg some (by kernel_rfl))
  f296 := Try.func44.trans (congrArg some (by kernel_rfl))
  f297 := Try.func45.trans (congrArg some (by kernel_rfl))
  f298 := Try.func46.trans (congrArg some (by kernel_rfl))
  f299 := Try.func47.trans (congrArg some (by kernel_rfl))
  f300 := Try.func48.trans (congrArg some (by kernel_rfl))
  f301 := Try.func49.trans (congrArg some (by kernel_rfl))
  f328 := Try.func53.trans (congrArg some (by kernel_rfl))
  f329 := Try.func54.trans (congrArg some (by kernel_rfl))
  f330 := Try.func55.trans (congrArg some (by kernel_rfl))
  f331 := Try.func56.trans (congrArg some (by kernel_rfl))
  f332 := Try.func57.trans (congrArg some (by kernel_rfl))
  f343 := Try.func58.trans (congrArg some (by kernel_rfl))
  t0 := Try.underlying0
  a0 := Try.isAgg0
  z0 := Try.sizeOf0
  v0 := Try.zeroValue0
  t3 := Try.underlying3
  a3 := Try.isAgg3
  z3 := Try.sizeOf3
  v3 := Try.zeroValue3
  t4 := Try.underlying4
  a4 := Try.isAgg4
  z4 := Try.sizeOf4
  v4 := Try.zeroValue4
  t5 := Try.underlying5
  a5 := Try.isAgg5
  z5 := Try.sizeOf5
  v5 := Try.zeroValue5
  t9 := Try.underlying9
  a9 := Try.isAgg9
  z9 := Try.sizeOf9
  v9 := Try.zeroValue9
  t28 := Try.underlying29
  a28 := Try.isAgg29
  z28 := Try.sizeOf29
  v28 := Try.zeroValue29
  t46 := Try.underlying62
  a46 := Try.isAgg62
  z46 := Try.sizeOf62
  v46 := Try.zeroValue62
  t51 := Try.underlying72
  a51 := Try.isAgg72
  z51 := Try.sizeOf72
  v51 := Try.zeroValue72
  t53 := Try.underlying74
  a53 := Try.isAgg74
  z53 := Try.sizeOf74
  v53 := Try.zeroValue74
  t131 := Try.underlying58
  a131 := Try.isAgg58
  z131 := Try.sizeOf58
  v131 := Try.zeroValue58
  t182 := Try.underlying65
  a182 := Try.isAgg65
  z182 := Try.sizeOf65
  v182 := Try.zeroValue65
  t183 := Try.underlying66
  a183 := Try.isAgg66
  z183 := Try.sizeOf66
  v183 := Try.zeroValue66
  t218 := Try.underlying75
  a218 := Try.isAgg75
  z218 := Try.sizeOf75
  v218 := Try.zeroValue75
  t222 := Try.underlying79
  a222 := Try.isAgg79
  z222 := Try.sizeOf79
  v222 := Try.zeroValue79
  t228 := Try.underlying81
  a228 := Try.isAgg81
  z228 := Try.sizeOf81
  v228 := Try.zeroValue81
  t229 := Try.underlying82
  a229 := Try.isAgg82
  z229 := Try.sizeOf82
  v229 := Try.zeroValue82 }
open Go.Sort Go.RowKit in
theorem Try.slices_Sort_int (blk off cap : Nat) (zs : List Int) (w : World) (hH : Holds (Value.int .i64) w blk off zs.toArray) (hblk : blk < w.heap.size) (hsz : zs.length < 4611686018427387904) :
    Calls Try.prog 34 #[.slice (some ⟨blk, off, none⟩) zs.length cap] w fun e w' =>
      e = .returned (.tuple #[]) ∧ ∃ n os, w' = grow (putRow (Value.int .i64) (Sort.ahead w n) blk off (zs.mergeSort fun x y => decide (x ≤ y)).toArray) os := Any.slices_Sort_int Try.lays189 blk off cap zs w hH hblk hsz
def Try.laysNm220_ren : Go.Shelf.Ren := ⟨fun | 20 => 35 | n => n, fun | 22 => 29 | 3 => 3 | 4 => 4 | 0 => 0 | n => n, fun | n => n⟩
theorem Try.laysNm220 : Go.Proofs.Lays2.n20 Try.prog Try.laysNm220_ren := {
  mixed := by kernel_rfl
  f20 := Try.func35.trans (congrArg some (by kernel_rfl))
  t0 := Try.underlying0
  a0 := Try.isAgg0
  z0 := Try.sizeOf0
  v0 := Try.zeroValue0
  t3 := Try.underlying3
  a3 := Try.isAgg3
  z3 := Try.sizeOf3
  v3 := Try.zeroValue3
  t4 := Try.underlying4
  a4 := Try.isAgg4
  z4 := Try.sizeOf4
  v4 := Try.zeroValue4
  t22 := Try.underlying29
  a22 := Try.isAgg29
  z22 := Try.sizeOf29
  v22 := Try.zeroValue29
  i3 := by kernel_rfl }
open Go.RowKit Go.Lib Go.Sort in
theorem Try.slices_Compact_int_arr (blk off cap : Nat) (d : Array Int) (w : World) (hH : Holds encI w blk off d) (hsz : d.size ≤ 9223372036854775807) (hcap : d.size ≤ cap) :
    Calls Try.prog 35 #[.slice (some ⟨blk, off, none⟩) d.size cap] w fun e w' => e = .returned (.slice (some ⟨blk, off, none⟩) (compactUpTo d d.size).length cap) ∧ ∃ q, w' = putRow encI (Sort.ahead w q) blk off (compactUpTo d d.size ++ List.replicate (d.size - (compactUpTo d d.size).length) 0).toArray := Any.slices_Compact_int_arr Try.laysNm220 blk off cap d w hH hsz hcap
open Go.RowKit Go.Lib Go.Sort in
theorem Try.slices_Compact_int (blk off cap : Nat) (zs : List Int) (w : World) (hH : Holds (Value.int .i64) w blk off zs.toArray) (hsz : zs.length ≤ 9223372036854775807) (hcap : zs.length ≤ cap) :
    Calls Try.prog 35 #[.slice (some ⟨blk, off, none⟩) zs.length cap] w fun e w' => e = .returned (.slice (some ⟨blk, off, none⟩) (Lib.compact zs).length cap) ∧ ∃ q, w' = putRow (Value.int .i64) (Sort.ahead w q) blk off (Lib.compact zs ++ List.replicate (zs.length - (Lib.compact zs).length) 0).toArray := Any.slices_Compact_int Try.laysNm220 blk off cap zs w hH hsz hcap
open Go.RowKit Go.Lib Go.Sort in
theorem Try.slices_Compact_int_empty (a : Option Addr) (cap : Nat) (w : World) :
    Calls Try.prog 35 #[.slice a 0 cap] w fun e w' => e = .returned (.slice a 0 cap) ∧ w' = w := Any.slices_Compact_int_empty Try.laysNm220 a cap w
def Try.laysNm225_ren : Go.Shelf.Ren := ⟨fun | 25 => 37 | 31 => 40 | 32 => 41 | 37 => 52 | n => n, fun | 22 => 29 | 3 => 3 | 4 => 4 | 40 => 62 | 0 => 0 | n => n, fun | n => n⟩
theorem Try.laysNm225 : Go.Proofs.Lays2.n25 Try.prog Try.laysNm225_ren := {
  mixed := by kernel_rfl
  f25 := Try.func37.trans (congrArg some (by kernel_rfl))
  f31 := Try.func40.trans (congrArg some (by kernel_rfl))
  f32 := Try.func41.trans (congrArg some (by kernel_rfl))
  f37 := Try.func52.trans (congrArg some (by kernel_rfl))
  t0 := Try.underlying0
  a0 := Try.isAgg0
  z0 := Try.sizeOf0
  v0 := Try.zeroValue0
  t3 := Try.underlying3
  a3 := Try.isAgg3
  z3 := Try.sizeOf3
  v3 := Try.zeroValue3
  t4 := Try.underlying4
  a4 := Try.isAgg4
  z4 := Try.sizeOf4
  v4 := Try.zeroValue4
  t22 := Try.underlying29
  a22 := Try.isAgg29
  z22 := Try.sizeOf29
  v22 := Try.zeroValue29
  t40 := Try.underlying62
  a40 := Try.isAgg62
  z40 := Try.sizeOf62
  v40 := Try.zeroValue62 }
open Go.RowKit Go.Lib in
theorem Try.slices_BinarySearch_int (b off n c : Nat) (zs : List Int) (x : Int) (w : World) (hz : n ≤ zs.length) (hbig : n < 4611686018427387904) (hc : ∀ j, j < zs.length → w.cell? ⟨b, off + j, none⟩ = some (.int .i64 (zs.getD j 0))) (hs : (zs.take n).Pairwise (· ≤ ·)) :
    Calls Try.prog 37 #[.slice (some ⟨b, off, none⟩) n c, .int .i64 x] w fun e w' => e = .returned (.tuple #[.int .i64 ((zs.take n).countP (· < x) : Nat), .bool ((zs.take n).contains x)]) ∧ ∃ q, w' = w.drewN q := Any.slices_BinarySearch_int Try.laysNm225 b off n c zs x w hz hbig hc hs
end Go.Proofs
