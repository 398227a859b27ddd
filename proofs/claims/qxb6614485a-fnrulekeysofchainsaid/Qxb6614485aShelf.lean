/- slices.Sort and slices.Compact at []int: the shelf's contracts at this program, as the kit's tools (lay-shelf.mjs, lay-plain.mjs) wrote them. -/
import Derived.Shelf.Sort.Plain
import Derived.Ground.Names2Prog
import Derived.Shelf.Slices.CompactI
import Derived.Shelf.Slices.Cells
import Derived.Shelf.Slices.In.SortNone
import Derived.Test.Qxb6614485aProg
namespace Go.Proofs.Qxb6614485a
open Go.Shelf
def Try.lays189_ren : Go.Shelf.Ren := ⟨fun | 189 => 28 | 125 => 34 | 257 => 33 | 128 => 44 | 129 => 45 | 294 => 35 | 295 => 36 | 296 => 37 | 297 => 38 | 298 => 39 | 299 => 40 | 216 => 41 | 300 => 42 | 301 => 43 | 328 => 46 | 329 => 47 | 330 => 48 | 331 => 49 | 332 => 50 | 215 => 51 | 343 => 52 | n => n, fun | 28 => 23 | 3 => 3 | 46 => 101 | 0 => 0 | 51 => 112 | 53 => 114 | 4 => 4 | 183 => 104 | 182 => 103 | 131 => 109 | 5 => 5 | 9 => 9 | 218 => 115 | 222 => 119 | 228 => 122 | 229 => 123 | n => n, fun | n => n⟩
theorem Try.lays189 : Go.Proofs.Lays.n189 Try.prog Try.lays189_ren := {
  mixed := by kernel_rfl
  f125 := Try.func34.trans (congrArg some (by kernel_rfl))
  f128 := Try.func44.trans (congrArg some (by kernel_rfl))
  f129 := Try.func45.trans (congrArg some (by kernel_rfl))
  f189 := Try.func28.trans (congrArg some (by kernel_rfl))
  f215 := Try.func51.trans (congrArg some (by kernel_rfl))
  f216 := Try.func41.trans (congrArg some (by kernel_rfl))
  f257 := Try.func33.trans (congrArg some (by kernel_rfl))
  f294 := Try.func35.trans (congrArg some (by kernel_rfl))
  f295 := Try.func36.trans (congrArg some (by kernel_rfl))
  f296 := Try.func37.trans (congrArg some (by kernel_rfl))
  f297 := Try.func38.trans (congrArg some (by kernel_rfl))
  f298 := Try.func39.trans (congrArg some (by kernel_rfl))
  f299 := Try.func40.trans (congrArg some (by kernel_rfl))
  f300 := Try.func42.trans (congrArg some (by kernel_rfl))
  f301 := Try.func43.trans (congrArg some (by kernel_rfl))
  f328 := Try.func46.trans (congrArg some (by kernel_rfl))
  f329 := Try.func47.trans (congrArg some (by kernel_rfl))
  f330 := Try.func48.trans (congrArg some (by kernel_rfl))
  f331 := Try.func49.trans (congrArg some (by kernel_rfl))
  f332 := Try.func50.trans (congrArg some (by kernel_rfl))
  f343 := Try.func52.trans (congrArg some (by kernel_rfl))
  t0 := Try.underlying0
  a0 := Try.isAgg0
  z0 := Try.sizeOf0
  v0 := Try.zeroValue0
  t3 := Try.underlying3
  a3 := Try.isAgg3
  z3 := Try.sizeOf3
  v3 := Try.zeroValue3
  t4 := Try.underlying4
  a4 := Try.isAgg4
  z4 := Try.sizeOf4
  v4 := Try.zeroValue4
  t5 := Try.underlying5
  a5 := Try.isAgg5
  z5 := Try.sizeOf5
  v5 := Try.zeroValue5
  t9 := Try.underlying9
  a9 := Try.isAgg9
  z9 := Try.sizeOf9
  v9 := Try.zeroValue9
  t28 := Try.underlying23
  a28 := Try.isAgg23
  z28 := Try.sizeOf23
  v28 := Try.zeroValue23
  t46 := Try.underlying101
  a46 := Try.isAgg101
  z46 := Try.sizeOf101
  v46 := Try.zeroValue101
  t51 := Try.underlying112
  a51 := Try.isAgg112
  z51 := Try.sizeOf112
  v51 := Try.zeroValue112
  t53 := Try.underlying114
  a53 := Try.isAgg114
  z53 := Try.sizeOf114
  v53 := Try.zeroValue114
  t131 := Try.underlying109
  a131 := Try.isAgg109
  z131 := Try.sizeOf109
  v131 := Try.zeroValue109
  t182 := Try.underlying103
  a182 := Try.isAgg103
  z182 := Try.sizeOf103
  v182 := Try.zeroValue103
  t183 := Try.underlying104
  a183 := Try.isAgg104
  z183 := Try.sizeOf104
  v183 := Try.zeroValue104
  t218 := Try.underlying115
  a218 := Try.isAgg115
  z218 := Try.sizeOf115
  v218 := Try.zeroValue115
  t222 := Try.underlying119
  a222 := Try.isAgg119
  z222 := Try.sizeOf119
  v222 := Try.zeroValue119
  t228 := Try.underlying122
  a228 := Try.isAgg122
  z228 := Try.sizeOf122
  v228 := Try.zeroValue122
  t229 := Try.underlying123
  a229 := Try.isAgg123
  z229 := Try.sizeOf123
  v229 := Try.zeroValue123 }
open Go.Sort Go.RowKit in
theorem Try.slices_Sort_int (blk off cap : Nat) (zs : List Int) (w : World) (hH : Holds (Value.int .i64) w blk off zs.toArray) (hblk : blk < w.heap.size) (hsz : zs.length < 4611686018427387904) :
    Calls Try.prog 28 #[.slice (some ⟨blk, off, none⟩) zs.length cap] w fun e w' =>
      e = .returned (.tuple #[]) ∧ ∃ n os, w' = grow (putRow (Value.int .i64) (Sort.ahead w n) blk off (zs.mergeSort fun x y => decide (x ≤ y)).toArray) os := Any.slices_Sort_int Try.lays189 blk off cap zs w hH hblk hsz
def Try.laysNm220_ren : Go.Shelf.Ren := ⟨fun | 20 => 29 | n => n, fun | 22 => 23 | 3 => 3 | 4 => 4 | 0 => 0 | n => n, fun | n => n⟩
theorem Try.laysNm220 : Go.Proofs.Lays2.n20 Try.prog Try.laysNm220_ren := {
  mixed := by kernel_rfl
  f20 := Try.func29.trans (congrArg some (by kernel_rfl))
  t0 := Try.underlying0
  a0 := Try.isAgg0
  z0 := Try.sizeOf0
  v0 := Try.zeroValue0
  t3 := Try.underlying3
  a3 := Try.isAgg3
  z3 := Try.sizeOf3
  v3 := Try.zeroValue3
  t4 := Try.underlying4
  a4 := Try.isAgg4
  z4 := Try.sizeOf4
  v4 := Try.zeroValue4
  t22 := Try.underlying23
  a22 := Try.isAgg23
  z22 := Try.sizeOf23
  v22 := Try.zeroValue23
  i3 := by kernel_rfl }
open Go.RowKit Go.Lib Go.Sort in
/-- slices.Compact at []int, over an array: the library's two loops are walked. (LAID: no walk: one application.) -/
theorem Try.slices_Compact_int_arr (blk off cap : Nat) (d : Array Int) (w : World) (hH : Holds encI w blk off d) (hsz : d.size ≤ 9223372036854775807) (hcap : d.size ≤ cap) :
    Calls Try.prog 29 #[.slice (some ⟨blk, off, none⟩) d.size cap] w fun e w' => e = .returned (.slice (some ⟨blk, off, none⟩) (compactUpTo d d.size).length cap) ∧ ∃ q, w' = putRow encI (Sort.ahead w q) blk off (compactUpTo d d.size ++ List.replicate (d.size - (compactUpTo d d.size).length) 0).toArray := Any.slices_Compact_int_arr Try.laysNm220 blk off cap d w hH hsz hcap
open Go.RowKit Go.Lib Go.Sort in
/-- slices.Compact at []int: "Compact replaces consecutive runs of equal elements with a single copy. This is like the uniq command found on Unix. Compact modifies the contents of the slice s and returns the modified slice, which may have a smaller length. Compact zeroes the elements between the new length and the original length. The result preserves the nilness of s.": IT RETURNS THE SLICE CUT TO 'Lib.compact zs'; ITS CELLS HOLD 'Lib.compact zs', THEN ZERO VALUES up to the old length; all else is as it was, but for the count of draws. IN THE WORDS OF slices.Sort's CONTRACT ('Holds', 'putRow'): so the everyday 'slices.Sort(xs); xs = slices.Compact(xs)' goes from the one contract to the other. It asks 'zs.length ≤ cap' (every slice's: the reslicing 's[:k]' looks at it). Length 0, nil: '.._empty'. (LAID: no walk: one application.) -/
theorem Try.slices_Compact_int (blk off cap : Nat) (zs : List Int) (w : World) (hH : Holds (Value.int .i64) w blk off zs.toArray) (hsz : zs.length ≤ 9223372036854775807) (hcap : zs.length ≤ cap) :
    Calls Try.prog 29 #[.slice (some ⟨blk, off, none⟩) zs.length cap] w fun e w' => e = .returned (.slice (some ⟨blk, off, none⟩) (Lib.compact zs).length cap) ∧ ∃ q, w' = putRow (Value.int .i64) (Sort.ahead w q) blk off (Lib.compact zs ++ List.replicate (zs.length - (Lib.compact zs).length) 0).toArray := Any.slices_Compact_int Try.laysNm220 blk off cap zs w hH hsz hcap
open Go.RowKit Go.Lib Go.Sort in
/-- The same at a slice of length 0, a nil one too: it comes back as it is. (LAID: no walk: one application.) -/
theorem Try.slices_Compact_int_empty (a : Option Addr) (cap : Nat) (w : World) :
    Calls Try.prog 29 #[.slice a 0 cap] w fun e w' => e = .returned (.slice a 0 cap) ∧ w' = w := Any.slices_Compact_int_empty Try.laysNm220 a cap w
open Go.RowKit Go.Lib Go.Sort in
/-- slices.Compact at []int, of an argument: the slice cut to 'Lib.compact (elements)'; the n cells hold that, then zeros. (LAID: no walk: one application.) -/
theorem Try.slices_Compact_int_cells (b off n c : Nat) (zs : List Int) (w : World) (hz : n ≤ zs.length) (hbig : n ≤ 9223372036854775807) (hcap : n ≤ c) (hc : ∀ j, j < zs.length → w.cell? ⟨b, off + j, none⟩ = some (.int .i64 (zs.getD j 0))) (hf : ∀ j, j < n → w.frozen? ⟨b, off + j, none⟩ = false) :
    Calls Try.prog 29 #[.slice (some ⟨b, off, none⟩) n c] w fun e w' => e = .returned (.slice (some ⟨b, off, none⟩) (Lib.compact (zs.take n)).length c) ∧ ∃ q, w' = (w.drewN q).setCells b off ((Lib.compact (zs.take n) ++ List.replicate (n - (Lib.compact (zs.take n)).length) 0).map (Value.int .i64)) := Any.slices_Compact_int_cells Try.laysNm220 b off n c zs w hz hbig hcap hc hf
open Go.RowKit Go.Sort in
/-- .. and plain. (LAID: no walk: one application.) -/
theorem Try.slices_Sort_int_none (p : Option Addr) (cap : Nat) (w : World) :
    Calls Try.prog 28 #[.slice p 0 cap] w fun e w' => e = .returned (.tuple #[]) ∧ w' = w := Any.slices_Sort_int_none Try.lays189 p cap w
end Go.Proofs.Qxb6614485a
