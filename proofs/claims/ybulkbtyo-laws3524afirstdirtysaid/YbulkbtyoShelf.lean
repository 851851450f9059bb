/-
  DERIVED: THE SHELF's CONTRACTS AT THIS DUMP, IN PLAIN WORDS (tools/lay-plain.mjs out of 'YbaShelf2.lean', which tools/lay-shelf.mjs wrote): THE SAME DECLARATIONS UNDER THE SAME NAMES: 'import', 'namespace', 'open', 'def', 'theorem' AND NOTHING ELSE: no command of the shelf's: FOR A HAND-IN. Each laying: the table of numbers ('.._ren') and one theorem, a field a fact of the dump's own or the kernel's comparison; each contract: ONE APPLICATION.
-/
import Derived.Shelf.Sort.Plain
import Derived.Ground.Names2Prog
import Derived.Shelf.Slices.CompactI
import Derived.Test.YbulkbtyoProg
namespace Go.Proofs
open Go.Shelf
def Yba.lays189_ren : Go.Shelf.Ren := ⟨fun | 189 => 15 | 125 => 19 | 257 => 18 | 128 => 30 | 129 => 31 | 294 => 21 | 295 => 22 | 296 => 23 | 297 => 24 | 298 => 25 | 299 => 26 | 216 => 27 | 300 => 28 | 301 => 29 | 328 => 32 | 329 => 33 | 330 => 34 | 331 => 35 | 332 => 36 | 215 => 20 | 343 => 37 | n => n, fun | 28 => 25 | 3 => 3 | 46 => 58 | 0 => 0 | 51 => 69 | 53 => 71 | 4 => 4 | 183 => 62 | 182 => 61 | 131 => 66 | 5 => 5 | 9 => 9 | 218 => 72 | 222 => 76 | 228 => 78 | 229 => 79 | n => n, fun | n => n⟩
theorem Yba.lays189 : Go.Proofs.Lays.n189 Yba.prog Yba.lays189_ren := {
  mixed := by kernel_rfl
  f125 := Yba.func19.trans (congrArg some (by kernel_rfl))
  f128 := Yba.func30.trans (congrArg some (by kernel_rfl))
  f129 := Yba.func31.trans (congrArg some (by kernel_rfl))
  f189 := Yba.func15.trans (congrArg some (by kernel_rfl))
  f215 := Yba.func20.trans (congrArg some (by kernel_rfl))
  f216 := Yba.func27.trans (congrArg some (by kernel_rfl))
  f257 := Yba.func18.trans (congrArg some (by kernel_rfl))
  f294 := Yba.func21.trans (congrArg some (by kernel_rfl))
  f295 := Yba.func22.trans (congrArg some (by kernel_rfl))
  f296 := Yba.func23.trans (congrArg some (by kernel_rfl))
  f297 := Yba.func24.trans (congrArg some (by kernel_rfl))
  f298 := Yba.func25.trans (congrArg some (by kernel_rfl))
  f299 := Yba.func26.trans (congrArg some (by kernel_rfl))
  f300 := Yba.func28.trans (congrArg some (by kernel_rfl))
  f301 := Yba.func29.trans (congrArg some (by kernel_rfl))
  f328 := Yba.func32.trans (congrArg some (by kernel_rfl))
  f329 := Yba.func33.trans (congrArg some (by kernel_rfl))
  f330 := Yba.func34.trans (congrArg some (by kernel_rfl))
  f331 := Yba.func35.trans (congrArg some (by kernel_rfl))
  f332 := Yba.func36.trans (congrArg some (by kernel_rfl))
  f343 := Yba.func37.trans (congrArg some (by kernel_rfl))
  t0 := Yba.underlying0
  a0 := Yba.isAgg0
  z0 := Yba.sizeOf0
  v0 := Yba.zeroValue0
  t3 := Yba.underlying3
  a3 := Yba.isAgg3
  z3 := Yba.sizeOf3
  v3 := Yba.zeroValue3
  t4 := Yba.underlying4
  a4 := Yba.isAgg4
  z4 := Yba.sizeOf4
  v4 := Yba.zeroValue4
  t5 := Yba.underlying5
  a5 := Yba.isAgg5
  z5 := Yba.sizeOf5
  v5 := Yba.zeroValue5
  t9 := Yba.underlying9
  a9 := Yba.isAgg9
  z9 := Yba.sizeOf9
  v9 := Yba.zeroValue9
  t28 := Yba.underlying25
  a28 := Yba.isAgg25
  z28 := Yba.sizeOf25
  v28 := Yba.zeroValue25
  t46 := Yba.underlying58
  a46 := Yba.isAgg58
  z46 := Yba.sizeOf58
  v46 := Yba.zeroValue58
  t51 := Yba.underlying69
  a51 := Yba.isAgg69
  z51 := Yba.sizeOf69
  v51 := Yba.zeroValue69
  t53 := Yba.underlying71
  a53 := Yba.isAgg71
  z53 := Yba.sizeOf71
  v53 := Yba.zeroValue71
  t131 := Yba.underlying66
  a131 := Yba.isAgg66
  z131 := Yba.sizeOf66
  v131 := Yba.zeroValue66
  t182 := Yba.underlying61
  a182 := Yba.isAgg61
  z182 := Yba.sizeOf61
  v182 := Yba.zeroValue61
  t183 := Yba.underlying62
  a183 := Yba.isAgg62
  z183 := Yba.sizeOf62
  v183 := Yba.zeroValue62
  t218 := Yba.underlying72
  a218 := Yba.isAgg72
  z218 := Yba.sizeOf72
  v218 := Yba.zeroValue72
  t222 := Yba.underlying76
  a222 := Yba.isAgg76
  z222 := Yba.sizeOf76
  v222 := Yba.zeroValue76
  t228 := Yba.underlying78
  a228 := Yba.isAgg78
  z228 := Yba.sizeOf78
  v228 := Yba.zeroValue78
  t229 := Yba.underlying79
  a229 := Yba.isAgg79
  z229 := Yba.sizeOf79
  v229 := Yba.zeroValue79 }
open Go.Sort Go.RowKit in
theorem Yba.slices_Sort_int (blk off cap : Nat) (zs : List Int) (w : World) (hH : Holds (Value.int .i64) w blk off zs.toArray) (hblk : blk < w.heap.size) (hsz : zs.length < 4611686018427387904) :
    Calls Yba.prog 15 #[.slice (some ⟨blk, off, none⟩) zs.length cap] w fun e w' =>
      e = .returned (.tuple #[]) ∧ ∃ n os, w' = grow (putRow (Value.int .i64) (Sort.ahead w n) blk off (zs.mergeSort fun x y => decide (x ≤ y)).toArray) os := Any.slices_Sort_int Yba.lays189 blk off cap zs w hH hblk hsz
def Yba.laysNm220_ren : Go.Shelf.Ren := ⟨fun | 20 => 16 | n => n, fun | 22 => 25 | 3 => 3 | 4 => 4 | 0 => 0 | n => n, fun | n => n⟩
theorem Yba.laysNm220 : Go.Proofs.Lays2.n20 Yba.prog Yba.laysNm220_ren := {
  mixed := by kernel_rfl
  f20 := Yba.func16.trans (congrArg some (by kernel_rfl))
  t0 := Yba.underlying0
  a0 := Yba.isAgg0
  z0 := Yba.sizeOf0
  v0 := Yba.zeroValue0
  t3 := Yba.underlying3
  a3 := Yba.isAgg3
  z3 := Yba.sizeOf3
  v3 := Yba.zeroValue3
  t4 := Yba.underlying4
  a4 := Yba.isAgg4
  z4 := Yba.sizeOf4
  v4 := Yba.zeroValue4
  t22 := Yba.underlying25
  a22 := Yba.isAgg25
  z22 := Yba.sizeOf25
  v22 := Yba.zeroValue25
  i3 := by kernel_rfl }
open Go.RowKit Go.Lib Go.Sort in
/-- slices.Compact at []int: "Compact replaces consecutive runs of equal elements with a single copy. This is like the uniq command found on Unix. Compact modifies the contents of the slice s and returns the modified slice, which may have a smaller length. Compact zeroes the elements between the new length and the original length. The result preserves the nilness of s.": IT RETURNS THE SLICE CUT TO 'Lib.compact zs'; ITS CELLS HOLD 'Lib.compact zs', THEN ZERO VALUES up to the old length; all else is as it was, but for the count of draws. IN THE WORDS OF slices.Sort's CONTRACT ('Holds', 'putRow'): so the everyday 'slices.Sort(xs); xs = slices.Compact(xs)' goes from the one contract to the other. It asks 'zs.length ≤ cap' (every slice's: the reslicing 's[:k]' looks at it). Length 0, nil: '.._empty'. (LAID: no walk: one application.) -/
theorem Yba.slices_Compact_int (blk off cap : Nat) (zs : List Int) (w : World) (hH : Holds (Value.int .i64) w blk off zs.toArray) (hsz : zs.length ≤ 9223372036854775807) (hcap : zs.length ≤ cap) :
    Calls Yba.prog 16 #[.slice (some ⟨blk, off, none⟩) zs.length cap] w fun e w' => e = .returned (.slice (some ⟨blk, off, none⟩) (Lib.compact zs).length cap) ∧ ∃ q, w' = putRow (Value.int .i64) (Sort.ahead w q) blk off (Lib.compact zs ++ List.replicate (zs.length - (Lib.compact zs).length) 0).toArray := Any.slices_Compact_int Yba.laysNm220 blk off cap zs w hH hsz hcap
end Go.Proofs
