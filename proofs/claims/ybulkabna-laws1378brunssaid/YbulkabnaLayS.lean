/-
  DERIVED: THE SHELF's CONTRACTS AT THIS DUMP, IN PLAIN WORDS (tools/lay-plain.mjs out of 'YbulkabnaLayS0.lean', which tools/lay-shelf.mjs wrote): THE SAME DECLARATIONS UNDER THE SAME NAMES: 'import', 'namespace', 'open', 'def', 'theorem' AND NOTHING ELSE: no command of the shelf's: FOR A HAND-IN. Each laying: the table of numbers ('.._ren') and one theorem, a field a fact of the dump's own or the kernel's comparison; each contract: ONE APPLICATION.
-/
import Derived.Shelf.Sort.Plain
import Derived.Ground.Names2Prog
import Derived.Shelf.Slices.Clone
import Derived.Shelf.Slices.In.SortNone
import Derived.Test.YbulkabnaProg
namespace Go.Proofs
open Go.Shelf
def Yba.lays189_ren : Go.Shelf.Ren := ⟨fun | 189 => 11 | 125 => 16 | 257 => 15 | 128 => 30 | 129 => 31 | 294 => 21 | 295 => 22 | 296 => 23 | 297 => 24 | 298 => 25 | 299 => 26 | 216 => 27 | 300 => 28 | 301 => 29 | 328 => 49 | 329 => 50 | 330 => 51 | 331 => 52 | 332 => 53 | 215 => 54 | 343 => 60 | n => n, fun | 28 => 23 | 3 => 3 | 46 => 43 | 0 => 0 | 51 => 64 | 53 => 66 | 4 => 4 | 183 => 57 | 182 => 56 | 131 => 61 | 5 => 5 | 9 => 9 | 218 => 77 | 222 => 81 | 228 => 87 | 229 => 88 | n => n, fun | n => n⟩
theorem Yba.lays189 : Go.Proofs.Lays.n189 Yba.prog Yba.lays189_ren := {
  mixed := by kernel_rfl
  f125 := Yba.func16.trans (congrArg some (by kernel_rfl))
  f128 := Yba.func30.trans (congrArg some (by kernel_rfl))
  f129 := Yba.func31.trans (congrArg some (by kernel_rfl))
  f189 := Yba.func11.trans (congrArg some (by kernel_rfl))
  f215 := Yba.func54.trans (congrArg some (by kernel_rfl))
  f216 := Yba.func27.trans (congrArg some (by kernel_rfl))
  f257 := Yba.func15.trans (congrArg some (by kernel_rfl))
  f294 := Yba.func21.trans (congrArg some (by kernel_rfl))
  f295 := Yba.func22.trans (congrArg some (by kernel_rfl))
  f296 := Yba.func23.trans (congrArg some (by kernel_rfl))
  f297 := Yba.func24.trans (congrArg some (by kernel_rfl))
  f298 := Yba.func25.trans (congrArg some (by kernel_rfl))
  f299 := Yba.func26.trans (congrArg some (by kernel_rfl))
  f300 := Yba.func28.trans (congrArg some (by kernel_rfl))
  f301 := Yba.func29.trans (congrArg some (by kernel_rfl))
  f328 := Yba.func49.trans (congrArg some (by kernel_rfl))
  f329 := Yba.func50.trans (congrArg some (by kernel_rfl))
  f330 := Yba.func51.trans (congrArg some (by kernel_rfl))
  f331 := Yba.func52.trans (congrArg some (by kernel_rfl))
  f332 := Yba.func53.trans (congrArg some (by kernel_rfl))
  f343 := Yba.func60.trans (congrArg some (by kernel_rfl))
  t0 := Yba.underlying0
  a0 := Yba.isAgg0
  z0 := Yba.sizeOf0
  v0 := Yba.zeroValue0
  t3 := Yba.underlying3
  a3 := Yba.isAgg3
  z3 := Yba.sizeOf3
  v3 := Yba.zeroValue3
  t4 := Yba.underlying4
  a4 := Yba.isAgg4
  z4 := Yba.sizeOf4
  v4 := Yba.zeroValue4
  t5 := Yba.underlying5
  a5 := Yba.isAgg5
  z5 := Yba.sizeOf5
  v5 := Yba.zeroValue5
  t9 := Yba.underlying9
  a9 := Yba.isAgg9
  z9 := Yba.sizeOf9
  v9 := Yba.zeroValue9
  t28 := Yba.underlying23
  a28 := Yba.isAgg23
  z28 := Yba.sizeOf23
  v28 := Yba.zeroValue23
  t46 := Yba.underlying43
  a46 := Yba.isAgg43
  z46 := Yba.sizeOf43
  v46 := Yba.zeroValue43
  t51 := Yba.underlying64
  a51 := Yba.isAgg64
  z51 := Yba.sizeOf64
  v51 := Yba.zeroValue64
  t53 := Yba.underlying66
  a53 := Yba.isAgg66
  z53 := Yba.sizeOf66
  v53 := Yba.zeroValue66
  t131 := Yba.underlying61
  a131 := Yba.isAgg61
  z131 := Yba.sizeOf61
  v131 := Yba.zeroValue61
  t182 := Yba.underlying56
  a182 := Yba.isAgg56
  z182 := Yba.sizeOf56
  v182 := Yba.zeroValue56
  t183 := Yba.underlying57
  a183 := Yba.isAgg57
  z183 := Yba.sizeOf57
  v183 := Yba.zeroValue57
  t218 := Yba.underlying77
  a218 := Yba.isAgg77
  z218 := Yba.sizeOf77
  v218 := Yba.zeroValue77
  t222 := Yba.underlying81
  a222 := Yba.isAgg81
  z222 := Yba.sizeOf81
  v222 := Yba.zeroValue81
  t228 := Yba.underlying87
  a228 := Yba.isAgg87
  z228 := Yba.sizeOf87
  v228 := Yba.zeroValue87
  t229 := Yba.underlying88
  a229 := Yba.isAgg88
  z229 := Yba.sizeOf88
  v229 := Yba.zeroValue88 }
open Go.Sort Go.RowKit in
theorem Yba.slices_Sort_int (blk off cap : Nat) (zs : List Int) (w : World) (hH : Holds (Value.int .i64) w blk off zs.toArray) (hblk : blk < w.heap.size) (hsz : zs.length < 4611686018427387904) :
    Calls Yba.prog 11 #[.slice (some ⟨blk, off, none⟩) zs.length cap] w fun e w' =>
      e = .returned (.tuple #[]) ∧ ∃ n os, w' = grow (putRow (Value.int .i64) (Sort.ahead w n) blk off (zs.mergeSort fun x y => decide (x ≤ y)).toArray) os := Any.slices_Sort_int Yba.lays189 blk off cap zs w hH hblk hsz
def Yba.laysNm215_ren : Go.Shelf.Ren := ⟨fun | 15 => 10 | n => n, fun | 22 => 23 | 3 => 3 | 4 => 4 | n => n, fun | n => n⟩
theorem Yba.laysNm215 : Go.Proofs.Lays2.n15 Yba.prog Yba.laysNm215_ren := {
  mixed := by kernel_rfl
  f15 := Yba.func10.trans (congrArg some (by kernel_rfl))
  t3 := Yba.underlying3
  a3 := Yba.isAgg3
  z3 := Yba.sizeOf3
  v3 := Yba.zeroValue3
  t4 := Yba.underlying4
  a4 := Yba.isAgg4
  z4 := Yba.sizeOf4
  v4 := Yba.zeroValue4
  t22 := Yba.underlying23
  a22 := Yba.isAgg23
  z22 := Yba.sizeOf23
  v22 := Yba.zeroValue23
  i3 := by kernel_rfl }
open Go.RowKit Go.Lib in
/-- slices.Clone at []int: "Clone returns a copy of the slice. The elements are copied using assignment, so this is a shallow clone. The result may have additional unused capacity. The result preserves the nilness of s.": OF A SLICE THAT IS NOT nil IT RETURNS A SLICE THAT IS NOT nil, OF THE SAME ELEMENTS, IN MEMORY OF THE CALL's OWN: in the how-to's words (6f): 'w'.ownsRow B e 1 v' n cells': v' begins at the head of a row among the blocks from B on (B: the heap's size at the call), not frozen, whose first cells are the elements · 'Below B w w'': below B all is as it was. The capacity is whatever the run-time gives. 'zs': what the cells behind the slice's address hold; 'zs.take n': its elements. (LAID: no walk: one application.) -/
theorem Yba.slices_Clone_int (b off n c : Nat) (zs : List Int) (w : World) (hz : n ≤ zs.length) (hbig : n * 8 ≤ 140737488355328) (hc : ∀ j, j < zs.length → w.cell? ⟨b, off + j, none⟩ = some (.int .i64 (zs.getD j 0))) :
    Calls Yba.prog 10 #[.slice (some ⟨b, off, none⟩) n c] w fun e w' => ∃ v', e = .returned v' ∧ w'.ownsRow w.heap.size 3 1 v' n ((zs.take n).map (Value.int .i64)) ∧ v' ≠ .slice none 0 0 ∧ Below w.heap.size w w' := Any.slices_Clone_int Yba.laysNm215 b off n c zs w hz hbig hc
open Go.RowKit Go.Lib in
/-- The same at nil: nil comes back; the world is as it was. (LAID: no walk: one application.) -/
theorem Yba.slices_Clone_int_nil (n c : Nat) (w : World) :
    Calls Yba.prog 10 #[.slice none n c] w fun e w' => e = .returned (.slice none 0 0) ∧ w' = w := Any.slices_Clone_int_nil Yba.laysNm215 n c w
open Go.RowKit Go.Lib in
/-- The same at a slice of length 0 that is not nil, WHATEVER ITS ADDRESS (no cell is asked for): a slice that is not nil and owns nothing comes back. (LAID: no walk: one application.) -/
theorem Yba.slices_Clone_int_zero (a : Addr) (c : Nat) (w : World) :
    Calls Yba.prog 10 #[.slice (some a) 0 c] w fun e w' => ∃ v', e = .returned v' ∧ w'.ownsRow w.heap.size 3 1 v' 0 [] ∧ v' ≠ .slice none 0 0 ∧ Below w.heap.size w w' := Any.slices_Clone_int_zero Yba.laysNm215 a c w
open Go.RowKit Go.Sort in
/-- .. and plain. (LAID: no walk: one application.) -/
theorem Yba.slices_Sort_int_none (p : Option Addr) (cap : Nat) (w : World) :
    Calls Yba.prog 11 #[.slice p 0 cap] w fun e w' => e = .returned (.tuple #[]) ∧ w' = w := Any.slices_Sort_int_none Yba.lays189 p cap w
end Go.Proofs
