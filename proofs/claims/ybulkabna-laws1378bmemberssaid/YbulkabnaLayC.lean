/-
  DERIVED: THE SHELF's CONTRACTS AT THIS DUMP, IN PLAIN WORDS (tools/lay-plain.mjs out of 'YbulkabnaLayC0.lean', which tools/lay-shelf.mjs wrote): THE SAME DECLARATIONS UNDER THE SAME NAMES: 'import', 'namespace', 'open', 'def', 'theorem' AND NOTHING ELSE: no command of the shelf's: FOR A HAND-IN. Each laying: the table of numbers ('.._ren') and one theorem, a field a fact of the dump's own or the kernel's comparison; each contract: ONE APPLICATION.
-/
import Derived.Shelf.Slices.Turned
import Derived.Test.YbulkabnaProg
namespace Go.Proofs
open Go.Shelf
def Yba.lays108_ren : Go.Shelf.Ren := ⟨fun | 108 => 12 | n => n, fun | 28 => 23 | 3 => 3 | 0 => 0 | 4 => 4 | n => n, fun | n => n⟩
theorem Yba.lays108 : Go.Proofs.Lays.n108 Yba.prog Yba.lays108_ren := {
  mixed := by kernel_rfl
  f108 := Yba.func12.trans (congrArg some (by kernel_rfl))
  t0 := Yba.underlying0
  a0 := Yba.isAgg0
  z0 := Yba.sizeOf0
  v0 := Yba.zeroValue0
  t3 := Yba.underlying3
  a3 := Yba.isAgg3
  z3 := Yba.sizeOf3
  v3 := Yba.zeroValue3
  t4 := Yba.underlying4
  a4 := Yba.isAgg4
  z4 := Yba.sizeOf4
  v4 := Yba.zeroValue4
  t28 := Yba.underlying23
  a28 := Yba.isAgg23
  z28 := Yba.sizeOf23
  v28 := Yba.zeroValue23 }
open Go.Lib in
/-- slices.Index at []int: "Index returns the index of the first occurrence of v in s, or -1 if not present.": IT RETURNS 'Lib.idxOf (the elements) v'; the world is as it was. 'zs': what the cells behind the slice's address hold (its spare capacity too, if you have it); 'zs.take n': its elements. (LAID: no walk: one application.) -/
theorem Yba.slices_Index_int (b off n c : Nat) (zs : List Int) (x : Int) (w : World) (hz : n ≤ zs.length) (hbig : n ≤ 9223372036854775807) (hc : ∀ j, j < zs.length → w.cell? ⟨b, off + j, none⟩ = some (.int .i64 (zs.getD j 0))) :
    Calls Yba.prog 12 #[.slice (some ⟨b, off, none⟩) n c, .int .i64 x] w fun e w' => e = .returned (.int .i64 (Lib.idxOf (zs.take n) x)) ∧ w' = w := Any.slices_Index_int Yba.lays108 b off n c zs x w hz hbig hc
open Go.Lib in
/-- The same at a slice of length 0, a nil one too: no cell is known, none is asked for. (LAID: no walk: one application.) -/
theorem Yba.slices_Index_int_empty (a : Option Addr) (c : Nat) (x : Int) (w : World) :
    Calls Yba.prog 12 #[.slice a 0 c, .int .i64 x] w fun e w' => e = .returned (.int .i64 (Lib.idxOf [] x)) ∧ w' = w := Any.slices_Index_int_empty Yba.lays108 a c x w
def Yba.lays107_ren : Go.Shelf.Ren := ⟨fun | 107 => 8 | 108 => 12 | n => n, fun | 28 => 23 | 3 => 3 | 4 => 4 | 0 => 0 | n => n, fun | n => n⟩
theorem Yba.lays107 : Go.Proofs.Lays.n107 Yba.prog Yba.lays107_ren := {
  mixed := by kernel_rfl
  f107 := Yba.func8.trans (congrArg some (by kernel_rfl))
  f108 := Yba.func12.trans (congrArg some (by kernel_rfl))
  t0 := Yba.underlying0
  a0 := Yba.isAgg0
  z0 := Yba.sizeOf0
  v0 := Yba.zeroValue0
  t3 := Yba.underlying3
  a3 := Yba.isAgg3
  z3 := Yba.sizeOf3
  v3 := Yba.zeroValue3
  t4 := Yba.underlying4
  a4 := Yba.isAgg4
  z4 := Yba.sizeOf4
  v4 := Yba.zeroValue4
  t28 := Yba.underlying23
  a28 := Yba.isAgg23
  z28 := Yba.sizeOf23
  v28 := Yba.zeroValue23 }
open Go.Lib in
/-- slices.Contains at []int: "Contains reports whether v is present in s.": IT RETURNS 'elements.contains v'; the world is as it was. ITS CALLEE slices.Index IS MET BY ITS OWN CONTRACT OFF THE SHELF (lay that first): no loop is walked here. (LAID: no walk: one application.) -/
theorem Yba.slices_Contains_int (b off n c : Nat) (zs : List Int) (x : Int) (w : World) (hz : n ≤ zs.length) (hbig : n ≤ 9223372036854775807) (hc : ∀ j, j < zs.length → w.cell? ⟨b, off + j, none⟩ = some (.int .i64 (zs.getD j 0))) :
    Calls Yba.prog 8 #[.slice (some ⟨b, off, none⟩) n c, .int .i64 x] w fun e w' => e = .returned (.bool ((zs.take n).contains x)) ∧ w' = w := Any.slices_Contains_int Yba.lays107 b off n c zs x w hz hbig hc
open Go.Lib in
/-- The same at a slice of length 0, a nil one too. (LAID: no walk: one application.) -/
theorem Yba.slices_Contains_int_empty (a : Option Addr) (c : Nat) (x : Int) (w : World) :
    Calls Yba.prog 8 #[.slice a 0 c, .int .i64 x] w fun e w' => e = .returned (.bool false) ∧ w' = w := Any.slices_Contains_int_empty Yba.lays107 a c x w
end Go.Proofs
