/-
  The law of the seconds: function 3.
-/
import Derived.Test.YbulkabnoNew
import Derived.Test.YbulkabnoAny
namespace Go.Proofs.Ybulkabno
open Go.RowKit Go.Shelf Go.Maps Go.WideMaps
set_option linter.unusedVariables false
set_option linter.unusedSimpArgs false

set_option maxRecDepth 100000 in
theorem law3_under (n required ready : Int) (w : World) (j0 : -9223372036854775808 ≤ n) (j1 : n ≤ 9223372036854775807) (k0 : -9223372036854775808 ≤ required) (k1 : required ≤ 9223372036854775807) (k2 : -9223372036854775808 ≤ ready) (k3 : ready ≤ 9223372036854775807) (hlt : ready < required) :
    Calls Yba.prog 3 #[.int .i64 n, .int .i64 required, .int .i64 ready] w fun e w' => e = .returned (.bool true) ∧ Below w.heap.size w w' := by
  go_enter Yba.func3, Yba.ntmps3
  go_wp2_with fail
  refine (step_under_any w.heap.size n required ready 0 0 0 (.map none) _ (tal_new w) k0 k1 k2 k3 hlt).mono ?_
  rintro e w1 ⟨rfl, ⟨h, l, m, hT⟩, hF⟩
  rw [wrap_zero n j0 j1] at hT
  have bel := below_new hF (fun k hk => Nat.le_of_eq hk.symm)
  have hb : w.heap.size < w1.heap.size := lt_of_block hT
  have g3 : w1.cell? ⟨w.heap.size, 3, none⟩ = some (.int .u64 0) := by rw [cell_of_row _ _ _ _ _ _ hT]; rfl
  have g4 : w1.cell? ⟨w.heap.size, 3 + 1, none⟩ = some (.int .u64 0) := by rw [cell_of_row _ _ _ _ _ _ hT]; rfl
  have g5 : w1.cell? ⟨w.heap.size, 3 + 2, none⟩ = some (.map none) := by rw [cell_of_row _ _ _ _ _ _ hT]; rfl
  have g6 : w1.cell? ⟨w.heap.size, 6, none⟩ = some (.int .i64 n) := by rw [cell_of_row _ _ _ _ _ _ hT]; rfl
  have g7 : w1.cell? ⟨w.heap.size, 7, none⟩ = some (.int .i64 0) := by rw [cell_of_row _ _ _ _ _ _ hT]; rfl
  have hE := empty9 w.heap.size 3 w1 hb g3 g4 g5
  have HB : Hid (Below w.heap.size w w1) := bel
  clear bel hF hT g3 g4 g5
  go_wp2_with fail
  refine hE.mono ?_
  rintro e w2 ⟨rfl, hw2⟩
  rw [hw2]
  clear hw2 w2 hE
  go_wp2
  go_ret
  exact ⟨rfl, HB.out⟩
set_option maxRecDepth 100000 in
theorem law3_over (n required ready : Int) (w : World) (j0 : -9223372036854775808 ≤ n) (j1 : n ≤ 9223372036854775807) (k0 : -9223372036854775808 ≤ required) (k1 : required ≤ 9223372036854775807) (k2 : -9223372036854775808 ≤ ready) (k3 : ready ≤ 9223372036854775807) (hlt : required < ready) :
    Calls Yba.prog 3 #[.int .i64 n, .int .i64 required, .int .i64 ready] w fun e w' => e = .returned (.bool true) ∧ Below w.heap.size w w' := by
  go_enter Yba.func3, Yba.ntmps3
  go_wp2_with fail
  refine (step_over_any w.heap.size n required ready 0 0 0 (.map none) _ (tal_new w) k0 k1 k2 k3 hlt).mono ?_
  rintro e w1 ⟨rfl, ⟨h, l, m, hT⟩, hF⟩
  rw [wrap_zero n j0 j1] at hT
  have bel := below_new hF (fun k hk => Nat.le_of_eq hk.symm)
  have hb : w.heap.size < w1.heap.size := lt_of_block hT
  have g3 : w1.cell? ⟨w.heap.size, 0, none⟩ = some (.int .u64 0) := by rw [cell_of_row _ _ _ _ _ _ hT]; rfl
  have g4 : w1.cell? ⟨w.heap.size, 0 + 1, none⟩ = some (.int .u64 0) := by rw [cell_of_row _ _ _ _ _ _ hT]; rfl
  have g5 : w1.cell? ⟨w.heap.size, 0 + 2, none⟩ = some (.map none) := by rw [cell_of_row _ _ _ _ _ _ hT]; rfl
  have g6 : w1.cell? ⟨w.heap.size, 7, none⟩ = some (.int .i64 n) := by rw [cell_of_row _ _ _ _ _ _ hT]; rfl
  have g7 : w1.cell? ⟨w.heap.size, 6, none⟩ = some (.int .i64 0) := by rw [cell_of_row _ _ _ _ _ _ hT]; rfl
  have hE := empty9 w.heap.size 0 w1 hb g3 g4 g5
  have HB : Hid (Below w.heap.size w w1) := bel
  clear bel hF hT g3 g4 g5
  go_wp2_with fail
  refine hE.mono ?_
  rintro e w2 ⟨rfl, hw2⟩
  rw [hw2]
  clear hw2 w2 hE
  go_wp2
  go_ret
  exact ⟨rfl, HB.out⟩
set_option maxRecDepth 100000 in
theorem law3_same (n required : Int) (w : World) :
    Calls Yba.prog 3 #[.int .i64 n, .int .i64 required, .int .i64 required] w fun e w' => e = .returned (.bool true) ∧ Below w.heap.size w w' := by
  go_enter Yba.func3, Yba.ntmps3
  go_wp2_with fail
  refine (tally_same w.heap.size n required _).mono ?_
  rintro e w1 ⟨rfl, hw1⟩
  have hT : Tal w1 w.heap.size 0 0 (.map none) 0 0 (.map none) 0 0 := by rw [hw1]; exact tal_new w
  have bel : Below w.heap.size w w1 := by rw [hw1]; exact (Below.refl _ _).alloc (Nat.le_refl _) _
  clear hw1
  have hb : w.heap.size < w1.heap.size := lt_of_block hT
  have g0 : w1.cell? ⟨w.heap.size, 0, none⟩ = some (.int .u64 0) := by rw [cell_of_row _ _ _ _ _ _ hT]; rfl
  have g1 : w1.cell? ⟨w.heap.size, 0 + 1, none⟩ = some (.int .u64 0) := by rw [cell_of_row _ _ _ _ _ _ hT]; rfl
  have g2 : w1.cell? ⟨w.heap.size, 0 + 2, none⟩ = some (.map none) := by rw [cell_of_row _ _ _ _ _ _ hT]; rfl
  have g3 : w1.cell? ⟨w.heap.size, 3, none⟩ = some (.int .u64 0) := by rw [cell_of_row _ _ _ _ _ _ hT]; rfl
  have g4 : w1.cell? ⟨w.heap.size, 3 + 1, none⟩ = some (.int .u64 0) := by rw [cell_of_row _ _ _ _ _ _ hT]; rfl
  have g5 : w1.cell? ⟨w.heap.size, 3 + 2, none⟩ = some (.map none) := by rw [cell_of_row _ _ _ _ _ _ hT]; rfl
  have g6 : w1.cell? ⟨w.heap.size, 6, none⟩ = some (.int .i64 0) := by rw [cell_of_row _ _ _ _ _ _ hT]; rfl
  have g7 : w1.cell? ⟨w.heap.size, 7, none⟩ = some (.int .i64 0) := by rw [cell_of_row _ _ _ _ _ _ hT]; rfl
  have hU := empty9 w.heap.size 0 w1 hb g0 g1 g2
  have hO := empty9 w.heap.size 3 w1 hb g3 g4 g5
  have HB : Hid (Below w.heap.size w w1) := bel
  clear bel hT g0 g1 g2 g3 g4 g5
  go_wp2_with fail
  refine hU.mono ?_
  rintro e w2 ⟨rfl, hw2⟩
  rw [hw2]
  clear hw2 w2 hU
  go_wp2_with fail
  refine hO.mono ?_
  rintro e w2 ⟨rfl, hw2⟩
  rw [hw2]
  clear hw2 w2 hO
  go_wp2
  go_ret
  exact ⟨rfl, HB.out⟩

theorem law3 (n required ready : Int) (w : World) (j0 : -9223372036854775808 ≤ n) (j1 : n ≤ 9223372036854775807) (k0 : -9223372036854775808 ≤ required) (k1 : required ≤ 9223372036854775807) (k2 : -9223372036854775808 ≤ ready) (k3 : ready ≤ 9223372036854775807) :
    Calls Yba.prog 3 #[.int .i64 n, .int .i64 required, .int .i64 ready] w fun e w' => e = .returned (.bool true) ∧ Below w.heap.size w w' := by
  rcases Int.lt_trichotomy ready required with h | h | h
  · exact law3_under n required ready w j0 j1 k0 k1 k2 k3 h
  · subst h; exact law3_same n ready w
  · exact law3_over n required ready w j0 j1 k0 k1 k2 k3 h
end Go.Proofs.Ybulkabno
