/-
  The tally made new; the map of a number into a span.
-/
import Derived.Test.YbulkabnoStep
namespace Go.Proofs.Ybulkabno
open Go.RowKit Go.Shelf Go.Maps Go.WideMaps
set_option linter.unusedVariables false
set_option linter.unusedSimpArgs false

theorem tal_new (w : World) : Tal (w.alloc (.cells #[.int .u64 0, .int .u64 0, .map none, .int .u64 0, .int .u64 0, .map none, .int .i64 0, .int .i64 0] 27)) w.heap.size 0 0 (.map none) 0 0 (.map none) 0 0 := by
  show (w.heap.push _)[w.heap.size]? = _
  simp
theorem below_new {w w' : World} {o : Obj} {S : Nat → Prop} (h : Fr (w.alloc o) w' S) (hS : ∀ k, S k → w.heap.size ≤ k) : Below w.heap.size w w' := by
  have hB : Below w.heap.size w (w.alloc o) := (Below.refl _ _).alloc (Nat.le_refl _) _
  exact hB.trans (h.below hB.size hS)
theorem wrap_zero (n : Int) (j0 : -9223372036854775808 ≤ n) (j1 : n ≤ 9223372036854775807) : wrap64 (0 + n) = n := by unfold wrap64; omega

set_option maxRecDepth 100000 in
theorem map10 (x m : Int) (hm : 1 ≤ m) (hm' : m < 9223372036854775808) (w : World) :
    Calls Yba.prog 10 #[.int .i64 x, .int .u64 m] w fun e w' => (∃ y, (0 ≤ y ∧ y < m) ∧ e = .returned (.int .i64 y)) ∧ w' = w := by
  have q1 : (m == 0) = false := by simp; omega
  have h0 : 0 ≤ IntKind.u64.wrap x := by rw [IntKind.wrap_u64]; omega
  obtain ⟨u, hu⟩ : ∃ u, IntKind.u64.wrap x = u := ⟨_, rfl⟩
  rw [hu] at h0
  have m0 := Int.emod_nonneg u (show m ≠ 0 by omega)
  have m1 := Int.emod_lt_of_pos u (show 0 < m by omega)
  obtain ⟨y, hy⟩ : ∃ y, u % m = y := ⟨_, rfl⟩
  rw [hy] at m0 m1
  have hw : IntKind.i64.wrap y = y := by rw [IntKind.wrap_i64]; omega
  go_enter Yba.func10, Yba.ntmps10
  go_wp2
  go_ret
  exact ⟨⟨y, ⟨m0, m1⟩, rfl⟩, rfl⟩
end Go.Proofs.Ybulkabno
