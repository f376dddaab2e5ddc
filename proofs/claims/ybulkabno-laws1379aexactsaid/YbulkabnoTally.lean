/-
  The tally's add.
-/
import Derived.Test.YbulkabnoFrac
namespace Go.Proofs.Ybulkabno
open Go.RowKit Go.Shelf Go.Maps Go.WideMaps
set_option linter.unusedVariables false
set_option linter.unusedSimpArgs false

set_option maxRecDepth 100000 in
set_option maxHeartbeats 1000000 in
theorem tally_under (b : Nat) (n required ready us : Int) (w : World) (Q : World → Prop) (k0 : -9223372036854775808 ≤ required) (k1 : required ≤ 9223372036854775807) (k2 : -9223372036854775808 ≤ ready) (k3 : ready ≤ 9223372036854775807)
    (hlt : ready < required)
    (HF : Calls Yba.prog 13 #[.pointer (some ⟨b, 0, none⟩), .int .u64 (IntKind.u64.wrap n), .int .u64 (required - ready), .int .u64 (max required 1)] w fun e w' => e = .returned (.tuple #[]) ∧ Q w')
    (HQ : ∀ w', Q w' → w'.cell? ⟨b, 6, none⟩ = some (.int .i64 us) ∧ w'.frozen? ⟨b, 6, none⟩ = false) :
    Calls Yba.prog 8 #[.pointer (some ⟨b, 0, none⟩), .int .i64 n, .int .i64 required, .int .i64 ready] w fun e w' =>
      e = .returned (.tuple #[]) ∧ ∃ w1, Q w1 ∧ w' = w1.setCell ⟨b, 6, none⟩ (.int .i64 (wrap64 (us + n))) := by
  have hx : IntKind.u64.wrap (IntKind.i64.wrap (required - ready)) = required - ready := by rw [IntKind.wrap_i64, IntKind.wrap_u64]; omega
  obtain ⟨x, hx'⟩ : ∃ x, IntKind.i64.wrap (required - ready) = x := ⟨_, rfl⟩
  obtain ⟨y, hy'⟩ : ∃ y, required - ready = y := ⟨_, rfl⟩
  obtain ⟨nn, hnn⟩ : ∃ nn, IntKind.u64.wrap n = nn := ⟨_, rfl⟩
  rw [hnn, hy'] at HF
  rw [hx', hy'] at hx
  rw [hy'] at hx'
  have HFF : Hid (Calls Yba.prog 13 #[.pointer (some ⟨b, 0, none⟩), .int .u64 nn, .int .u64 y, .int .u64 (max required 1)] w fun e w' => e = .returned (.tuple #[]) ∧ Q w') := HF
  have HQQ : Hid (∀ w', Q w' → w'.cell? ⟨b, 6, none⟩ = some (.int .i64 us) ∧ w'.frozen? ⟨b, 6, none⟩ = false) := HQ
  clear HF HQ
  go_enter Yba.func8, Yba.ntmps8
  go_wp2_with fail
  refine HFF.out.mono ?_
  rintro e w1 ⟨rfl, hq⟩
  obtain ⟨c6, f6⟩ := HQQ.out w1 hq
  have HH : Hid (Q w1) := hq
  clear hq HQQ HFF
  go_wp2
  first | (go_ret; exact ⟨rfl, w1, HH.out, rfl⟩) | (simp [bodyPost, results, Yba.results8, go_sem]; exact ⟨w1, HH.out, rfl⟩)

set_option maxRecDepth 100000 in
set_option maxHeartbeats 1000000 in
theorem tally_over (b : Nat) (n required ready us : Int) (w : World) (Q : World → Prop) (k0 : -9223372036854775808 ≤ required) (k1 : required ≤ 9223372036854775807) (k2 : -9223372036854775808 ≤ ready) (k3 : ready ≤ 9223372036854775807)
    (hlt : required < ready)
    (HF : Calls Yba.prog 13 #[.pointer (some ⟨b, 3, none⟩), .int .u64 (IntKind.u64.wrap n), .int .u64 (ready - required), .int .u64 (max required 1)] w fun e w' => e = .returned (.tuple #[]) ∧ Q w')
    (HQ : ∀ w', Q w' → w'.cell? ⟨b, 7, none⟩ = some (.int .i64 us) ∧ w'.frozen? ⟨b, 7, none⟩ = false) :
    Calls Yba.prog 8 #[.pointer (some ⟨b, 0, none⟩), .int .i64 n, .int .i64 required, .int .i64 ready] w fun e w' =>
      e = .returned (.tuple #[]) ∧ ∃ w1, Q w1 ∧ w' = w1.setCell ⟨b, 7, none⟩ (.int .i64 (wrap64 (us + n))) := by
  have hx : IntKind.u64.wrap (IntKind.i64.wrap (ready - required)) = ready - required := by rw [IntKind.wrap_i64, IntKind.wrap_u64]; omega
  obtain ⟨x, hx'⟩ : ∃ x, IntKind.i64.wrap (ready - required) = x := ⟨_, rfl⟩
  obtain ⟨y, hy'⟩ : ∃ y, ready - required = y := ⟨_, rfl⟩
  obtain ⟨nn, hnn⟩ : ∃ nn, IntKind.u64.wrap n = nn := ⟨_, rfl⟩
  rw [hnn, hy'] at HF
  rw [hx', hy'] at hx
  rw [hy'] at hx'
  have HFF : Hid (Calls Yba.prog 13 #[.pointer (some ⟨b, 3, none⟩), .int .u64 nn, .int .u64 y, .int .u64 (max required 1)] w fun e w' => e = .returned (.tuple #[]) ∧ Q w') := HF
  have HQQ : Hid (∀ w', Q w' → w'.cell? ⟨b, 7, none⟩ = some (.int .i64 us) ∧ w'.frozen? ⟨b, 7, none⟩ = false) := HQ
  clear HF HQ
  go_enter Yba.func8, Yba.ntmps8
  go_wp2_with fail
  refine HFF.out.mono ?_
  rintro e w1 ⟨rfl, hq⟩
  obtain ⟨c6, f6⟩ := HQQ.out w1 hq
  have HH : Hid (Q w1) := hq
  clear hq HQQ HFF
  go_wp2
  first | (go_ret; exact ⟨rfl, w1, HH.out, rfl⟩) | (simp [bodyPost, results, Yba.results8, go_sem]; exact ⟨w1, HH.out, rfl⟩)

set_option maxRecDepth 100000 in
theorem tally_same (b : Nat) (n required : Int) (w : World) :
    Calls Yba.prog 8 #[.pointer (some ⟨b, 0, none⟩), .int .i64 n, .int .i64 required, .int .i64 required] w fun e w' => e = .returned (.tuple #[]) ∧ w' = w := by
  go_enter Yba.func8, Yba.ntmps8
  go_wp2
  first | (go_ret; exact ⟨rfl, rfl⟩) | simp [bodyPost, results, Yba.results8, go_sem]

set_option maxRecDepth 100000 in
/-- An empty sum is told as empty, and no other. -/
theorem empty9 (b o : Nat) (w : World) (hb : b < w.heap.size) (c0 : w.cell? ⟨b, o, none⟩ = some (.int .u64 0)) (c1 : w.cell? ⟨b, o + 1, none⟩ = some (.int .u64 0)) (c2 : w.cell? ⟨b, o + 2, none⟩ = some (.map none)) :
    Calls Yba.prog 9 #[.pointer (some ⟨b, o, none⟩)] w fun e w' => e = .returned (.bool true) ∧ w' = w := by
  have hem := fun W r => run_eql_map_nil (P := Yba.prog) W 23 22 22 r Yba.underlying23
  go_enter Yba.func9, Yba.ntmps9
  go_wp2
  go_ret
  exact ⟨rfl, rfl⟩
end Go.Proofs.Ybulkabno
