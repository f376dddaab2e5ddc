/-
  The law of one exact add: function 4.
-/
import Derived.Test.YbulkabnoSide
import Derived.Test.YbulkabnoNew
namespace Go.Proofs.Ybulkabno
open Go.RowKit Go.Shelf Go.Maps Go.WideMaps
set_option linter.unusedVariables false
set_option linter.unusedSimpArgs false

theorem key22x (per : Int) (h0 : 0 ≤ per) (h1 : per < 9223372036854775808) : keyOf Yba.prog 22 (.int .u64 per) = some (.int .u64 per) :=
  keyOf_int_mk Yba.underlying22 (by simp [Lit.wf, IntKind.min, IntKind.max, IntKind.signed, IntKind.bits]; omega)
theorem one_look {w : World} {B t : Nat} {per r : Int} (h : One w B t per r) (h0 : 0 ≤ per) (h1 : per < 9223372036854775808) (k : Nat) :
    (Instr.lookup 23 (.map (some B)) (.int .u64 per) true).run Yba.prog (w.drewN k) = .ok (.tuple #[.int .u64 r, .bool true]) (w.drewN k) := by
  have hO : One (w.drewN k) B t per r := h
  obtain ⟨v, ps, hrun, hv⟩ := World.ownsMap.look_ok hO law22 Yba.underlying23 (zero22 (w.drewN k)) (plainElem_int Yba.underlying22 (by decide)) (key22x per h0 h1)
  obtain ⟨c, rfl, hc, hwc⟩ := plainElem_int_inv Yba.underlying22 hv
  rw [at_one (congrArg Prod.fst hc)]
  rw [hrun]
  simp [Maps.has, Lit.sameKey]
theorem one_len {w : World} {B t : Nat} {per r : Int} (h : One w B t per r) (k : Nat) (ty : TypeId) :
    (Builtin.len_ #[23] ty #[.map (some B)]).run Yba.prog (w.drewN k) = .ok (.int .i64 1) (w.drewN k) := by
  have hO : One (w.drewN k) B t per r := h
  rw [hO.len Yba.underlying23 ty]
  simp [Maps.size]

set_option maxRecDepth 100000 in
set_option maxHeartbeats 2000000 in
theorem law4 (a0 a1 a2 : Int) (w : World) :
    Calls Yba.prog 4 #[.int .i64 a0, .int .i64 a1, .int .i64 a2] w fun e w' => e = .returned (.bool true) ∧ Below w.heap.size w w' := by
  have hem := fun W r => run_eql_map_nil (P := Yba.prog) W 23 22 22 r Yba.underlying23
  go_enter Yba.func4, Yba.ntmps4
  go_wp2_with fail
  refine (map10 a0 1048576 (by decide) (by decide) _).mono ?_
  rintro e w1 ⟨⟨n, ⟨n0, n1⟩, rfl⟩, hw⟩
  rw [hw]
  clear hw w1
  go_wp2_with fail
  refine (map10 a1 2097152 (by decide) (by decide) _).mono ?_
  rintro e w1 ⟨⟨y, ⟨y0, y1⟩, rfl⟩, hw⟩
  rw [hw]
  clear hw w1
  have hy : IntKind.i64.wrap (y - 1048576) = y - 1048576 := by rw [IntKind.wrap_i64]; omega
  obtain ⟨required, hreq⟩ : ∃ required, y - 1048576 = required := ⟨_, rfl⟩
  rw [hreq] at hy
  have k0 : -1048576 ≤ required := by omega
  have k1 : required < 1048576 := by omega
  clear y0 y1
  go_wp2_with fail
  clear hy hreq
  refine (map10 a2 2097152 (by decide) (by decide) _).mono ?_
  rintro e w1 ⟨⟨z, ⟨z0, z1⟩, rfl⟩, hw⟩
  rw [hw]
  clear hw w1
  have hz : IntKind.i64.wrap (z - 1048576) = z - 1048576 := by rw [IntKind.wrap_i64]; omega
  obtain ⟨ready, hrd⟩ : ∃ ready, z - 1048576 = ready := ⟨_, rfl⟩
  rw [hrd] at hz
  have j0 : -1048576 ≤ ready := by omega
  have j1 : ready < 1048576 := by omega
  clear z0 z1
  go_wp2_with fail
  clear hz hrd
  by_cases hlt : ready < required
  · obtain ⟨P0, P1⟩ := prod_small n (required - ready) n0 n1 (by omega) (by omega)
    have e1 : IntKind.i64.wrap (required - ready) = required - ready := by rw [IntKind.wrap_i64]; omega
    have e2 : IntKind.u64.wrap (required - ready) = required - ready := by rw [IntKind.wrap_u64]; omega
    have e3 := wrapn n n0 n1
    have e4 : IntKind.u64.wrap (n * (required - ready)) = n * (required - ready) := by rw [IntKind.wrap_u64]; omega
    by_cases hp : 1 < required
    · have HD := div64_zero (n * (required - ready)) required P0 (by omega) (by omega) (by omega)
      have m0 := Int.emod_nonneg (n * (required - ready)) (show required ≠ 0 by omega)
      have m1 := Int.emod_lt_of_pos (n * (required - ready)) (show 0 < required by omega)
      have q0 := Int.ediv_nonneg P0 (show 0 ≤ required by omega)
      have q1 := Int.ediv_le_self required P0
      have z1' : n * (required - ready) / 18446744073709551616 = 0 := by omega
      have z2' : n * (required - ready) % 18446744073709551616 = n * (required - ready) := by omega
      have z3' : (0 : Int) % required = 0 := by simp
      refine (step_under_new w.heap.size 0 0 0 n required ready (n * (required - ready) / required) (n * (required - ready) % required) 0 0 0 (.map none) _ (tal_new w) (by omega) (by omega) (by omega) (by omega) hlt (by decide) (by decide) (by omega) q0 (by omega) m0 m1 (by rw [e3, z1', z2', z3']; exact HD)).mono ?_
      rintro e w1 ⟨rfl, hT, hO, hF⟩
      have bel := below_new hF (fun k hk => Nat.le_of_eq hk.symm)
      have hb : w.heap.size < w1.heap.size := lt_of_block hT
      obtain ⟨D, hD⟩ : ∃ D, required - ready = D := ⟨_, rfl⟩
      have f1 : IntKind.i64.wrap (required - ready) = D := e1.trans hD
      rw [hD] at e2 e4 hT hO P0 P1 q0 q1
      obtain ⟨P, hP⟩ : ∃ P, n * D = P := ⟨_, rfl⟩
      have f4 : IntKind.u64.wrap (n * D) = P := e4.trans hP
      rw [hP] at P0 P1 hO q0 q1
      have z1 : P / 18446744073709551616 = 0 := by omega
      have z2 : P % 18446744073709551616 = P := by omega
      have z4 : (0 : Int) / required = 0 := by simp
      obtain ⟨Z, hZ⟩ : ∃ Z, P / required = Z := ⟨_, rfl⟩
      obtain ⟨r, hr⟩ : ∃ r, P % required = r := ⟨_, rfl⟩
      rw [hZ] at q0 q1
      rw [hr] at hO
      rw [e3, hP, z1, z4, hZ, newHi_small _ _ _ (by omega) (by omega), newLo_small _ _ _ (by omega) (by omega)] at hT
      have z5 : (0 : Int) + Z + 0 = Z := by omega
      rw [z5] at hT
      obtain ⟨M, hM⟩ : ∃ M, (w.alloc (.cells #[.int .u64 0, .int .u64 0, .map none, .int .u64 0, .int .u64 0, .map none, .int .i64 0, .int .i64 0] 27)).heap.size = M := ⟨_, rfl⟩
      rw [hM] at hT hO
      have lk := one_look hO (by omega) (by omega)
      have ln := one_len hO
      have hq : (required == 0) = false := by simp; omega
      have hq1 : (required == 1) = false := by simp; omega
      have hwr : IntKind.u64.wrap required = required := by rw [IntKind.wrap_u64]; omega
      have g0 : w1.cell? ⟨w.heap.size, 0, none⟩ = some (.int .u64 0) := by rw [cell_of_row _ _ _ _ _ _ hT]; rfl
      have g1 : w1.cell? ⟨w.heap.size, 1, none⟩ = some (.int .u64 Z) := by rw [cell_of_row _ _ _ _ _ _ hT]; rfl
      have g2 : w1.cell? ⟨w.heap.size, 2, none⟩ = some (.map (some M)) := by rw [cell_of_row _ _ _ _ _ _ hT]; rfl
      have g3 : w1.cell? ⟨w.heap.size, 3, none⟩ = some (.int .u64 0) := by rw [cell_of_row _ _ _ _ _ _ hT]; rfl
      have g4 : w1.cell? ⟨w.heap.size, 3 + 1, none⟩ = some (.int .u64 0) := by rw [cell_of_row _ _ _ _ _ _ hT]; rfl
      have g5 : w1.cell? ⟨w.heap.size, 3 + 2, none⟩ = some (.map none) := by rw [cell_of_row _ _ _ _ _ _ hT]; rfl
      have hE := empty9 w.heap.size 3 w1 hb g3 g4 g5
      have HB : Hid (Below w.heap.size w w1) := bel
      clear bel hF hT hO hM HD m0 m1 z1' z2' z3' z4 z5 g3 g4 g5 hD hP e1 e4 z1 z2
      go_wp2_with fail
      refine hE.mono ?_
      rintro e w2 ⟨rfl, hw2⟩
      rw [hw2]
      clear hw2 w2 hE
      go_upto_region 21 with fail
      go_quiet (fail)
      go_wp2
      go_ret
      exact ⟨rfl, below_drewN HB.out _⟩
    · refine (step_under_one w.heap.size 0 0 0 n required ready 0 0 0 (.map none) (.map none) _ (tal_new w) (by omega) (by omega) (by omega) (by omega) hlt (by decide) (by decide) (by omega)).mono ?_
      rintro e w1 ⟨rfl, hT, hF⟩
      have bel := below_new hF (fun k hk => Nat.le_of_eq hk.symm)
      have hb : w.heap.size < w1.heap.size := lt_of_block hT
      obtain ⟨D, hD⟩ : ∃ D, required - ready = D := ⟨_, rfl⟩
      have f1 : IntKind.i64.wrap (required - ready) = D := e1.trans hD
      rw [hD] at e2 e4 hT P0 P1
      obtain ⟨P, hP⟩ : ∃ P, n * D = P := ⟨_, rfl⟩
      have f4 : IntKind.u64.wrap (n * D) = P := e4.trans hP
      rw [hP] at P0 P1
      have z1 : P / 18446744073709551616 = 0 := by omega
      have z2 : P % 18446744073709551616 = P := by omega
      rw [e3, hP, z1, z2, newHi_small _ _ _ (by omega) (by omega), newLo_small _ _ _ (by omega) (by omega)] at hT
      have z3 : (0 : Int) + P + 0 = P := by omega
      rw [z3] at hT
      have z4 : P / 1 = P := by omega
      have g0 : w1.cell? ⟨w.heap.size, 0, none⟩ = some (.int .u64 0) := by rw [cell_of_row _ _ _ _ _ _ hT]; rfl
      have g1 : w1.cell? ⟨w.heap.size, 1, none⟩ = some (.int .u64 P) := by rw [cell_of_row _ _ _ _ _ _ hT]; rfl
      have g2 : w1.cell? ⟨w.heap.size, 2, none⟩ = some (.map none) := by rw [cell_of_row _ _ _ _ _ _ hT]; rfl
      have g3 : w1.cell? ⟨w.heap.size, 3, none⟩ = some (.int .u64 0) := by rw [cell_of_row _ _ _ _ _ _ hT]; rfl
      have g4 : w1.cell? ⟨w.heap.size, 3 + 1, none⟩ = some (.int .u64 0) := by rw [cell_of_row _ _ _ _ _ _ hT]; rfl
      have g5 : w1.cell? ⟨w.heap.size, 3 + 2, none⟩ = some (.map none) := by rw [cell_of_row _ _ _ _ _ _ hT]; rfl
      have hE := empty9 w.heap.size 3 w1 hb g3 g4 g5
      have HB : Hid (Below w.heap.size w w1) := bel
      clear bel hF hT g3 g4 g5 hD hP e1 e4 z1 z2 z3
      go_wp2_with fail
      refine hE.mono ?_
      rintro e w2 ⟨rfl, hw2⟩
      rw [hw2]
      clear hw2 w2 hE
      go_upto_region 21 with fail
      go_quiet (fail)
      go_wp2
      go_ret
      exact ⟨rfl, below_drewN HB.out _⟩
  · by_cases hgt : required < ready
    · have hlt := hgt
      obtain ⟨P0, P1⟩ := prod_small n (ready - required) n0 n1 (by omega) (by omega)
      have e1 : IntKind.i64.wrap (ready - required) = ready - required := by rw [IntKind.wrap_i64]; omega
      have e2 : IntKind.u64.wrap (ready - required) = ready - required := by rw [IntKind.wrap_u64]; omega
      have e3 := wrapn n n0 n1
      have e4 : IntKind.u64.wrap (n * (ready - required)) = n * (ready - required) := by rw [IntKind.wrap_u64]; omega
      by_cases hp : 1 < required
      · have HD := div64_zero (n * (ready - required)) required P0 (by omega) (by omega) (by omega)
        have m0 := Int.emod_nonneg (n * (ready - required)) (show required ≠ 0 by omega)
        have m1 := Int.emod_lt_of_pos (n * (ready - required)) (show 0 < required by omega)
        have q0 := Int.ediv_nonneg P0 (show 0 ≤ required by omega)
        have q1 := Int.ediv_le_self required P0
        have z1' : n * (ready - required) / 18446744073709551616 = 0 := by omega
        have z2' : n * (ready - required) % 18446744073709551616 = n * (ready - required) := by omega
        have z3' : (0 : Int) % required = 0 := by simp
        refine (step_over_new w.heap.size 0 0 0 n required ready (n * (ready - required) / required) (n * (ready - required) % required) 0 0 0 (.map none) _ (tal_new w) (by omega) (by omega) (by omega) (by omega) hlt (by decide) (by decide) (by omega) q0 (by omega) m0 m1 (by rw [e3, z1', z2', z3']; exact HD)).mono ?_
        rintro e w1 ⟨rfl, hT, hO, hF⟩
        have bel := below_new hF (fun k hk => Nat.le_of_eq hk.symm)
        have hb : w.heap.size < w1.heap.size := lt_of_block hT
        obtain ⟨D, hD⟩ : ∃ D, ready - required = D := ⟨_, rfl⟩
        have f1 : IntKind.i64.wrap (ready - required) = D := e1.trans hD
        rw [hD] at e2 e4 hT hO P0 P1 q0 q1
        obtain ⟨P, hP⟩ : ∃ P, n * D = P := ⟨_, rfl⟩
        have f4 : IntKind.u64.wrap (n * D) = P := e4.trans hP
        rw [hP] at P0 P1 hO q0 q1
        have z1 : P / 18446744073709551616 = 0 := by omega
        have z2 : P % 18446744073709551616 = P := by omega
        have z4 : (0 : Int) / required = 0 := by simp
        obtain ⟨Z, hZ⟩ : ∃ Z, P / required = Z := ⟨_, rfl⟩
        obtain ⟨r, hr⟩ : ∃ r, P % required = r := ⟨_, rfl⟩
        rw [hZ] at q0 q1
        rw [hr] at hO
        rw [e3, hP, z1, z4, hZ, newHi_small _ _ _ (by omega) (by omega), newLo_small _ _ _ (by omega) (by omega)] at hT
        have z5 : (0 : Int) + Z + 0 = Z := by omega
        rw [z5] at hT
        obtain ⟨M, hM⟩ : ∃ M, (w.alloc (.cells #[.int .u64 0, .int .u64 0, .map none, .int .u64 0, .int .u64 0, .map none, .int .i64 0, .int .i64 0] 27)).heap.size = M := ⟨_, rfl⟩
        rw [hM] at hT hO
        have lk := one_look hO (by omega) (by omega)
        have ln := one_len hO
        have hq : (required == 0) = false := by simp; omega
        have hq1 : (required == 1) = false := by simp; omega
        have hwr : IntKind.u64.wrap required = required := by rw [IntKind.wrap_u64]; omega
        have g0 : w1.cell? ⟨w.heap.size, 3, none⟩ = some (.int .u64 0) := by rw [cell_of_row _ _ _ _ _ _ hT]; rfl
        have g1 : w1.cell? ⟨w.heap.size, 4, none⟩ = some (.int .u64 Z) := by rw [cell_of_row _ _ _ _ _ _ hT]; rfl
        have g2 : w1.cell? ⟨w.heap.size, 5, none⟩ = some (.map (some M)) := by rw [cell_of_row _ _ _ _ _ _ hT]; rfl
        have g3 : w1.cell? ⟨w.heap.size, 0, none⟩ = some (.int .u64 0) := by rw [cell_of_row _ _ _ _ _ _ hT]; rfl
        have g4 : w1.cell? ⟨w.heap.size, 0 + 1, none⟩ = some (.int .u64 0) := by rw [cell_of_row _ _ _ _ _ _ hT]; rfl
        have g5 : w1.cell? ⟨w.heap.size, 0 + 2, none⟩ = some (.map none) := by rw [cell_of_row _ _ _ _ _ _ hT]; rfl
        have hE := empty9 w.heap.size 0 w1 hb g3 g4 g5
        have HB : Hid (Below w.heap.size w w1) := bel
        clear bel hF hT hO hM HD m0 m1 z1' z2' z3' z4 z5 g3 g4 g5 hD hP e1 e4 z1 z2
        go_wp2_with fail
        refine hE.mono ?_
        rintro e w2 ⟨rfl, hw2⟩
        rw [hw2]
        clear hw2 w2 hE
        go_upto_region 21 with fail
        go_quiet (fail)
        go_wp2
        go_ret
        exact ⟨rfl, below_drewN HB.out _⟩
      · refine (step_over_one w.heap.size 0 0 0 n required ready 0 0 0 (.map none) (.map none) _ (tal_new w) (by omega) (by omega) (by omega) (by omega) hlt (by decide) (by decide) (by omega)).mono ?_
        rintro e w1 ⟨rfl, hT, hF⟩
        have bel := below_new hF (fun k hk => Nat.le_of_eq hk.symm)
        have hb : w.heap.size < w1.heap.size := lt_of_block hT
        obtain ⟨D, hD⟩ : ∃ D, ready - required = D := ⟨_, rfl⟩
        have f1 : IntKind.i64.wrap (ready - required) = D := e1.trans hD
        rw [hD] at e2 e4 hT P0 P1
        obtain ⟨P, hP⟩ : ∃ P, n * D = P := ⟨_, rfl⟩
        have f4 : IntKind.u64.wrap (n * D) = P := e4.trans hP
        rw [hP] at P0 P1
        have z1 : P / 18446744073709551616 = 0 := by omega
        have z2 : P % 18446744073709551616 = P := by omega
        rw [e3, hP, z1, z2, newHi_small _ _ _ (by omega) (by omega), newLo_small _ _ _ (by omega) (by omega)] at hT
        have z3 : (0 : Int) + P + 0 = P := by omega
        rw [z3] at hT
        have z4 : P / 1 = P := by omega
        have g0 : w1.cell? ⟨w.heap.size, 3, none⟩ = some (.int .u64 0) := by rw [cell_of_row _ _ _ _ _ _ hT]; rfl
        have g1 : w1.cell? ⟨w.heap.size, 4, none⟩ = some (.int .u64 P) := by rw [cell_of_row _ _ _ _ _ _ hT]; rfl
        have g2 : w1.cell? ⟨w.heap.size, 5, none⟩ = some (.map none) := by rw [cell_of_row _ _ _ _ _ _ hT]; rfl
        have g3 : w1.cell? ⟨w.heap.size, 0, none⟩ = some (.int .u64 0) := by rw [cell_of_row _ _ _ _ _ _ hT]; rfl
        have g4 : w1.cell? ⟨w.heap.size, 0 + 1, none⟩ = some (.int .u64 0) := by rw [cell_of_row _ _ _ _ _ _ hT]; rfl
        have g5 : w1.cell? ⟨w.heap.size, 0 + 2, none⟩ = some (.map none) := by rw [cell_of_row _ _ _ _ _ _ hT]; rfl
        have hE := empty9 w.heap.size 0 w1 hb g3 g4 g5
        have HB : Hid (Below w.heap.size w w1) := bel
        clear bel hF hT g3 g4 g5 hD hP e1 e4 z1 z2 z3
        go_wp2_with fail
        refine hE.mono ?_
        rintro e w2 ⟨rfl, hw2⟩
        rw [hw2]
        clear hw2 w2 hE
        go_upto_region 21 with fail
        go_quiet (fail)
        go_wp2
        go_ret
        exact ⟨rfl, below_drewN HB.out _⟩
    · obtain rfl : required = ready := by omega
      refine (tally_same w.heap.size n required _).mono ?_
      rintro e w1 ⟨rfl, hw1⟩
      have hT : Tal w1 w.heap.size 0 0 (.map none) 0 0 (.map none) 0 0 := by rw [hw1]; exact tal_new w
      have bel : Below w.heap.size w w1 := by rw [hw1]; exact (Below.refl _ _).alloc (Nat.le_refl _) _
      clear hw1
      have hb : w.heap.size < w1.heap.size := lt_of_block hT
      have g0 : w1.cell? ⟨w.heap.size, 0, none⟩ = some (.int .u64 0) := by rw [cell_of_row _ _ _ _ _ _ hT]; rfl
      have g1 : w1.cell? ⟨w.heap.size, 0 + 1, none⟩ = some (.int .u64 0) := by rw [cell_of_row _ _ _ _ _ _ hT]; rfl
      have g2 : w1.cell? ⟨w.heap.size, 0 + 2, none⟩ = some (.map none) := by rw [cell_of_row _ _ _ _ _ _ hT]; rfl
      have g3 : w1.cell? ⟨w.heap.size, 3, none⟩ = some (.int .u64 0) := by rw [cell_of_row _ _ _ _ _ _ hT]; rfl
      have g4 : w1.cell? ⟨w.heap.size, 3 + 1, none⟩ = some (.int .u64 0) := by rw [cell_of_row _ _ _ _ _ _ hT]; rfl
      have g5 : w1.cell? ⟨w.heap.size, 3 + 2, none⟩ = some (.map none) := by rw [cell_of_row _ _ _ _ _ _ hT]; rfl
      have hU := empty9 w.heap.size 0 w1 hb g0 g1 g2
      have hO := empty9 w.heap.size 3 w1 hb g3 g4 g5
      have HB : Hid (Below w.heap.size w w1) := bel
      clear bel hT g0 g1 g2 g3 g4 g5
      by_cases hp : 1 < required
      · go_wp2_with fail
        refine hU.mono ?_
        rintro e w2 ⟨rfl, hw2⟩
        rw [hw2]
        clear hw2 w2 hU
        go_wp2_with fail
        refine hO.mono ?_
        rintro e w2 ⟨rfl, hw2⟩
        rw [hw2]
        clear hw2 w2 hO
        go_wp2
        go_ret
        exact ⟨rfl, HB.out⟩
      · go_wp2_with fail
        refine hU.mono ?_
        rintro e w2 ⟨rfl, hw2⟩
        rw [hw2]
        clear hw2 w2 hU
        go_wp2_with fail
        refine hO.mono ?_
        rintro e w2 ⟨rfl, hw2⟩
        rw [hw2]
        clear hw2 w2 hO
        go_wp2
        go_ret
        exact ⟨rfl, HB.out⟩
end Go.Proofs.Ybulkabno
