/-
  spanOf, by cases.
-/
import Derived.Test.YbulkabnoLay
import Derived.WalkKit
import Derived.WalkSpells
import Derived.StillTactics
import Derived.Laws.Pointers
import Derived.Deep.QuietTactic
import Derived.BigQuiet
import Derived.RowKit3
import Derived.Deep.Cut
import Derived.WalkLawsBesides
import Derived.Below
import Derived.Deep.LoopGhost
namespace Go.Proofs.Ybulkabno
open Go.RowKit Go.Shelf
set_option linter.unusedVariables false

theorem add64 (x y c : Int) (hx : 0 ≤ x) (hy : 0 ≤ y) (hc0 : 0 ≤ c) (hc : c ≤ 1) (w : World) : (callFunc 16 #[.int .u64 x, .int .u64 y, .int .u64 c]).run Yba.prog w =
    .ok (.value (.tuple #[.int .u64 ((x + y + c) % 18446744073709551616), .int .u64 ((x + y + c) / 18446744073709551616)])) w := by
  obtain ⟨x, rfl⟩ := Int.eq_ofNat_of_zero_le hx
  obtain ⟨y, rfl⟩ := Int.eq_ofNat_of_zero_le hy
  obtain ⟨c, rfl⟩ := Int.eq_ofNat_of_zero_le hc0
  refine (Any7.bits_Add64 Yba.lays25 x y c (by omega) w).trans ?_
  congr 5 <;> omega
theorem mul64 (x y : Int) (hx : 0 ≤ x) (hx' : x < 18446744073709551616) (hy : 0 ≤ y) (hy' : y < 18446744073709551616) (w : World) :
    Calls Yba.prog 15 #[.int .u64 x, .int .u64 y] w fun e w' => e = .returned (.tuple #[.int .u64 (x * y / 18446744073709551616), .int .u64 (x * y % 18446744073709551616)]) ∧ w' = w := by
  obtain ⟨x, rfl⟩ := Int.eq_ofNat_of_zero_le hx
  obtain ⟨y, rfl⟩ := Int.eq_ofNat_of_zero_le hy
  exact Yba.bits_Mul64 x y (by omega) (by omega) w

/-- The largest int64. -/
def Fits (rs ln req ex cold : Int) : Prop := rs * 1000000 ≤ 9223372036854775807 ∧ ln * (rs * 1000000) ≤ 9223372036854775807 ∧ ln * (rs * 1000000) + req * ex + cold ≤ 9223372036854775807

theorem new14 (s : ByteArray) (w : World) : Calls Yba.prog 14 #[.string s] w fun e w' => e = .returned (.iface 69 (.pointer (some ⟨w.heap.size, 0, none⟩))) ∧ w' = w.alloc (.cells #[.string s] 71) := by
  go_enter Yba.func14, Yba.ntmps14
  go_wp2
  go_ret
  exact ⟨rfl, rfl⟩


set_option maxRecDepth 100000 in
set_option maxHeartbeats 1000000 in
theorem spanOf_ok (b : Nat) (rs ln req ex cold : Int) (w : World) (hb : b < w.heap.size) (c4 : w.cell? ⟨b, 4, none⟩ = some (.int .i64 ln)) (c6 : w.cell? ⟨b, 6, none⟩ = some (.int .i64 req))
    (h0 : 1 ≤ rs) (h1 : rs ≤ 9223372036854775807) (h2 : 0 ≤ ln) (h3 : ln ≤ 9223372036854775807) (h4 : 0 ≤ req) (h5 : req ≤ 9223372036854775807) (h6 : 0 ≤ ex) (h7 : ex ≤ 9223372036854775807) (h8 : 0 ≤ cold) (h9 : cold ≤ 9223372036854775807) (hF : Fits rs ln req ex cold) :
    Calls Yba.prog 11 #[.pointer (some ⟨b, 0, none⟩), .agg #[.int .i64 rs, .int .i64 0, .nilIface, .int .i64 0, .int .i64 cold, .int .i64 ex, .int .i64 0]] w fun e w' =>
      e = .returned (.tuple #[.int .i64 (rs * 1000000), .int .i64 (ln * (rs * 1000000)), .nilIface]) ∧ Grown w w' := by
  obtain ⟨f1, f2, f3⟩ := hF
  have HP2 : 0 ≤ ln * (rs * 1000000) := Int.mul_nonneg h2 (by omega)
  have HP3 : 0 ≤ req * ex := Int.mul_nonneg h4 h6
  have hmul := mul64 req ex h4 (by omega) h6 (by omega)
  obtain ⟨p1, hp1⟩ : ∃ p1, p1 = rs * 1000000 := ⟨_, rfl⟩
  rw [← hp1] at f1 f2 f3 HP2 ⊢
  have hdiv : ln ≤ 9223372036854775807 / p1 := (Int.le_ediv_iff_mul_le (by omega)).2 f2
  obtain ⟨d, hd⟩ : ∃ d, d = 9223372036854775807 / p1 := ⟨_, rfl⟩
  obtain ⟨p2, hp2⟩ : ∃ p2, p2 = ln * p1 := ⟨_, rfl⟩
  obtain ⟨p3, hp3⟩ : ∃ p3, p3 = req * ex := ⟨_, rfl⟩
  rw [← hp2, ← hp3] at f3
  rw [← hp2] at HP2 ⊢
  rw [← hp3] at HP3 hmul
  rw [show p3 / 18446744073709551616 = 0 by omega, show p3 % 18446744073709551616 = p3 by omega] at hmul
  rw [← hd] at hdiv
  have q1 : decide (9223372036854 < rs) = false := by simp; omega
  have q2 : decide (d < ln) = false := by simp; omega
  have hwr : IntKind.u64.wrap req = req := by rw [IntKind.wrap_u64]; omega
  have hwe : IntKind.u64.wrap ex = ex := by rw [IntKind.wrap_u64]; omega
  have hp1' := hp1.symm
  have hp2' := hp2.symm
  have hd' := hd.symm
  clear hp1 hp2 hd hp3
  go_enter Yba.func11, Yba.ntmps11
  go_wp2_with fail
  refine (new14 _ _).mono ?_
  rintro e w1 ⟨rfl, hw1⟩
  have k0 : w1.cell? ⟨w.heap.size, 0, none⟩ = some (.int .i64 rs) := by rw [hw1]; simp
  have k4 : w1.cell? ⟨w.heap.size, 4, none⟩ = some (.int .i64 cold) := by rw [hw1]; simp
  have k5 : w1.cell? ⟨w.heap.size, 5, none⟩ = some (.int .i64 ex) := by rw [hw1]; simp
  have b4 : w1.cell? ⟨b, 4, none⟩ = some (.int .i64 ln) := by rw [hw1, World.cell?_alloc_past _ _ _ (by simp; omega), World.cell?_alloc_past _ _ _ hb]; exact c4
  have b6 : w1.cell? ⟨b, 6, none⟩ = some (.int .i64 req) := by rw [hw1, World.cell?_alloc_past _ _ _ (by simp; omega), World.cell?_alloc_past _ _ _ hb]; exact c6
  have HG : Hid (Grown w w1) := by show Grown w w1; rw [hw1]; exact ((Grown.refl _).alloc _ _).alloc _ _
  clear hw1 c4 c6
  go_upto_region 5 with fail
  go_quiet (fail)
  go_upto_region 8 with fail
  go_quiet ((go_at_call 15; exact (hmul _).mono fun _ _ h => ⟨h.1, _, h.2⟩))
  go_wp2
  refine bodyPost_ret (v := .tuple #[.int .i64 p1, .int .i64 p2, .nilIface]) (by simp [results, Yba.results11, go_sem]) rfl ⟨rfl, HG.out⟩

set_option maxRecDepth 100000 in
set_option maxHeartbeats 1000000 in
theorem spanOf_no1 (b : Nat) (rs ln req ex cold : Int) (w : World) (hb : b < w.heap.size) (c4 : w.cell? ⟨b, 4, none⟩ = some (.int .i64 ln)) (c6 : w.cell? ⟨b, 6, none⟩ = some (.int .i64 req))
    (h0 : 1 ≤ rs) (h1 : rs ≤ 9223372036854775807) (h2 : 0 ≤ ln) (h3 : ln ≤ 9223372036854775807) (h4 : 0 ≤ req) (h5 : req ≤ 9223372036854775807) (h6 : 0 ≤ ex) (h7 : ex ≤ 9223372036854775807) (h8 : 0 ≤ cold) (h9 : cold ≤ 9223372036854775807) (hF : ¬ rs * 1000000 ≤ 9223372036854775807) :
    Calls Yba.prog 11 #[.pointer (some ⟨b, 0, none⟩), .agg #[.int .i64 rs, .int .i64 0, .nilIface, .int .i64 0, .int .i64 cold, .int .i64 ex, .int .i64 0]] w fun e w' =>
      e = .returned (.tuple #[.int .i64 0, .int .i64 0, .iface 69 (.pointer (some ⟨w.heap.size + 1, 0, none⟩))]) ∧ Grown w w' := by
  have q1 : decide (9223372036854 < rs) = true := by simp; omega
  go_enter Yba.func11, Yba.ntmps11
  go_wp2_with fail
  refine (new14 _ _).mono ?_
  rintro e w1 ⟨rfl, hw1⟩
  have k0 : w1.cell? ⟨w.heap.size, 0, none⟩ = some (.int .i64 rs) := by rw [hw1]; simp
  have k4 : w1.cell? ⟨w.heap.size, 4, none⟩ = some (.int .i64 cold) := by rw [hw1]; simp
  have k5 : w1.cell? ⟨w.heap.size, 5, none⟩ = some (.int .i64 ex) := by rw [hw1]; simp
  have b4 : w1.cell? ⟨b, 4, none⟩ = some (.int .i64 ln) := by rw [hw1, World.cell?_alloc_past _ _ _ (by simp; omega), World.cell?_alloc_past _ _ _ hb]; exact c4
  have b6 : w1.cell? ⟨b, 6, none⟩ = some (.int .i64 req) := by rw [hw1, World.cell?_alloc_past _ _ _ (by simp; omega), World.cell?_alloc_past _ _ _ hb]; exact c6
  have HG : Hid (Grown w w1) := by show Grown w w1; rw [hw1]; exact ((Grown.refl _).alloc _ _).alloc _ _
  clear hw1 c4 c6
  go_wp2
  refine bodyPost_ret (v := .tuple #[.int .i64 0, .int .i64 0, .iface 69 (.pointer (some ⟨w.heap.size + 1, 0, none⟩))]) (by simp [results, Yba.results11, go_sem]) rfl ⟨rfl, HG.out⟩

set_option maxRecDepth 100000 in
set_option maxHeartbeats 1000000 in
theorem spanOf_no2 (b : Nat) (rs ln req ex cold : Int) (w : World) (hb : b < w.heap.size) (c4 : w.cell? ⟨b, 4, none⟩ = some (.int .i64 ln)) (c6 : w.cell? ⟨b, 6, none⟩ = some (.int .i64 req))
    (h0 : 1 ≤ rs) (h1 : rs ≤ 9223372036854775807) (h2 : 0 ≤ ln) (h3 : ln ≤ 9223372036854775807) (h4 : 0 ≤ req) (h5 : req ≤ 9223372036854775807) (h6 : 0 ≤ ex) (h7 : ex ≤ 9223372036854775807) (h8 : 0 ≤ cold) (h9 : cold ≤ 9223372036854775807) (f1 : rs * 1000000 ≤ 9223372036854775807) (f2 : ¬ ln * (rs * 1000000) ≤ 9223372036854775807) :
    Calls Yba.prog 11 #[.pointer (some ⟨b, 0, none⟩), .agg #[.int .i64 rs, .int .i64 0, .nilIface, .int .i64 0, .int .i64 cold, .int .i64 ex, .int .i64 0]] w fun e w' =>
      e = .returned (.tuple #[.int .i64 0, .int .i64 0, .iface 69 (.pointer (some ⟨w.heap.size + 1, 0, none⟩))]) ∧ Grown w w' := by
  obtain ⟨p1, hp1⟩ : ∃ p1, p1 = rs * 1000000 := ⟨_, rfl⟩
  rw [← hp1] at f1 f2
  obtain ⟨d, hd⟩ : ∃ d, d = 9223372036854775807 / p1 := ⟨_, rfl⟩
  have q1 : decide (9223372036854 < rs) = false := by simp; omega
  have hp1' := hp1.symm
  have hd' := hd.symm
  have hdiv : d < ln := by
    rw [hd]
    exact Int.not_le.1 fun hh => f2 ((Int.le_ediv_iff_mul_le (by omega)).1 hh)
  have q2 : decide (d < ln) = true := by simp; omega
  clear hp1 hd f2
  go_enter Yba.func11, Yba.ntmps11
  go_wp2_with fail
  refine (new14 _ _).mono ?_
  rintro e w1 ⟨rfl, hw1⟩
  have k0 : w1.cell? ⟨w.heap.size, 0, none⟩ = some (.int .i64 rs) := by rw [hw1]; simp
  have k4 : w1.cell? ⟨w.heap.size, 4, none⟩ = some (.int .i64 cold) := by rw [hw1]; simp
  have k5 : w1.cell? ⟨w.heap.size, 5, none⟩ = some (.int .i64 ex) := by rw [hw1]; simp
  have b4 : w1.cell? ⟨b, 4, none⟩ = some (.int .i64 ln) := by rw [hw1, World.cell?_alloc_past _ _ _ (by simp; omega), World.cell?_alloc_past _ _ _ hb]; exact c4
  have b6 : w1.cell? ⟨b, 6, none⟩ = some (.int .i64 req) := by rw [hw1, World.cell?_alloc_past _ _ _ (by simp; omega), World.cell?_alloc_past _ _ _ hb]; exact c6
  have HG : Hid (Grown w w1) := by show Grown w w1; rw [hw1]; exact ((Grown.refl _).alloc _ _).alloc _ _
  clear hw1 c4 c6
  go_upto_region 5 with fail
  go_quiet (fail)
  go_wp2
  refine bodyPost_ret (v := .tuple #[.int .i64 0, .int .i64 0, .iface 69 (.pointer (some ⟨w.heap.size + 1, 0, none⟩))]) (by simp [results, Yba.results11, go_sem]) rfl ⟨rfl, HG.out⟩

set_option maxRecDepth 100000 in
set_option maxHeartbeats 1000000 in
theorem spanOf_no3 (b : Nat) (rs ln req ex cold : Int) (w : World) (hb : b < w.heap.size) (c4 : w.cell? ⟨b, 4, none⟩ = some (.int .i64 ln)) (c6 : w.cell? ⟨b, 6, none⟩ = some (.int .i64 req))
    (h0 : 1 ≤ rs) (h1 : rs ≤ 9223372036854775807) (h2 : 0 ≤ ln) (h3 : ln ≤ 9223372036854775807) (h4 : 0 ≤ req) (h5 : req ≤ 9223372036854775807) (h6 : 0 ≤ ex) (h7 : ex ≤ 9223372036854775807) (h8 : 0 ≤ cold) (h9 : cold ≤ 9223372036854775807) (f1 : rs * 1000000 ≤ 9223372036854775807) (f2 : ln * (rs * 1000000) ≤ 9223372036854775807) (f3 : ¬ ln * (rs * 1000000) + req * ex + cold ≤ 9223372036854775807) :
    Calls Yba.prog 11 #[.pointer (some ⟨b, 0, none⟩), .agg #[.int .i64 rs, .int .i64 0, .nilIface, .int .i64 0, .int .i64 cold, .int .i64 ex, .int .i64 0]] w fun e w' =>
      e = .returned (.tuple #[.int .i64 0, .int .i64 0, .iface 69 (.pointer (some ⟨w.heap.size + 1, 0, none⟩))]) ∧ Grown w w' := by
  have HP2 : 0 ≤ ln * (rs * 1000000) := Int.mul_nonneg h2 (by omega)
  have HP3 : 0 ≤ req * ex := Int.mul_nonneg h4 h6
  have hmul := mul64 req ex h4 (by omega) h6 (by omega)
  obtain ⟨p1, hp1⟩ : ∃ p1, p1 = rs * 1000000 := ⟨_, rfl⟩
  rw [← hp1] at f1 f2 f3 HP2
  obtain ⟨d, hd⟩ : ∃ d, d = 9223372036854775807 / p1 := ⟨_, rfl⟩
  have q1 : decide (9223372036854 < rs) = false := by simp; omega
  have hp1' := hp1.symm
  have hd' := hd.symm
  have hdiv : ln ≤ d := by rw [hd]; exact (Int.le_ediv_iff_mul_le (by omega)).2 f2
  have q2 : decide (d < ln) = false := by simp; omega
  obtain ⟨p2, hp2⟩ : ∃ p2, p2 = ln * p1 := ⟨_, rfl⟩
  obtain ⟨p3, hp3⟩ : ∃ p3, p3 = req * ex := ⟨_, rfl⟩
  rw [← hp2] at f2 f3 HP2
  rw [← hp3] at f3 HP3 hmul
  have hwr : IntKind.u64.wrap req = req := by rw [IntKind.wrap_u64]; omega
  have hwe : IntKind.u64.wrap ex = ex := by rw [IntKind.wrap_u64]; omega
  have hp2' := hp2.symm
  clear hp1 hd hp2 hp3 hdiv
  by_cases g1 : 18446744073709551616 ≤ p3
  · obtain ⟨hi, hhi⟩ : ∃ hi, hi = p3 / 18446744073709551616 := ⟨_, rfl⟩
    obtain ⟨lo, hlo⟩ : ∃ lo, lo = p3 % 18446744073709551616 := ⟨_, rfl⟩
    have hz' : ¬ hi = 0 := by omega
    have hz : (hi == 0) = false := by simp; omega
    rw [← hhi, ← hlo] at hmul
    clear hhi hlo f3 g1 HP3
    go_enter Yba.func11, Yba.ntmps11
    go_wp2_with fail
    refine (new14 _ _).mono ?_
    rintro e w1 ⟨rfl, hw1⟩
    have k0 : w1.cell? ⟨w.heap.size, 0, none⟩ = some (.int .i64 rs) := by rw [hw1]; simp
    have k4 : w1.cell? ⟨w.heap.size, 4, none⟩ = some (.int .i64 cold) := by rw [hw1]; simp
    have k5 : w1.cell? ⟨w.heap.size, 5, none⟩ = some (.int .i64 ex) := by rw [hw1]; simp
    have b4 : w1.cell? ⟨b, 4, none⟩ = some (.int .i64 ln) := by rw [hw1, World.cell?_alloc_past _ _ _ (by simp; omega), World.cell?_alloc_past _ _ _ hb]; exact c4
    have b6 : w1.cell? ⟨b, 6, none⟩ = some (.int .i64 req) := by rw [hw1, World.cell?_alloc_past _ _ _ (by simp; omega), World.cell?_alloc_past _ _ _ hb]; exact c6
    have HG : Hid (Grown w w1) := by show Grown w w1; rw [hw1]; exact ((Grown.refl _).alloc _ _).alloc _ _
    clear hw1 c4 c6
    go_upto_region 5 with fail
    go_quiet (fail)
    go_upto_region 8 with fail
    go_quiet ((go_at_call 15; exact (hmul _).mono fun _ _ h => ⟨h.1, _, h.2⟩))
    go_wp2
    refine bodyPost_ret (v := .tuple #[.int .i64 0, .int .i64 0, .iface 69 (.pointer (some ⟨w.heap.size + 1, 0, none⟩))]) (by simp [results, Yba.results11, go_sem]) rfl ⟨rfl, HG.out⟩
  · rw [show p3 / 18446744073709551616 = 0 by omega, show p3 % 18446744073709551616 = p3 by omega] at hmul
    by_cases g2 : 9223372036854775807 - p2 < p3
    · go_enter Yba.func11, Yba.ntmps11
      go_wp2_with fail
      refine (new14 _ _).mono ?_
      rintro e w1 ⟨rfl, hw1⟩
      have k0 : w1.cell? ⟨w.heap.size, 0, none⟩ = some (.int .i64 rs) := by rw [hw1]; simp
      have k4 : w1.cell? ⟨w.heap.size, 4, none⟩ = some (.int .i64 cold) := by rw [hw1]; simp
      have k5 : w1.cell? ⟨w.heap.size, 5, none⟩ = some (.int .i64 ex) := by rw [hw1]; simp
      have b4 : w1.cell? ⟨b, 4, none⟩ = some (.int .i64 ln) := by rw [hw1, World.cell?_alloc_past _ _ _ (by simp; omega), World.cell?_alloc_past _ _ _ hb]; exact c4
      have b6 : w1.cell? ⟨b, 6, none⟩ = some (.int .i64 req) := by rw [hw1, World.cell?_alloc_past _ _ _ (by simp; omega), World.cell?_alloc_past _ _ _ hb]; exact c6
      have HG : Hid (Grown w w1) := by show Grown w w1; rw [hw1]; exact ((Grown.refl _).alloc _ _).alloc _ _
      clear hw1 c4 c6
      go_upto_region 5 with fail
      go_quiet (fail)
      go_upto_region 8 with fail
      go_quiet ((go_at_call 15; exact (hmul _).mono fun _ _ h => ⟨h.1, _, h.2⟩))
      go_wp2
      refine bodyPost_ret (v := .tuple #[.int .i64 0, .int .i64 0, .iface 69 (.pointer (some ⟨w.heap.size + 1, 0, none⟩))]) (by simp [results, Yba.results11, go_sem]) rfl ⟨rfl, HG.out⟩
    · have g3 : 9223372036854775807 - p2 - p3 < cold := by omega
      go_enter Yba.func11, Yba.ntmps11
      go_wp2_with fail
      refine (new14 _ _).mono ?_
      rintro e w1 ⟨rfl, hw1⟩
      have k0 : w1.cell? ⟨w.heap.size, 0, none⟩ = some (.int .i64 rs) := by rw [hw1]; simp
      have k4 : w1.cell? ⟨w.heap.size, 4, none⟩ = some (.int .i64 cold) := by rw [hw1]; simp
      have k5 : w1.cell? ⟨w.heap.size, 5, none⟩ = some (.int .i64 ex) := by rw [hw1]; simp
      have b4 : w1.cell? ⟨b, 4, none⟩ = some (.int .i64 ln) := by rw [hw1, World.cell?_alloc_past _ _ _ (by simp; omega), World.cell?_alloc_past _ _ _ hb]; exact c4
      have b6 : w1.cell? ⟨b, 6, none⟩ = some (.int .i64 req) := by rw [hw1, World.cell?_alloc_past _ _ _ (by simp; omega), World.cell?_alloc_past _ _ _ hb]; exact c6
      have HG : Hid (Grown w w1) := by show Grown w w1; rw [hw1]; exact ((Grown.refl _).alloc _ _).alloc _ _
      clear hw1 c4 c6
      go_upto_region 5 with fail
      go_quiet (fail)
      go_upto_region 8 with fail
      go_quiet ((go_at_call 15; exact (hmul _).mono fun _ _ h => ⟨h.1, _, h.2⟩))
      go_wp2
      refine bodyPost_ret (v := .tuple #[.int .i64 0, .int .i64 0, .iface 69 (.pointer (some ⟨w.heap.size + 1, 0, none⟩))]) (by simp [results, Yba.results11, go_sem]) rfl ⟨rfl, HG.out⟩
end Go.Proofs.Ybulkabno
