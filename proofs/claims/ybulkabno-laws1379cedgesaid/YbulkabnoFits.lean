/-
  The test's own 128-bit model, by cases.
-/
import Derived.Test.YbulkabnoSpan
namespace Go.Proofs.Ybulkabno
open Go.RowKit Go.Shelf
set_option linter.unusedVariables false
set_option linter.unusedSimpArgs false

/-- Two words added with no carry coming in. -/
theorem add64_0 (x y : Int) (hx : 0 ≤ x) (hy : 0 ≤ y) (w : World) : (callFunc 16 #[.int .u64 x, .int .u64 y, .int .u64 0]).run Yba.prog w =
    .ok (.value (.tuple #[.int .u64 ((x + y) % 18446744073709551616), .int .u64 ((x + y) / 18446744073709551616)])) w := by
  simpa using add64 x y 0 hx hy (Int.le_refl 0) (by decide) w

set_option maxRecDepth 100000 in
set_option maxHeartbeats 1000000 in
theorem fits_ok (rs ln req ex cold : Int) (w : World) (h0 : 0 ≤ rs) (h1 : rs ≤ 9223372036854775807) (h2 : 0 ≤ ln) (h3 : ln ≤ 9223372036854775807) (h4 : 0 ≤ req) (h5 : req ≤ 9223372036854775807) (h6 : 0 ≤ ex) (h7 : ex ≤ 9223372036854775807) (h8 : 0 ≤ cold) (h9 : cold ≤ 9223372036854775807) (hF : Fits rs ln req ex cold) :
    Calls Yba.prog 12 #[.int .u64 rs, .int .u64 ln, .int .u64 req, .int .u64 ex, .int .u64 cold] w fun e w' => e = .returned (.tuple #[.int .i64 (rs * 1000000), .int .i64 (ln * (rs * 1000000)), .bool true]) ∧ w' = w := by
  obtain ⟨f1, f2, f3⟩ := hF
  have HP2 : 0 ≤ ln * (rs * 1000000) := Int.mul_nonneg h2 (by omega)
  have HP3 : 0 ≤ req * ex := Int.mul_nonneg h4 h6
  have m1 := mul64 rs 1000000 h0 (by omega) (by decide) (by decide)
  have m2 := mul64 ln (rs * 1000000) h2 (by omega) (by omega) (by omega)
  have m3 := mul64 req ex h4 (by omega) h6 (by omega)
  obtain ⟨p1, hp1⟩ : ∃ p1, p1 = rs * 1000000 := ⟨_, rfl⟩
  rw [← hp1] at f1 f2 f3 HP2 m1 m2 ⊢
  obtain ⟨p2, hp2⟩ : ∃ p2, p2 = ln * p1 := ⟨_, rfl⟩
  obtain ⟨p3, hp3⟩ : ∃ p3, p3 = req * ex := ⟨_, rfl⟩
  rw [← hp2, ← hp3] at f3
  rw [← hp2] at HP2 f2 m2 ⊢
  rw [← hp3] at HP3 m3
  have HP1 : 0 ≤ p1 := by omega
  rw [show p1 / 18446744073709551616 = 0 by omega, show p1 % 18446744073709551616 = p1 by omega] at m1
  rw [show p2 / 18446744073709551616 = 0 by omega, show p2 % 18446744073709551616 = p2 by omega] at m2
  rw [show p3 / 18446744073709551616 = 0 by omega, show p3 % 18446744073709551616 = p3 by omega] at m3
  have a1 := add64_0 p2 p3 HP2 HP3
  have a2 := add64_0 (p2 + p3) cold (by omega) h8
  rw [show (p2 + p3) / 18446744073709551616 = 0 by omega, show (p2 + p3) % 18446744073709551616 = p2 + p3 by omega] at a1
  rw [show (p2 + p3 + cold) / 18446744073709551616 = 0 by omega, show (p2 + p3 + cold) % 18446744073709551616 = p2 + p3 + cold by omega] at a2
  clear hp1 hp2 hp3
  go_enter Yba.func12, Yba.ntmps12
  go_wp2_with fail
  refine (m1 _).mono ?_
  rintro e w1 ⟨rfl, hw1⟩
  subst hw1
  go_wp2_with fail
  refine (m2 _).mono ?_
  rintro e w2 ⟨rfl, hw2⟩
  subst hw2
  go_wp2_with fail
  refine (m3 _).mono ?_
  rintro e w3 ⟨rfl, hw3⟩
  subst hw3
  go_wp2_with (first | simp only [a1] | simp only [a2])
  refine bodyPost_ret (v := .tuple #[.int .i64 p1, .int .i64 p2, .bool true]) (by simp [results, Yba.results12, go_sem]) rfl ⟨rfl, rfl⟩

set_option maxRecDepth 100000 in
set_option maxHeartbeats 1000000 in
theorem fits_no1 (rs ln req ex cold : Int) (w : World) (h0 : 0 ≤ rs) (h1 : rs ≤ 9223372036854775807) (hF : ¬ rs * 1000000 ≤ 9223372036854775807) :
    Calls Yba.prog 12 #[.int .u64 rs, .int .u64 ln, .int .u64 req, .int .u64 ex, .int .u64 cold] w fun e w' => e = .returned (.tuple #[.int .i64 0, .int .i64 0, .bool false]) ∧ w' = w := by
  have m1 := mul64 rs 1000000 h0 (by omega) (by decide) (by decide)
  obtain ⟨hi, hhi⟩ : ∃ hi, hi = rs * 1000000 / 18446744073709551616 := ⟨_, rfl⟩
  obtain ⟨lo, hlo⟩ : ∃ lo, lo = rs * 1000000 % 18446744073709551616 := ⟨_, rfl⟩
  rw [← hhi, ← hlo] at m1
  by_cases hz : hi = 0
  · have hl : 9223372036854775807 < lo := by omega
    rw [hz] at m1
    clear hhi hlo hF
    go_enter Yba.func12, Yba.ntmps12
    go_wp2_with (go_at_call 15; refine (m1 _).mono ?_; rintro e w' ⟨rfl, rfl⟩)
    refine bodyPost_ret (v := .tuple #[.int .i64 0, .int .i64 0, .bool false]) (by simp [results, Yba.results12, go_sem]) rfl ⟨rfl, rfl⟩
  · have hz' : (hi == 0) = false := by simp; omega
    clear hhi hlo hF
    go_enter Yba.func12, Yba.ntmps12
    go_wp2_with (go_at_call 15; refine (m1 _).mono ?_; rintro e w' ⟨rfl, rfl⟩)
    refine bodyPost_ret (v := .tuple #[.int .i64 0, .int .i64 0, .bool false]) (by simp [results, Yba.results12, go_sem]) rfl ⟨rfl, rfl⟩

set_option maxRecDepth 100000 in
set_option maxHeartbeats 1000000 in
theorem fits_no2 (rs ln req ex cold : Int) (w : World) (h0 : 0 ≤ rs) (h1 : rs ≤ 9223372036854775807) (h2 : 0 ≤ ln) (h3 : ln ≤ 9223372036854775807) (f1 : rs * 1000000 ≤ 9223372036854775807) (hF : ¬ ln * (rs * 1000000) ≤ 9223372036854775807) :
    Calls Yba.prog 12 #[.int .u64 rs, .int .u64 ln, .int .u64 req, .int .u64 ex, .int .u64 cold] w fun e w' => e = .returned (.tuple #[.int .i64 0, .int .i64 0, .bool false]) ∧ w' = w := by
  have m1 := mul64 rs 1000000 h0 (by omega) (by decide) (by decide)
  have m2 := mul64 ln (rs * 1000000) h2 (by omega) (by omega) (by omega)
  obtain ⟨p1, hp1⟩ : ∃ p1, p1 = rs * 1000000 := ⟨_, rfl⟩
  rw [← hp1] at f1 hF m1 m2
  obtain ⟨p2, hp2⟩ : ∃ p2, p2 = ln * p1 := ⟨_, rfl⟩
  rw [← hp2] at hF m2
  have HP1 : 0 ≤ p1 := by omega
  rw [show p1 / 18446744073709551616 = 0 by omega, show p1 % 18446744073709551616 = p1 by omega] at m1
  obtain ⟨hi, hhi⟩ : ∃ hi, hi = p2 / 18446744073709551616 := ⟨_, rfl⟩
  obtain ⟨lo, hlo⟩ : ∃ lo, lo = p2 % 18446744073709551616 := ⟨_, rfl⟩
  rw [← hhi, ← hlo] at m2
  by_cases hz : hi = 0
  · have hl : 9223372036854775807 < lo := by omega
    rw [hz] at m2
    clear hhi hlo hF hp1 hp2
    go_enter Yba.func12, Yba.ntmps12
    go_wp2_with fail
    refine (m1 _).mono ?_
    rintro e w1 ⟨rfl, hw1⟩
    subst hw1
    go_wp2_with fail
    refine (m2 _).mono ?_
    rintro e w2 ⟨rfl, hw2⟩
    subst hw2
    go_wp2
    refine bodyPost_ret (v := .tuple #[.int .i64 0, .int .i64 0, .bool false]) (by simp [results, Yba.results12, go_sem]) rfl ⟨rfl, rfl⟩
  · have hz' : (hi == 0) = false := by simp; omega
    clear hhi hlo hF hp1 hp2
    go_enter Yba.func12, Yba.ntmps12
    go_wp2_with fail
    refine (m1 _).mono ?_
    rintro e w1 ⟨rfl, hw1⟩
    subst hw1
    go_wp2_with fail
    refine (m2 _).mono ?_
    rintro e w2 ⟨rfl, hw2⟩
    subst hw2
    go_wp2
    refine bodyPost_ret (v := .tuple #[.int .i64 0, .int .i64 0, .bool false]) (by simp [results, Yba.results12, go_sem]) rfl ⟨rfl, rfl⟩

set_option maxRecDepth 100000 in
set_option maxHeartbeats 1000000 in
theorem fits_no3 (rs ln req ex cold : Int) (w : World) (h0 : 0 ≤ rs) (h1 : rs ≤ 9223372036854775807) (h2 : 0 ≤ ln) (h3 : ln ≤ 9223372036854775807) (h4 : 0 ≤ req) (h5 : req ≤ 9223372036854775807) (h6 : 0 ≤ ex) (h7 : ex ≤ 9223372036854775807) (h8 : 0 ≤ cold) (h9 : cold ≤ 9223372036854775807)
    (f1 : rs * 1000000 ≤ 9223372036854775807) (f2 : ln * (rs * 1000000) ≤ 9223372036854775807) (hF : ¬ ln * (rs * 1000000) + req * ex + cold ≤ 9223372036854775807) :
    Calls Yba.prog 12 #[.int .u64 rs, .int .u64 ln, .int .u64 req, .int .u64 ex, .int .u64 cold] w fun e w' => e = .returned (.tuple #[.int .i64 0, .int .i64 0, .bool false]) ∧ w' = w := by
  have HP2 : 0 ≤ ln * (rs * 1000000) := Int.mul_nonneg h2 (by omega)
  have HP3 : 0 ≤ req * ex := Int.mul_nonneg h4 h6
  have HB3 : req * ex ≤ 9223372036854775807 * 9223372036854775807 := Int.mul_le_mul h5 h7 h6 (by decide)
  have m1 := mul64 rs 1000000 h0 (by omega) (by decide) (by decide)
  have m2 := mul64 ln (rs * 1000000) h2 (by omega) (by omega) (by omega)
  have m3 := mul64 req ex h4 (by omega) h6 (by omega)
  obtain ⟨p1, hp1⟩ : ∃ p1, p1 = rs * 1000000 := ⟨_, rfl⟩
  rw [← hp1] at f1 f2 hF HP2 m1 m2
  obtain ⟨p2, hp2⟩ : ∃ p2, p2 = ln * p1 := ⟨_, rfl⟩
  obtain ⟨p3, hp3⟩ : ∃ p3, p3 = req * ex := ⟨_, rfl⟩
  rw [← hp2, ← hp3] at hF
  rw [← hp2] at HP2 f2 m2
  rw [← hp3] at HP3 HB3 m3
  have HP1 : 0 ≤ p1 := by omega
  rw [show p1 / 18446744073709551616 = 0 by omega, show p1 % 18446744073709551616 = p1 by omega] at m1
  rw [show p2 / 18446744073709551616 = 0 by omega, show p2 % 18446744073709551616 = p2 by omega] at m2
  obtain ⟨wh, hwh⟩ : ∃ wh, wh = p3 / 18446744073709551616 := ⟨_, rfl⟩
  obtain ⟨wl, hwl⟩ : ∃ wl, wl = p3 % 18446744073709551616 := ⟨_, rfl⟩
  rw [← hwh, ← hwl] at m3
  have e3 : p3 = wh * 18446744073709551616 + wl := by omega
  have wl0 : 0 ≤ wl := by omega
  have wl1 : wl < 18446744073709551616 := by omega
  have wh0 : 0 ≤ wh := by omega
  have wh1 : wh < 4611686018427387904 := by omega
  have a1 := add64_0 p2 wl HP2 wl0
  obtain ⟨lo, hlo⟩ : ∃ lo, lo = (p2 + wl) % 18446744073709551616 := ⟨_, rfl⟩
  obtain ⟨c, hc⟩ : ∃ c, c = (p2 + wl) / 18446744073709551616 := ⟨_, rfl⟩
  rw [← hlo, ← hc] at a1
  have lo0 : 0 ≤ lo := by omega
  have e4 : p2 + wl = c * 18446744073709551616 + lo := by omega
  have lo1 : lo < 18446744073709551616 := by omega
  have c0 : 0 ≤ c := by omega
  have c1 : c ≤ 1 := by omega
  have a2 := add64_0 lo cold lo0 h8
  obtain ⟨lo2, hlo2⟩ : ∃ lo2, lo2 = (lo + cold) % 18446744073709551616 := ⟨_, rfl⟩
  obtain ⟨c2, hc2⟩ : ∃ c2, c2 = (lo + cold) / 18446744073709551616 := ⟨_, rfl⟩
  rw [← hlo2, ← hc2] at a2
  have e5 : lo + cold = c2 * 18446744073709551616 + lo2 := by omega
  have d0 : 0 ≤ c2 := by omega
  have d1 : c2 ≤ 1 := by omega
  have l20 : 0 ≤ lo2 := by omega
  clear hwh hwl hlo hc hlo2 hc2 hp1 hp2 hp3
  by_cases hz : wh + c + c2 = 0
  · obtain rfl : wh = 0 := by omega
    obtain rfl : c = 0 := by omega
    obtain rfl : c2 = 0 := by omega
    have hl : 9223372036854775807 < lo2 := by omega
    clear hz e3 e4 e5 hF HB3 HP3
    go_enter Yba.func12, Yba.ntmps12
    go_wp2_with fail
    refine (m1 _).mono ?_
    rintro e w1 ⟨rfl, hw1⟩
    subst hw1
    go_wp2_with fail
    refine (m2 _).mono ?_
    rintro e w2 ⟨rfl, hw2⟩
    subst hw2
    go_wp2_with fail
    refine (m3 _).mono ?_
    rintro e w3 ⟨rfl, hw3⟩
    subst hw3
    go_wp2_with (first | simp only [a1] | simp only [a2])
    refine bodyPost_ret (v := .tuple #[.int .i64 0, .int .i64 0, .bool false]) (by simp [results, Yba.results12, go_sem]) rfl ⟨rfl, rfl⟩
  · have hz' : (wh + c + c2 == 0) = false := by simp; omega
    clear e3 e4 e5 hF HB3 HP3
    go_enter Yba.func12, Yba.ntmps12
    go_wp2_with fail
    refine (m1 _).mono ?_
    rintro e w1 ⟨rfl, hw1⟩
    subst hw1
    go_wp2_with fail
    refine (m2 _).mono ?_
    rintro e w2 ⟨rfl, hw2⟩
    subst hw2
    go_wp2_with fail
    refine (m3 _).mono ?_
    rintro e w3 ⟨rfl, hw3⟩
    subst hw3
    go_wp2_with (first | simp only [a1] | simp only [a2])
    refine bodyPost_ret (v := .tuple #[.int .i64 0, .int .i64 0, .bool false]) (by simp [results, Yba.results12, go_sem]) rfl ⟨rfl, rfl⟩

theorem fits_no (rs ln req ex cold : Int) (w : World) (h0 : 0 ≤ rs) (h1 : rs ≤ 9223372036854775807) (h2 : 0 ≤ ln) (h3 : ln ≤ 9223372036854775807) (h4 : 0 ≤ req) (h5 : req ≤ 9223372036854775807) (h6 : 0 ≤ ex) (h7 : ex ≤ 9223372036854775807) (h8 : 0 ≤ cold) (h9 : cold ≤ 9223372036854775807) (hF : ¬ Fits rs ln req ex cold) :
    Calls Yba.prog 12 #[.int .u64 rs, .int .u64 ln, .int .u64 req, .int .u64 ex, .int .u64 cold] w fun e w' => e = .returned (.tuple #[.int .i64 0, .int .i64 0, .bool false]) ∧ w' = w := by
  by_cases f1 : rs * 1000000 ≤ 9223372036854775807
  · by_cases f2 : ln * (rs * 1000000) ≤ 9223372036854775807
    · exact fits_no3 rs ln req ex cold w h0 h1 h2 h3 h4 h5 h6 h7 h8 h9 f1 f2 fun f3 => hF ⟨f1, f2, f3⟩
    · exact fits_no2 rs ln req ex cold w h0 h1 h2 h3 f1 f2
  · exact fits_no1 rs ln req ex cold w h0 h1 f1
theorem spanOf_no (b : Nat) (rs ln req ex cold : Int) (w : World) (hb : b < w.heap.size) (c4 : w.cell? ⟨b, 4, none⟩ = some (.int .i64 ln)) (c6 : w.cell? ⟨b, 6, none⟩ = some (.int .i64 req))
    (h0 : 1 ≤ rs) (h1 : rs ≤ 9223372036854775807) (h2 : 0 ≤ ln) (h3 : ln ≤ 9223372036854775807) (h4 : 0 ≤ req) (h5 : req ≤ 9223372036854775807) (h6 : 0 ≤ ex) (h7 : ex ≤ 9223372036854775807) (h8 : 0 ≤ cold) (h9 : cold ≤ 9223372036854775807) (hF : ¬ Fits rs ln req ex cold) :
    Calls Yba.prog 11 #[.pointer (some ⟨b, 0, none⟩), .agg #[.int .i64 rs, .int .i64 0, .nilIface, .int .i64 0, .int .i64 cold, .int .i64 ex, .int .i64 0]] w fun e w' =>
      e = .returned (.tuple #[.int .i64 0, .int .i64 0, .iface 69 (.pointer (some ⟨w.heap.size + 1, 0, none⟩))]) ∧ Grown w w' := by
  by_cases f1 : rs * 1000000 ≤ 9223372036854775807
  · by_cases f2 : ln * (rs * 1000000) ≤ 9223372036854775807
    · exact spanOf_no3 b rs ln req ex cold w hb c4 c6 h0 h1 h2 h3 h4 h5 h6 h7 h8 h9 f1 f2 fun f3 => hF ⟨f1, f2, f3⟩
    · exact spanOf_no2 b rs ln req ex cold w hb c4 c6 h0 h1 h2 h3 h4 h5 h6 h7 h8 h9 f1 f2
  · exact spanOf_no1 b rs ln req ex cold w hb c4 c6 h0 h1 h2 h3 h4 h5 h6 h7 h8 h9 f1
end Go.Proofs.Ybulkabno
