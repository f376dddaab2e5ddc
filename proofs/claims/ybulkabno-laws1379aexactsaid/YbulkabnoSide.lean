/-
  One step of the tally, small numbers, one denominator: whole * per + rest grows by the product.
-/
import Derived.Test.YbulkabnoStep
namespace Go.Proofs.Ybulkabno
open Go.RowKit Go.Shelf Go.Maps Go.WideMaps
set_option linter.unusedVariables false
set_option linter.unusedSimpArgs false

/-- One side of the tally: no map yet and nothing left, or a map of one key. -/
def Side (w : World) (per : Int) (base k : Nat) (m : Value) (r : Int) : Prop :=
  (m = .map none ∧ r = 0) ∨ (2 ≤ per ∧ ∃ B t, m = .map (some B) ∧ One w B t per r ∧ t ≤ k ∧ base ≤ B)

theorem Fr.mono {w w' : World} {S T : Nat → Prop} (h : Fr w w' S) (hS : ∀ k, S k → T k) : Fr w w' T :=
  ⟨h.os, h.tape, h.output, h.size, fun k hk hn => h.block k hk fun hs => hn (hS k hs)⟩
theorem newLo_small (lo q c : Int) (h0 : 0 ≤ lo + q + c) (h1 : lo + q + c < 18446744073709551616) : newLo lo q c = lo + q + c := by unfold newLo; omega
theorem newHi_small (lo q c : Int) (h0 : 0 ≤ lo + q + c) (h1 : lo + q + c < 18446744073709551616) : newHi 0 lo 0 q c = 0 := by
  unfold newHi
  rw [IntKind.wrap_u64, IntKind.wrap_u64]
  omega
theorem left_whole (d s : Int) (h0 : 0 ≤ s) (h1 : s < 2 * d) : whole d s * d + left d s = s ∧ (0 ≤ left d s ∧ left d s < d) ∧ 0 ≤ whole d s ∧ whole d s ≤ 1 := by
  unfold whole left
  split <;> omega
theorem prod_small (n x : Int) (n0 : 0 ≤ n) (n1 : n < 1048576) (x0 : 0 ≤ x) (x1 : x < 2097152) : 0 ≤ n * x ∧ n * x < 2199023255552 := by
  refine ⟨Int.mul_nonneg n0 x0, ?_⟩
  have := Int.mul_le_mul (show n ≤ 1048575 by omega) (show x ≤ 2097151 by omega) x0 (by decide)
  omega
theorem wrapn (n : Int) (n0 : 0 ≤ n) (n1 : n < 1048576) : IntKind.u64.wrap n = n := by rw [IntKind.wrap_u64]; omega
theorem wrap64_small (x : Int) (h0 : 0 ≤ x) (h1 : x < 9223372036854775808) : wrap64 x = x := by unfold wrap64; omega
theorem sums_new (lo q d P : Int) (h : q * d + P % d = P) : (lo + q + 0) * d + P % d = lo * d + 0 + P := by
  rw [Int.add_zero, Int.add_mul]; omega
theorem sums_old (lo q wh d P r l : Int) (h : q * d + P % d = P) (h2 : wh * d + l = P % d + r) : (lo + q + wh) * d + l = lo * d + r + P := by
  rw [Int.add_mul, Int.add_mul]; omega

theorem side_under (b base k : Nat) (lo us n required ready per r : Int) (oh ol os : Int) (um om : Value) (w : World) (hT : Tal w b 0 lo um oh ol om us os) (hS : Side w per base k um r) (hk : k < 1000000) (hbase : base ≤ w.heap.size)
    (hper : per = max required 1) (k0 : -1048576 ≤ required) (k1 : required < 1048576) (k2 : -1048576 ≤ ready) (k3 : ready < 1048576) (hlt : ready < required) (n0 : 0 ≤ n) (n1 : n < 1048576)
    (r0 : 0 ≤ r) (r1 : r < per) (l0 : 0 ≤ lo) (l1 : lo < 4611686018427387904) (u0 : 0 ≤ us) (u1 : us < 4611686018427387904) :
    Calls Yba.prog 8 #[.pointer (some ⟨b, 0, none⟩), .int .i64 n, .int .i64 required, .int .i64 ready] w fun e w' =>
      e = .returned (.tuple #[]) ∧ ∃ lo' um' r', Tal w' b 0 lo' um' oh ol om (us + n) os ∧ Side w' per base (k + 1) um' r' ∧ (0 ≤ r' ∧ r' < per) ∧ (0 ≤ lo' ∧ lo' ≤ lo + 4398046511104) ∧
        lo' * per + r' = lo * per + r + n * (required - ready) ∧ (um' = um ∨ um' = .map (some w.heap.size)) ∧ Fr w w' (fun k => k = b ∨ um = .map (some k)) := by
  obtain ⟨P0, P1⟩ := prod_small n (required - ready) n0 n1 (by omega) (by omega)
  have hwn := wrapn n n0 n1
  have hws := wrap64_small (us + n) (by omega) (by omega)
  by_cases hp : 2 ≤ required
  · have hper' : per = required := by omega
    subst hper'
    have HD := div64_zero (n * (per - ready)) per P0 (by omega) (by omega) (by omega)
    obtain ⟨P, hP⟩ : ∃ P, n * (per - ready) = P := ⟨_, rfl⟩
    rw [hP] at HD P0 P1 ⊢
    have z1 : P / 18446744073709551616 = 0 := by omega
    have z2 : P % 18446744073709551616 = P := by omega
    have z3 : (0 : Int) % per = 0 := by simp
    have z4 : (0 : Int) / per = 0 := by simp
    have q0 := Int.ediv_nonneg P0 (show 0 ≤ per by omega)
    have q1 := Int.ediv_le_self per P0
    have m0 := Int.emod_nonneg P (show per ≠ 0 by omega)
    have m1 := Int.emod_lt_of_pos P (show 0 < per by omega)
    have hq : P / per * per + P % per = P := Int.ediv_mul_add_emod P per
    rcases hS with ⟨rfl, rfl⟩ | ⟨_, B, t, rfl, hO, ht, hB⟩
    · refine (step_under_new b 0 lo us n per ready (P / per) (P % per) oh ol os om w hT (by omega) (by omega) (by omega) (by omega) hlt l0 (by omega) hp q0 (by omega) m0 m1 (by rw [hwn, hP, z1, z2, z3]; exact HD)).mono ?_
      rintro e w' ⟨rfl, h1, h2, h3⟩
      rw [hwn, hP, z1, z4, newHi_small _ _ _ (by omega) (by omega), newLo_small _ _ _ (by omega) (by omega), hws] at h1
      exact ⟨rfl, _, _, _, h1, .inr ⟨hp, _, _, rfl, h2, by omega, hbase⟩, ⟨m0, m1⟩, ⟨by omega, by omega⟩, sums_new _ _ _ _ hq, .inr rfl, h3.mono fun k hk => .inl hk⟩
    · refine (step_under_old b B t 0 lo us n per ready (P / per) (P % per) r oh ol os om w hT hO (by omega) r0 r1 (by omega) (by omega) (by omega) (by omega) hlt l0 (by omega) hp q0 (by omega) m0 m1 (by rw [hwn, hP, z1, z2, z3]; exact HD)).mono ?_
      rintro e w' ⟨rfl, h1, h2, h3⟩
      obtain ⟨s1, s2, s3, s4⟩ := left_whole per (P % per + r) (by omega) (by omega)
      rw [hwn, hP, z1, z4, newHi_small _ _ _ (by omega) (by omega), newLo_small _ _ _ (by omega) (by omega), hws] at h1
      refine ⟨rfl, _, _, _, h1, .inr ⟨hp, _, _, rfl, h2, by omega, hB⟩, s2, ⟨by omega, by omega⟩, sums_old _ _ _ _ _ _ _ hq s1, .inl rfl, h3.mono fun k hk => ?_⟩
      rcases hk with h | h
      · exact .inl h
      · exact .inr (by rw [h])
  · have hper' : per = 1 := by omega
    subst hper'
    have hr : r = 0 := by omega
    subst hr
    obtain ⟨P, hP⟩ : ∃ P, n * (required - ready) = P := ⟨_, rfl⟩
    rw [hP] at P0 P1 ⊢
    have z1 : P / 18446744073709551616 = 0 := by omega
    have z2 : P % 18446744073709551616 = P := by omega
    have hum : um = .map none := by
      rcases hS with ⟨h, _⟩ | ⟨h, _⟩
      · exact h
      · omega
    refine (step_under_one b 0 lo us n required ready oh ol os om um w hT (by omega) (by omega) (by omega) (by omega) hlt l0 (by omega) (by omega)).mono ?_
    rintro e w' ⟨rfl, h1, h3⟩
    rw [hwn, hP, z1, z2, newHi_small _ _ _ (by omega) (by omega), newLo_small _ _ _ (by omega) (by omega), hws] at h1
    exact ⟨rfl, _, _, 0, h1, .inl ⟨hum, rfl⟩, ⟨by omega, by omega⟩, ⟨by omega, by omega⟩, by omega, .inl rfl, h3.mono fun k hk => .inl hk⟩

theorem side_over (b base k : Nat) (lo us n required ready per r : Int) (oh ol os : Int) (um om : Value) (w : World) (hT : Tal w b oh ol om 0 lo um os us) (hS : Side w per base k um r) (hk : k < 1000000) (hbase : base ≤ w.heap.size)
    (hper : per = max required 1) (k0 : -1048576 ≤ required) (k1 : required < 1048576) (k2 : -1048576 ≤ ready) (k3 : ready < 1048576) (hlt : required < ready) (n0 : 0 ≤ n) (n1 : n < 1048576)
    (r0 : 0 ≤ r) (r1 : r < per) (l0 : 0 ≤ lo) (l1 : lo < 4611686018427387904) (u0 : 0 ≤ us) (u1 : us < 4611686018427387904) :
    Calls Yba.prog 8 #[.pointer (some ⟨b, 0, none⟩), .int .i64 n, .int .i64 required, .int .i64 ready] w fun e w' =>
      e = .returned (.tuple #[]) ∧ ∃ lo' um' r', Tal w' b oh ol om 0 lo' um' os (us + n) ∧ Side w' per base (k + 1) um' r' ∧ (0 ≤ r' ∧ r' < per) ∧ (0 ≤ lo' ∧ lo' ≤ lo + 4398046511104) ∧
        lo' * per + r' = lo * per + r + n * (ready - required) ∧ (um' = um ∨ um' = .map (some w.heap.size)) ∧ Fr w w' (fun k => k = b ∨ um = .map (some k)) := by
  obtain ⟨P0, P1⟩ := prod_small n (ready - required) n0 n1 (by omega) (by omega)
  have hwn := wrapn n n0 n1
  have hws := wrap64_small (us + n) (by omega) (by omega)
  by_cases hp : 2 ≤ required
  · have hper' : per = required := by omega
    subst hper'
    have HD := div64_zero (n * (ready - per)) per P0 (by omega) (by omega) (by omega)
    obtain ⟨P, hP⟩ : ∃ P, n * (ready - per) = P := ⟨_, rfl⟩
    rw [hP] at HD P0 P1 ⊢
    have z1 : P / 18446744073709551616 = 0 := by omega
    have z2 : P % 18446744073709551616 = P := by omega
    have z3 : (0 : Int) % per = 0 := by simp
    have z4 : (0 : Int) / per = 0 := by simp
    have q0 := Int.ediv_nonneg P0 (show 0 ≤ per by omega)
    have q1 := Int.ediv_le_self per P0
    have m0 := Int.emod_nonneg P (show per ≠ 0 by omega)
    have m1 := Int.emod_lt_of_pos P (show 0 < per by omega)
    have hq : P / per * per + P % per = P := Int.ediv_mul_add_emod P per
    rcases hS with ⟨rfl, rfl⟩ | ⟨_, B, t, rfl, hO, ht, hB⟩
    · refine (step_over_new b 0 lo us n per ready (P / per) (P % per) oh ol os om w hT (by omega) (by omega) (by omega) (by omega) hlt l0 (by omega) hp q0 (by omega) m0 m1 (by rw [hwn, hP, z1, z2, z3]; exact HD)).mono ?_
      rintro e w' ⟨rfl, h1, h2, h3⟩
      rw [hwn, hP, z1, z4, newHi_small _ _ _ (by omega) (by omega), newLo_small _ _ _ (by omega) (by omega), hws] at h1
      exact ⟨rfl, _, _, _, h1, .inr ⟨hp, _, _, rfl, h2, by omega, hbase⟩, ⟨m0, m1⟩, ⟨by omega, by omega⟩, sums_new _ _ _ _ hq, .inr rfl, h3.mono fun k hk => .inl hk⟩
    · refine (step_over_old b B t 0 lo us n per ready (P / per) (P % per) r oh ol os om w hT hO (by omega) r0 r1 (by omega) (by omega) (by omega) (by omega) hlt l0 (by omega) hp q0 (by omega) m0 m1 (by rw [hwn, hP, z1, z2, z3]; exact HD)).mono ?_
      rintro e w' ⟨rfl, h1, h2, h3⟩
      obtain ⟨s1, s2, s3, s4⟩ := left_whole per (P % per + r) (by omega) (by omega)
      rw [hwn, hP, z1, z4, newHi_small _ _ _ (by omega) (by omega), newLo_small _ _ _ (by omega) (by omega), hws] at h1
      refine ⟨rfl, _, _, _, h1, .inr ⟨hp, _, _, rfl, h2, by omega, hB⟩, s2, ⟨by omega, by omega⟩, sums_old _ _ _ _ _ _ _ hq s1, .inl rfl, h3.mono fun k hk => ?_⟩
      rcases hk with h | h
      · exact .inl h
      · exact .inr (by rw [h])
  · have hper' : per = 1 := by omega
    subst hper'
    have hr : r = 0 := by omega
    subst hr
    obtain ⟨P, hP⟩ : ∃ P, n * (ready - required) = P := ⟨_, rfl⟩
    rw [hP] at P0 P1 ⊢
    have z1 : P / 18446744073709551616 = 0 := by omega
    have z2 : P % 18446744073709551616 = P := by omega
    have hum : um = .map none := by
      rcases hS with ⟨h, _⟩ | ⟨h, _⟩
      · exact h
      · omega
    refine (step_over_one b 0 lo us n required ready oh ol os om um w hT (by omega) (by omega) (by omega) (by omega) hlt l0 (by omega) (by omega)).mono ?_
    rintro e w' ⟨rfl, h1, h3⟩
    rw [hwn, hP, z1, z2, newHi_small _ _ _ (by omega) (by omega), newLo_small _ _ _ (by omega) (by omega), hws] at h1
    exact ⟨rfl, _, _, 0, h1, .inl ⟨hum, rfl⟩, ⟨by omega, by omega⟩, ⟨by omega, by omega⟩, by omega, .inl rfl, h3.mono fun k hk => .inl hk⟩
end Go.Proofs.Ybulkabno
