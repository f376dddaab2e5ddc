/-
  The fraction sum: add.
-/
import Derived.Test.YbulkabnoDivide
import Derived.Deep.AppendLies
namespace Go.Proofs.Ybulkabno
open Go.RowKit Go.Shelf Go.Maps Go.WideMaps
set_option linter.unusedVariables false
set_option linter.unusedSimpArgs false

theorem cell_other {w : World} {b i j : Nat} {v : Value} (h : i ≠ j) : (w.setCell ⟨b, i, none⟩ v).cell? ⟨b, j, none⟩ = w.cell? ⟨b, j, none⟩ := by
  apply World.cell?_setCell_other
  simp [h]

/-- The two words behind an add of (ph, pl) and a carry. -/
def newLo (lo pl c : Int) : Int := (lo + pl + c) % 18446744073709551616
def newHi (hi lo ph pl c : Int) : Int := IntKind.u64.wrap (hi + IntKind.u64.wrap (ph + (lo + pl + c) / 18446744073709551616))

set_option maxRecDepth 100000 in
set_option maxHeartbeats 1000000 in
theorem frac_new (b o : Nat) (hi lo n x d q r : Int) (w : World) (hb : b < w.heap.size) (c0 : w.cell? ⟨b, o, none⟩ = some (.int .u64 hi)) (c1 : w.cell? ⟨b, o + 1, none⟩ = some (.int .u64 lo)) (c2 : w.cell? ⟨b, o + 2, none⟩ = some (.map none))
    (f : ∀ j, w.frozen? ⟨b, j, none⟩ = false)
    (l0 : 0 ≤ lo) (l1 : lo < 18446744073709551616) (n0 : 0 ≤ n) (n1 : n < 18446744073709551616) (x0 : 0 ≤ x) (x1 : x < 18446744073709551616) (hd : 2 ≤ d) (hd' : d < 18446744073709551616) (q0 : 0 ≤ q) (q1 : q < 18446744073709551616) (r0 : 0 ≤ r) (r1 : r < d)
    (HD : ∀ W, Calls Yba.prog 18 #[.int .u64 (n * x / 18446744073709551616 % d), .int .u64 (n * x % 18446744073709551616), .int .u64 d] W fun e w' => e = .returned (.tuple #[.int .u64 q, .int .u64 r]) ∧ ∃ n, w' = W.drewN n) :
    Calls Yba.prog 13 #[.pointer (some ⟨b, o, none⟩), .int .u64 n, .int .u64 x, .int .u64 d] w fun e w' =>
      e = .returned (.tuple #[]) ∧ ∃ w1, One w1 w.heap.size 1 d r ∧ (w.setCell ⟨b, o + 2, none⟩ (.map (some w.heap.size))).grownBy w1 none ∧
        w' = (w1.setCell ⟨b, o + 1, none⟩ (.int .u64 (newLo lo q 0))).setCell ⟨b, o, none⟩ (.int .u64 (newHi hi lo (n * x / 18446744073709551616 / d) q 0)) := by
  have m1 := mul64 n x n0 n1 x0 x1
  have hP : 0 ≤ n * x := Int.mul_nonneg n0 x0
  have hPb : n * x ≤ 18446744073709551615 * 18446744073709551615 := Int.mul_le_mul (by omega) (by omega) x0 (by decide)
  have hdv := divide_new b o (n * x / 18446744073709551616) (n * x % 18446744073709551616) d q r w hb c2 (f _) (by omega) (by omega) (by omega) (by omega) hd hd' r0 r1 HD
  obtain ⟨ph, hph⟩ : ∃ ph, n * x / 18446744073709551616 = ph := ⟨_, rfl⟩
  obtain ⟨pl, hpl⟩ : ∃ pl, n * x % 18446744073709551616 = pl := ⟨_, rfl⟩
  rw [hph, hpl] at m1 hdv
  rw [hph]
  obtain ⟨z, hz⟩ : ∃ z, ph / d = z := ⟨_, rfl⟩
  rw [hz] at hdv ⊢
  clear HD hph hpl hP hPb
  have ad := add64 lo q 0 l0 q0 (by decide) (by decide)
  unfold newLo newHi
  obtain ⟨cy, hcy⟩ : ∃ cy, (lo + q + 0) / 18446744073709551616 = cy := ⟨_, rfl⟩
  obtain ⟨nl, hnl⟩ : ∃ nl, (lo + q + 0) % 18446744073709551616 = nl := ⟨_, rfl⟩
  rw [hcy, hnl] at ad ⊢
  have g1 : (1 : Int) < d := by omega
  go_enter Yba.func13, Yba.ntmps13
  go_wp2_with fail
  refine (m1 _).mono ?_
  rintro e w5 ⟨rfl, hw5⟩
  rw [hw5]
  clear hw5 w5
  go_wp2_with fail
  refine hdv.mono ?_
  rintro e w1 ⟨rfl, ho, hg⟩
  have e0 : w1.cell? ⟨b, o, none⟩ = some (.int .u64 hi) := by
    rw [hg.cell_far ⟨b, o, none⟩ (by simpa [World.setCell] using hb) (by simp), cell_other (by omega)]; exact c0
  have e1 : w1.cell? ⟨b, o + 1, none⟩ = some (.int .u64 lo) := by
    rw [hg.cell_far ⟨b, o + 1, none⟩ (by simpa [World.setCell] using hb) (by simp), cell_other (by omega)]; exact c1
  have ef : ∀ j, w1.frozen? ⟨b, j, none⟩ = false := fun j => by
    rw [hg.frozen_far ⟨b, j, none⟩ (by simpa [World.setCell] using hb) (by simp), World.frozen?_setCell]; exact f j
  have ef0 := ef o
  have ef1 := ef (o + 1)
  have HH : Hid (One w1 w.heap.size 1 d r ∧ (w.setCell ⟨b, o + 2, none⟩ (.map (some w.heap.size))).grownBy w1 none) := ⟨ho, hg⟩
  clear ho hg c0 c1 c2 f hdv m1 ef
  go_wp2_with (simp only [ad])
  first | (go_ret; exact ⟨rfl, w1, HH.out.1, HH.out.2, rfl⟩) | (simp [bodyPost, results, Yba.results13, go_sem]; exact ⟨w1, HH.out.1, HH.out.2, rfl⟩)

set_option maxRecDepth 100000 in
set_option maxHeartbeats 1000000 in
theorem frac_old (b o B t : Nat) (hi lo n x d q r s : Int) (w : World) (hb : b < w.heap.size) (c0 : w.cell? ⟨b, o, none⟩ = some (.int .u64 hi)) (c1 : w.cell? ⟨b, o + 1, none⟩ = some (.int .u64 lo)) (c2 : w.cell? ⟨b, o + 2, none⟩ = some (.map (some B))) (hOne : One w B t d s) (ht : t < 1000000) (hne : B ≠ b) (s0 : 0 ≤ s) (s1 : s < d)
    (f : ∀ j, w.frozen? ⟨b, j, none⟩ = false)
    (l0 : 0 ≤ lo) (l1 : lo < 18446744073709551616) (n0 : 0 ≤ n) (n1 : n < 18446744073709551616) (x0 : 0 ≤ x) (x1 : x < 18446744073709551616) (hd : 2 ≤ d) (hd' : d < 9223372036854775808) (q0 : 0 ≤ q) (q1 : q < 18446744073709551616) (r0 : 0 ≤ r) (r1 : r < d)
    (HD : ∀ W, Calls Yba.prog 18 #[.int .u64 (n * x / 18446744073709551616 % d), .int .u64 (n * x % 18446744073709551616), .int .u64 d] W fun e w' => e = .returned (.tuple #[.int .u64 q, .int .u64 r]) ∧ ∃ n, w' = W.drewN n) :
    Calls Yba.prog 13 #[.pointer (some ⟨b, o, none⟩), .int .u64 n, .int .u64 x, .int .u64 d] w fun e w' =>
      e = .returned (.tuple #[]) ∧ ∃ w1, One w1 B (t + 1) d (left d (r + s)) ∧ w.grownBy w1 (some B) ∧
        w' = (w1.setCell ⟨b, o + 1, none⟩ (.int .u64 (newLo lo q (whole d (r + s))))).setCell ⟨b, o, none⟩ (.int .u64 (newHi hi lo (n * x / 18446744073709551616 / d) q (whole d (r + s)))) := by
  have m1 := mul64 n x n0 n1 x0 x1
  have hP : 0 ≤ n * x := Int.mul_nonneg n0 x0
  have hPb : n * x ≤ 18446744073709551615 * 18446744073709551615 := Int.mul_le_mul (by omega) (by omega) x0 (by decide)
  have hdv := divide_old b o B t (n * x / 18446744073709551616) (n * x % 18446744073709551616) d q r s w hb c2 hOne ht (by omega) (by omega) (by omega) (by omega) hd hd' r0 r1 s0 s1 HD
  obtain ⟨ph, hph⟩ : ∃ ph, n * x / 18446744073709551616 = ph := ⟨_, rfl⟩
  obtain ⟨pl, hpl⟩ : ∃ pl, n * x % 18446744073709551616 = pl := ⟨_, rfl⟩
  rw [hph, hpl] at m1 hdv
  rw [hph]
  obtain ⟨z, hz⟩ : ∃ z, ph / d = z := ⟨_, rfl⟩
  rw [hz] at hdv ⊢
  clear HD hph hpl hP hPb
  obtain ⟨lf, hlf⟩ : ∃ lf, left d (r + s) = lf := ⟨_, rfl⟩
  obtain ⟨wo, hwo⟩ : ∃ wo, whole d (r + s) = wo := ⟨_, rfl⟩
  have wo0 : 0 ≤ wo ∧ wo ≤ 1 := by rw [← hwo]; unfold whole; split <;> decide
  rw [hlf, hwo] at hdv ⊢
  clear hlf hwo
  have ad := add64 lo q wo l0 q0 wo0.1 wo0.2
  unfold newLo newHi
  obtain ⟨cy, hcy⟩ : ∃ cy, (lo + q + wo) / 18446744073709551616 = cy := ⟨_, rfl⟩
  obtain ⟨nl, hnl⟩ : ∃ nl, (lo + q + wo) % 18446744073709551616 = nl := ⟨_, rfl⟩
  rw [hcy, hnl] at ad ⊢
  have g1 : (1 : Int) < d := by omega
  go_enter Yba.func13, Yba.ntmps13
  go_wp2_with fail
  refine (m1 _).mono ?_
  rintro e w5 ⟨rfl, hw5⟩
  rw [hw5]
  clear hw5 w5
  go_wp2_with fail
  refine hdv.mono ?_
  rintro e w1 ⟨rfl, ho, hg⟩
  have e0 : w1.cell? ⟨b, o, none⟩ = some (.int .u64 hi) := by
    rw [hg.cell_far ⟨b, o, none⟩ hb (fun e => hne (by simpa using e.symm))]; exact c0
  have e1 : w1.cell? ⟨b, o + 1, none⟩ = some (.int .u64 lo) := by
    rw [hg.cell_far ⟨b, o + 1, none⟩ hb (fun e => hne (by simpa using e.symm))]; exact c1
  have ef : ∀ j, w1.frozen? ⟨b, j, none⟩ = false := fun j => by
    rw [hg.frozen_far ⟨b, j, none⟩ hb (fun e => hne (by simpa using e.symm))]; exact f j
  have ef0 := ef o
  have ef1 := ef (o + 1)
  have HH : Hid (One w1 B (t + 1) d lf ∧ w.grownBy w1 (some B)) := ⟨ho, hg⟩
  clear ho hg c0 c1 c2 f hdv m1 ef hOne wo0
  go_wp2_with (simp only [ad])
  first | (go_ret; exact ⟨rfl, w1, HH.out.1, HH.out.2, rfl⟩) | (simp [bodyPost, results, Yba.results13, go_sem]; exact ⟨w1, HH.out.1, HH.out.2, rfl⟩)

set_option maxRecDepth 100000 in
set_option maxHeartbeats 1000000 in
theorem frac_one (b o : Nat) (hi lo n x : Int) (w : World) (hb : b < w.heap.size) (c0 : w.cell? ⟨b, o, none⟩ = some (.int .u64 hi)) (c1 : w.cell? ⟨b, o + 1, none⟩ = some (.int .u64 lo))
    (f : ∀ j, w.frozen? ⟨b, j, none⟩ = false)
    (l0 : 0 ≤ lo) (l1 : lo < 18446744073709551616) (n0 : 0 ≤ n) (n1 : n < 18446744073709551616) (x0 : 0 ≤ x) (x1 : x < 18446744073709551616) :
    Calls Yba.prog 13 #[.pointer (some ⟨b, o, none⟩), .int .u64 n, .int .u64 x, .int .u64 1] w fun e w' =>
      e = .returned (.tuple #[]) ∧ w' = (w.setCell ⟨b, o + 1, none⟩ (.int .u64 (newLo lo (n * x % 18446744073709551616) 0))).setCell ⟨b, o, none⟩ (.int .u64 (newHi hi lo (n * x / 18446744073709551616) (n * x % 18446744073709551616) 0)) := by
  have m1 := mul64 n x n0 n1 x0 x1
  obtain ⟨ph, hph⟩ : ∃ ph, n * x / 18446744073709551616 = ph := ⟨_, rfl⟩
  obtain ⟨pl, hpl⟩ : ∃ pl, n * x % 18446744073709551616 = pl := ⟨_, rfl⟩
  have hp0 : 0 ≤ pl := by omega
  rw [hph, hpl] at m1 ⊢
  clear hph hpl
  have ad := add64 lo pl 0 l0 hp0 (by decide) (by decide)
  unfold newLo newHi
  obtain ⟨cy, hcy⟩ : ∃ cy, (lo + pl + 0) / 18446744073709551616 = cy := ⟨_, rfl⟩
  obtain ⟨nl, hnl⟩ : ∃ nl, (lo + pl + 0) % 18446744073709551616 = nl := ⟨_, rfl⟩
  rw [hcy, hnl] at ad ⊢
  have ef0 := f o
  have ef1 := f (o + 1)
  clear f
  go_enter Yba.func13, Yba.ntmps13
  go_wp2_with fail
  refine (m1 _).mono ?_
  rintro e w5 ⟨rfl, hw5⟩
  rw [hw5]
  clear hw5 w5
  go_wp2_with (simp only [ad])
  first | (go_ret; exact ⟨rfl, rfl⟩) | simp [bodyPost, results, Yba.results13, go_sem]

end Go.Proofs.Ybulkabno
