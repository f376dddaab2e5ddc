/-
  One step of the tally, its block known whole.
-/
import Derived.Test.YbulkabnoTally
import Derived.OneCell
namespace Go.Proofs.Ybulkabno
open Go.RowKit Go.Shelf Go.Maps Go.WideMaps
set_option linter.unusedVariables false
set_option linter.unusedSimpArgs false

/-- The tally's block. -/
def Tal (w : World) (b : Nat) (uh ul : Int) (um : Value) (oh ol : Int) (om : Value) (us os : Int) : Prop :=
  w.heap[b]? = some (.cells #[.int .u64 uh, .int .u64 ul, um, .int .u64 oh, .int .u64 ol, om, .int .i64 us, .int .i64 os] 27 (0, 0))

theorem row_set {w : World} {b i : Nat} {cs : Array Value} {t : TypeId} {fr : Nat × Nat} {v : Value} (h : w.heap[b]? = some (.cells cs t fr)) :
    (w.setCell ⟨b, i, none⟩ v).heap[b]? = some (.cells (cs.setIfInBounds i v) t fr) := by
  have hlt := lt_of_block h
  have h' : w.heap[b] = .cells cs t fr := by simpa [Array.getElem?_eq_getElem hlt] using h
  show (w.heap.modify b _)[b]? = _
  rw [Array.getElem?_eq_getElem (by simpa using hlt), Array.getElem_modify_self, h']
  rfl

/-- All but what S names, and what is new, is as it was. -/
structure Fr (w w' : World) (S : Nat → Prop) : Prop where
  os : w'.os = w.os
  tape : w'.tape = w.tape
  output : w'.output = w.output
  size : w.heap.size ≤ w'.heap.size
  block : ∀ k, k < w.heap.size → ¬ S k → w'.heap[k]? = w.heap[k]?

theorem Fr.refl (w : World) (S : Nat → Prop) : Fr w w S := ⟨rfl, rfl, rfl, Nat.le_refl _, fun _ _ _ => rfl⟩
theorem Fr.of_grown {w w' : World} {r : Option Nat} {S : Nat → Prop} (h : w.grownBy w' r) (hS : ∀ k, r = some k → S k) : Fr w w' S :=
  ⟨h.os, h.tape, h.output, h.size, fun k hk hn => h.block k hk fun e => hn (hS k e.symm)⟩
theorem Fr.setCell {w w' : World} {S : Nat → Prop} (h : Fr w w' S) {b i : Nat} (hb : S b) (v : Value) : Fr w (w'.setCell ⟨b, i, none⟩ v) S :=
  ⟨h.os, h.tape, h.output, by simpa [World.setCell] using h.size, fun k hk hn => by
    rw [Below.heap_setCell _ _ _ _ (by show k ≠ b; intro e; exact hn (e ▸ hb))]; exact h.block k hk hn⟩
theorem Fr.trans {a b c : World} {S : Nat → Prop} (h1 : Fr a b S) (h2 : Fr b c S) : Fr a c S :=
  ⟨h2.os.trans h1.os, h2.tape.trans h1.tape, h2.output.trans h1.output, Nat.le_trans h1.size h2.size, fun k hk hn => (h2.block k (Nat.lt_of_lt_of_le hk h1.size) hn).trans (h1.block k hk hn)⟩
theorem Fr.below {w w' : World} {S : Nat → Prop} (h : Fr w w' S) {base : Nat} (hb : base ≤ w.heap.size) (hS : ∀ k, S k → base ≤ k) : Below base w w' :=
  ⟨h.os, h.tape, h.output, h.size, fun k hk => h.block k (by omega) fun hs => by have := hS k hs; omega⟩
theorem Fr.one {w w' : World} {S : Nat → Prop} (h : Fr w w' S) {B t : Nat} {d r : Int} (ho : One w B t d r) (hS : ¬ S B) : One w' B t d r := by
  obtain ⟨es, c, h1, h2⟩ := ho
  exact ⟨es, c, by rw [h.block B (lt_of_block h1) hS]; exact h1, h2⟩


theorem step_under_new (b : Nat) (hi lo us n required ready q r : Int) (oh ol os : Int) (om : Value) (w : World) (hT : Tal w b hi lo (.map none) oh ol om us os) (k0 : -9223372036854775808 ≤ required) (k1 : required ≤ 9223372036854775807) (k2 : -9223372036854775808 ≤ ready) (k3 : ready ≤ 9223372036854775807) (hlt : ready < required) (l0 : 0 ≤ lo) (l1 : lo < 18446744073709551616) (hp : 2 ≤ required) (q0 : 0 ≤ q) (q1 : q < 18446744073709551616) (r0 : 0 ≤ r) (r1 : r < required)
    (HD : ∀ W, Calls Yba.prog 18 #[.int .u64 (IntKind.u64.wrap n * (required - ready) / 18446744073709551616 % required), .int .u64 (IntKind.u64.wrap n * (required - ready) % 18446744073709551616), .int .u64 (required)] W fun e w' => e = .returned (.tuple #[.int .u64 q, .int .u64 r]) ∧ ∃ n, w' = W.drewN n) :
    Calls Yba.prog 8 #[.pointer (some ⟨b, 0, none⟩), .int .i64 n, .int .i64 required, .int .i64 ready] w fun e w' =>
      e = .returned (.tuple #[]) ∧ Tal w' b (newHi hi lo (IntKind.u64.wrap n * (required - ready) / 18446744073709551616 / required) q 0) (newLo lo q 0) (.map (some w.heap.size)) oh ol om (wrap64 (us + n)) os ∧ One w' w.heap.size 1 required r ∧ Fr w w' (fun k => k = b) := by
  have hb : b < w.heap.size := lt_of_block hT
  have hm : max required 1 = required := by omega
  have g0 : w.cell? ⟨b, 0, none⟩ = some (.int .u64 hi) := by rw [cell_of_row _ _ _ _ _ _ hT]; rfl
  have g1 : w.cell? ⟨b, 0 + 1, none⟩ = some (.int .u64 lo) := by rw [cell_of_row _ _ _ _ _ _ hT]; rfl
  have g2 : w.cell? ⟨b, 0 + 2, none⟩ = some (.map none) := by rw [cell_of_row _ _ _ _ _ _ hT]; rfl
  have gf : ∀ j, w.frozen? ⟨b, j, none⟩ = false := fun j => frozen_of_row _ _ j _ _ hT
  have hw0 : 0 ≤ IntKind.u64.wrap n := by rw [IntKind.wrap_u64]; omega
  have hw1 : IntKind.u64.wrap n < 18446744073709551616 := by rw [IntKind.wrap_u64]; omega
  have hF := frac_new b 0 hi lo (IntKind.u64.wrap n) (required - ready) required q r w hb g0 g1 g2 gf l0 l1 hw0 hw1 (by omega) (by omega) hp (by omega) q0 q1 r0 r1 HD
  have key : ∀ w1, (w.setCell ⟨b, 0 + 2, none⟩ (.map (some w.heap.size))).grownBy w1 none → w1.heap[b]? = some (.cells (Array.setIfInBounds _ (0 + 2) (.map (some w.heap.size))) 27 (0, 0)) := fun w1 hg => by
    rw [hg.block b (by simpa [World.setCell] using hb) (by simp)]; exact row_set hT
  refine (tally_under b n required ready us w _ k0 k1 k2 k3 hlt (by rw [hm]; exact hF) ?_).mono ?_
  · rintro w' ⟨w1, _, hg, rfl⟩
    have h1 := row_set (i := 0) (v := .int .u64 (newHi hi lo (IntKind.u64.wrap n * (required - ready) / 18446744073709551616 / required) q 0)) (row_set (i := 0 + 1) (v := .int .u64 (newLo lo q 0)) (key w1 hg))
    exact ⟨by rw [cell_of_row _ _ _ _ _ _ h1]; rfl, frozen_of_row _ _ _ _ _ h1⟩
  · rintro e w'' ⟨rfl, w', ⟨w1, ho, hg, rfl⟩, rfl⟩
    have h1 := row_set (i := 6) (v := .int .i64 (wrap64 (us + n))) (row_set (i := 0) (v := .int .u64 (newHi hi lo (IntKind.u64.wrap n * (required - ready) / 18446744073709551616 / required) q 0)) (row_set (i := 0 + 1) (v := .int .u64 (newLo lo q 0)) (key w1 hg)))
    refine ⟨rfl, h1, ((ho.setCell ?_ _).setCell ?_ _).setCell ?_ _, ?_⟩
    · show w.heap.size ≠ b; omega
    · show w.heap.size ≠ b; omega
    · show w.heap.size ≠ b; omega
    · have f0 : Fr w (w.setCell ⟨b, 0 + 2, none⟩ (.map (some w.heap.size))) (fun k => k = b) := (Fr.refl w (fun k => k = b)).setCell rfl _
      exact (((f0.trans (Fr.of_grown hg (fun k hk => by cases hk))).setCell rfl _).setCell rfl _).setCell rfl _

theorem step_under_old (b B t : Nat) (hi lo us n required ready q r s : Int) (oh ol os : Int) (om : Value) (w : World) (hT : Tal w b hi lo (.map (some B)) oh ol om us os) (hO : One w B t required s) (ht : t < 1000000) (s0 : 0 ≤ s) (s1 : s < required) (k0 : -9223372036854775808 ≤ required) (k1 : required ≤ 9223372036854775807) (k2 : -9223372036854775808 ≤ ready) (k3 : ready ≤ 9223372036854775807) (hlt : ready < required) (l0 : 0 ≤ lo) (l1 : lo < 18446744073709551616) (hp : 2 ≤ required) (q0 : 0 ≤ q) (q1 : q < 18446744073709551616) (r0 : 0 ≤ r) (r1 : r < required)
    (HD : ∀ W, Calls Yba.prog 18 #[.int .u64 (IntKind.u64.wrap n * (required - ready) / 18446744073709551616 % required), .int .u64 (IntKind.u64.wrap n * (required - ready) % 18446744073709551616), .int .u64 (required)] W fun e w' => e = .returned (.tuple #[.int .u64 q, .int .u64 r]) ∧ ∃ n, w' = W.drewN n) :
    Calls Yba.prog 8 #[.pointer (some ⟨b, 0, none⟩), .int .i64 n, .int .i64 required, .int .i64 ready] w fun e w' =>
      e = .returned (.tuple #[]) ∧ Tal w' b (newHi hi lo (IntKind.u64.wrap n * (required - ready) / 18446744073709551616 / required) q (whole required (r + s))) (newLo lo q (whole required (r + s))) (.map (some B)) oh ol om (wrap64 (us + n)) os ∧ One w' B (t + 1) required (left required (r + s)) ∧ Fr w w' (fun k => k = b ∨ k = B) := by
  have hb : b < w.heap.size := lt_of_block hT
  have hm : max required 1 = required := by omega
  have hne : B ≠ b := fun e => by
    obtain ⟨es, c, h1, _⟩ := hO
    rw [e] at h1
    unfold Tal at hT
    rw [hT] at h1; cases h1
  have g0 : w.cell? ⟨b, 0, none⟩ = some (.int .u64 hi) := by rw [cell_of_row _ _ _ _ _ _ hT]; rfl
  have g1 : w.cell? ⟨b, 0 + 1, none⟩ = some (.int .u64 lo) := by rw [cell_of_row _ _ _ _ _ _ hT]; rfl
  have g2 : w.cell? ⟨b, 0 + 2, none⟩ = some (.map (some B)) := by rw [cell_of_row _ _ _ _ _ _ hT]; rfl
  have gf : ∀ j, w.frozen? ⟨b, j, none⟩ = false := fun j => frozen_of_row _ _ j _ _ hT
  have hw0 : 0 ≤ IntKind.u64.wrap n := by rw [IntKind.wrap_u64]; omega
  have hw1 : IntKind.u64.wrap n < 18446744073709551616 := by rw [IntKind.wrap_u64]; omega
  have hF := frac_old b 0 B t hi lo (IntKind.u64.wrap n) (required - ready) required q r s w hb g0 g1 g2 hO ht hne s0 s1 gf l0 l1 hw0 hw1 (by omega) (by omega) hp (by omega) q0 q1 r0 r1 HD
  have key : ∀ w1, w.grownBy w1 (some B) → Tal w1 b hi lo (.map (some B)) oh ol om us os := fun w1 hg => by
    unfold Tal
    rw [hg.block b hb (fun e => hne (by simpa using e.symm))]; exact hT
  refine (tally_under b n required ready us w _ k0 k1 k2 k3 hlt (by rw [hm]; exact hF) ?_).mono ?_
  · rintro w' ⟨w1, _, hg, rfl⟩
    have h1 := row_set (i := 0) (v := .int .u64 (newHi hi lo (IntKind.u64.wrap n * (required - ready) / 18446744073709551616 / required) q (whole required (r + s)))) (row_set (i := 0 + 1) (v := .int .u64 (newLo lo q (whole required (r + s)))) (key w1 hg))
    exact ⟨by rw [cell_of_row _ _ _ _ _ _ h1]; rfl, frozen_of_row _ _ _ _ _ h1⟩
  · rintro e w'' ⟨rfl, w', ⟨w1, ho, hg, rfl⟩, rfl⟩
    have h1 := row_set (i := 6) (v := .int .i64 (wrap64 (us + n))) (row_set (i := 0) (v := .int .u64 (newHi hi lo (IntKind.u64.wrap n * (required - ready) / 18446744073709551616 / required) q (whole required (r + s)))) (row_set (i := 0 + 1) (v := .int .u64 (newLo lo q (whole required (r + s)))) (key w1 hg)))
    refine ⟨rfl, h1, ((ho.setCell ?_ _).setCell ?_ _).setCell ?_ _, ?_⟩
    · exact hne
    · exact hne
    · exact hne
    · exact (((Fr.of_grown hg (fun k hk => by cases hk; exact .inr rfl)).setCell (.inl rfl) _).setCell (.inl rfl) _).setCell (.inl rfl) _

theorem step_under_one (b : Nat) (hi lo us n required ready : Int) (oh ol os : Int) (om : Value) (m : Value) (w : World) (hT : Tal w b hi lo (m) oh ol om us os) (k0 : -9223372036854775808 ≤ required) (k1 : required ≤ 9223372036854775807) (k2 : -9223372036854775808 ≤ ready) (k3 : ready ≤ 9223372036854775807) (hlt : ready < required) (l0 : 0 ≤ lo) (l1 : lo < 18446744073709551616) (hp : required ≤ 1) :
    Calls Yba.prog 8 #[.pointer (some ⟨b, 0, none⟩), .int .i64 n, .int .i64 required, .int .i64 ready] w fun e w' =>
      e = .returned (.tuple #[]) ∧ Tal w' b (newHi hi lo (IntKind.u64.wrap n * (required - ready) / 18446744073709551616) (IntKind.u64.wrap n * (required - ready) % 18446744073709551616) 0) (newLo lo (IntKind.u64.wrap n * (required - ready) % 18446744073709551616) 0) (m) oh ol om (wrap64 (us + n)) os ∧ Fr w w' (fun k => k = b) := by
  have hb : b < w.heap.size := lt_of_block hT
  have hm : max required 1 = 1 := by omega
  have g0 : w.cell? ⟨b, 0, none⟩ = some (.int .u64 hi) := by rw [cell_of_row _ _ _ _ _ _ hT]; rfl
  have g1 : w.cell? ⟨b, 0 + 1, none⟩ = some (.int .u64 lo) := by rw [cell_of_row _ _ _ _ _ _ hT]; rfl
  have gf : ∀ j, w.frozen? ⟨b, j, none⟩ = false := fun j => frozen_of_row _ _ j _ _ hT
  have hw0 : 0 ≤ IntKind.u64.wrap n := by rw [IntKind.wrap_u64]; omega
  have hw1 : IntKind.u64.wrap n < 18446744073709551616 := by rw [IntKind.wrap_u64]; omega
  have hF := frac_one b 0 hi lo (IntKind.u64.wrap n) (required - ready) w hb g0 g1 gf l0 l1 hw0 hw1 (by omega) (by omega)
  refine (tally_under b n required ready us w (fun w' => w' = _) k0 k1 k2 k3 hlt (by rw [hm]; exact hF) ?_).mono ?_
  · rintro w' rfl
    have h1 := row_set (i := 0) (v := .int .u64 (newHi hi lo (IntKind.u64.wrap n * (required - ready) / 18446744073709551616) (IntKind.u64.wrap n * (required - ready) % 18446744073709551616) 0)) (row_set (i := 0 + 1) (v := .int .u64 (newLo lo (IntKind.u64.wrap n * (required - ready) % 18446744073709551616) 0)) hT)
    exact ⟨by rw [cell_of_row _ _ _ _ _ _ h1]; rfl, frozen_of_row _ _ _ _ _ h1⟩
  · rintro e w'' ⟨rfl, w', rfl, rfl⟩
    have h1 := row_set (i := 6) (v := .int .i64 (wrap64 (us + n))) (row_set (i := 0) (v := .int .u64 (newHi hi lo (IntKind.u64.wrap n * (required - ready) / 18446744073709551616) (IntKind.u64.wrap n * (required - ready) % 18446744073709551616) 0)) (row_set (i := 0 + 1) (v := .int .u64 (newLo lo (IntKind.u64.wrap n * (required - ready) % 18446744073709551616) 0)) hT))
    exact ⟨rfl, h1, (((Fr.refl w (fun k => k = b)).setCell rfl _).setCell rfl _).setCell rfl _⟩

theorem step_over_new (b : Nat) (hi lo us n required ready q r : Int) (oh ol os : Int) (om : Value) (w : World) (hT : Tal w b oh ol om hi lo (.map none) os us) (k0 : -9223372036854775808 ≤ required) (k1 : required ≤ 9223372036854775807) (k2 : -9223372036854775808 ≤ ready) (k3 : ready ≤ 9223372036854775807) (hlt : required < ready) (l0 : 0 ≤ lo) (l1 : lo < 18446744073709551616) (hp : 2 ≤ required) (q0 : 0 ≤ q) (q1 : q < 18446744073709551616) (r0 : 0 ≤ r) (r1 : r < required)
    (HD : ∀ W, Calls Yba.prog 18 #[.int .u64 (IntKind.u64.wrap n * (ready - required) / 18446744073709551616 % required), .int .u64 (IntKind.u64.wrap n * (ready - required) % 18446744073709551616), .int .u64 (required)] W fun e w' => e = .returned (.tuple #[.int .u64 q, .int .u64 r]) ∧ ∃ n, w' = W.drewN n) :
    Calls Yba.prog 8 #[.pointer (some ⟨b, 0, none⟩), .int .i64 n, .int .i64 required, .int .i64 ready] w fun e w' =>
      e = .returned (.tuple #[]) ∧ Tal w' b oh ol om (newHi hi lo (IntKind.u64.wrap n * (ready - required) / 18446744073709551616 / required) q 0) (newLo lo q 0) (.map (some w.heap.size)) os (wrap64 (us + n)) ∧ One w' w.heap.size 1 required r ∧ Fr w w' (fun k => k = b) := by
  have hb : b < w.heap.size := lt_of_block hT
  have hm : max required 1 = required := by omega
  have g0 : w.cell? ⟨b, 3, none⟩ = some (.int .u64 hi) := by rw [cell_of_row _ _ _ _ _ _ hT]; rfl
  have g1 : w.cell? ⟨b, 3 + 1, none⟩ = some (.int .u64 lo) := by rw [cell_of_row _ _ _ _ _ _ hT]; rfl
  have g2 : w.cell? ⟨b, 3 + 2, none⟩ = some (.map none) := by rw [cell_of_row _ _ _ _ _ _ hT]; rfl
  have gf : ∀ j, w.frozen? ⟨b, j, none⟩ = false := fun j => frozen_of_row _ _ j _ _ hT
  have hw0 : 0 ≤ IntKind.u64.wrap n := by rw [IntKind.wrap_u64]; omega
  have hw1 : IntKind.u64.wrap n < 18446744073709551616 := by rw [IntKind.wrap_u64]; omega
  have hF := frac_new b 3 hi lo (IntKind.u64.wrap n) (ready - required) required q r w hb g0 g1 g2 gf l0 l1 hw0 hw1 (by omega) (by omega) hp (by omega) q0 q1 r0 r1 HD
  have key : ∀ w1, (w.setCell ⟨b, 3 + 2, none⟩ (.map (some w.heap.size))).grownBy w1 none → w1.heap[b]? = some (.cells (Array.setIfInBounds _ (3 + 2) (.map (some w.heap.size))) 27 (0, 0)) := fun w1 hg => by
    rw [hg.block b (by simpa [World.setCell] using hb) (by simp)]; exact row_set hT
  refine (tally_over b n required ready us w _ k0 k1 k2 k3 hlt (by rw [hm]; exact hF) ?_).mono ?_
  · rintro w' ⟨w1, _, hg, rfl⟩
    have h1 := row_set (i := 3) (v := .int .u64 (newHi hi lo (IntKind.u64.wrap n * (ready - required) / 18446744073709551616 / required) q 0)) (row_set (i := 3 + 1) (v := .int .u64 (newLo lo q 0)) (key w1 hg))
    exact ⟨by rw [cell_of_row _ _ _ _ _ _ h1]; rfl, frozen_of_row _ _ _ _ _ h1⟩
  · rintro e w'' ⟨rfl, w', ⟨w1, ho, hg, rfl⟩, rfl⟩
    have h1 := row_set (i := 7) (v := .int .i64 (wrap64 (us + n))) (row_set (i := 3) (v := .int .u64 (newHi hi lo (IntKind.u64.wrap n * (ready - required) / 18446744073709551616 / required) q 0)) (row_set (i := 3 + 1) (v := .int .u64 (newLo lo q 0)) (key w1 hg)))
    refine ⟨rfl, h1, ((ho.setCell ?_ _).setCell ?_ _).setCell ?_ _, ?_⟩
    · show w.heap.size ≠ b; omega
    · show w.heap.size ≠ b; omega
    · show w.heap.size ≠ b; omega
    · have f0 : Fr w (w.setCell ⟨b, 3 + 2, none⟩ (.map (some w.heap.size))) (fun k => k = b) := (Fr.refl w (fun k => k = b)).setCell rfl _
      exact (((f0.trans (Fr.of_grown hg (fun k hk => by cases hk))).setCell rfl _).setCell rfl _).setCell rfl _

theorem step_over_old (b B t : Nat) (hi lo us n required ready q r s : Int) (oh ol os : Int) (om : Value) (w : World) (hT : Tal w b oh ol om hi lo (.map (some B)) os us) (hO : One w B t required s) (ht : t < 1000000) (s0 : 0 ≤ s) (s1 : s < required) (k0 : -9223372036854775808 ≤ required) (k1 : required ≤ 9223372036854775807) (k2 : -9223372036854775808 ≤ ready) (k3 : ready ≤ 9223372036854775807) (hlt : required < ready) (l0 : 0 ≤ lo) (l1 : lo < 18446744073709551616) (hp : 2 ≤ required) (q0 : 0 ≤ q) (q1 : q < 18446744073709551616) (r0 : 0 ≤ r) (r1 : r < required)
    (HD : ∀ W, Calls Yba.prog 18 #[.int .u64 (IntKind.u64.wrap n * (ready - required) / 18446744073709551616 % required), .int .u64 (IntKind.u64.wrap n * (ready - required) % 18446744073709551616), .int .u64 (required)] W fun e w' => e = .returned (.tuple #[.int .u64 q, .int .u64 r]) ∧ ∃ n, w' = W.drewN n) :
    Calls Yba.prog 8 #[.pointer (some ⟨b, 0, none⟩), .int .i64 n, .int .i64 required, .int .i64 ready] w fun e w' =>
      e = .returned (.tuple #[]) ∧ Tal w' b oh ol om (newHi hi lo (IntKind.u64.wrap n * (ready - required) / 18446744073709551616 / required) q (whole required (r + s))) (newLo lo q (whole required (r + s))) (.map (some B)) os (wrap64 (us + n)) ∧ One w' B (t + 1) required (left required (r + s)) ∧ Fr w w' (fun k => k = b ∨ k = B) := by
  have hb : b < w.heap.size := lt_of_block hT
  have hm : max required 1 = required := by omega
  have hne : B ≠ b := fun e => by
    obtain ⟨es, c, h1, _⟩ := hO
    rw [e] at h1
    unfold Tal at hT
    rw [hT] at h1; cases h1
  have g0 : w.cell? ⟨b, 3, none⟩ = some (.int .u64 hi) := by rw [cell_of_row _ _ _ _ _ _ hT]; rfl
  have g1 : w.cell? ⟨b, 3 + 1, none⟩ = some (.int .u64 lo) := by rw [cell_of_row _ _ _ _ _ _ hT]; rfl
  have g2 : w.cell? ⟨b, 3 + 2, none⟩ = some (.map (some B)) := by rw [cell_of_row _ _ _ _ _ _ hT]; rfl
  have gf : ∀ j, w.frozen? ⟨b, j, none⟩ = false := fun j => frozen_of_row _ _ j _ _ hT
  have hw0 : 0 ≤ IntKind.u64.wrap n := by rw [IntKind.wrap_u64]; omega
  have hw1 : IntKind.u64.wrap n < 18446744073709551616 := by rw [IntKind.wrap_u64]; omega
  have hF := frac_old b 3 B t hi lo (IntKind.u64.wrap n) (ready - required) required q r s w hb g0 g1 g2 hO ht hne s0 s1 gf l0 l1 hw0 hw1 (by omega) (by omega) hp (by omega) q0 q1 r0 r1 HD
  have key : ∀ w1, w.grownBy w1 (some B) → Tal w1 b oh ol om hi lo (.map (some B)) os us := fun w1 hg => by
    unfold Tal
    rw [hg.block b hb (fun e => hne (by simpa using e.symm))]; exact hT
  refine (tally_over b n required ready us w _ k0 k1 k2 k3 hlt (by rw [hm]; exact hF) ?_).mono ?_
  · rintro w' ⟨w1, _, hg, rfl⟩
    have h1 := row_set (i := 3) (v := .int .u64 (newHi hi lo (IntKind.u64.wrap n * (ready - required) / 18446744073709551616 / required) q (whole required (r + s)))) (row_set (i := 3 + 1) (v := .int .u64 (newLo lo q (whole required (r + s)))) (key w1 hg))
    exact ⟨by rw [cell_of_row _ _ _ _ _ _ h1]; rfl, frozen_of_row _ _ _ _ _ h1⟩
  · rintro e w'' ⟨rfl, w', ⟨w1, ho, hg, rfl⟩, rfl⟩
    have h1 := row_set (i := 7) (v := .int .i64 (wrap64 (us + n))) (row_set (i := 3) (v := .int .u64 (newHi hi lo (IntKind.u64.wrap n * (ready - required) / 18446744073709551616 / required) q (whole required (r + s)))) (row_set (i := 3 + 1) (v := .int .u64 (newLo lo q (whole required (r + s)))) (key w1 hg)))
    refine ⟨rfl, h1, ((ho.setCell ?_ _).setCell ?_ _).setCell ?_ _, ?_⟩
    · exact hne
    · exact hne
    · exact hne
    · exact (((Fr.of_grown hg (fun k hk => by cases hk; exact .inr rfl)).setCell (.inl rfl) _).setCell (.inl rfl) _).setCell (.inl rfl) _

theorem step_over_one (b : Nat) (hi lo us n required ready : Int) (oh ol os : Int) (om : Value) (m : Value) (w : World) (hT : Tal w b oh ol om hi lo (m) os us) (k0 : -9223372036854775808 ≤ required) (k1 : required ≤ 9223372036854775807) (k2 : -9223372036854775808 ≤ ready) (k3 : ready ≤ 9223372036854775807) (hlt : required < ready) (l0 : 0 ≤ lo) (l1 : lo < 18446744073709551616) (hp : required ≤ 1) :
    Calls Yba.prog 8 #[.pointer (some ⟨b, 0, none⟩), .int .i64 n, .int .i64 required, .int .i64 ready] w fun e w' =>
      e = .returned (.tuple #[]) ∧ Tal w' b oh ol om (newHi hi lo (IntKind.u64.wrap n * (ready - required) / 18446744073709551616) (IntKind.u64.wrap n * (ready - required) % 18446744073709551616) 0) (newLo lo (IntKind.u64.wrap n * (ready - required) % 18446744073709551616) 0) (m) os (wrap64 (us + n)) ∧ Fr w w' (fun k => k = b) := by
  have hb : b < w.heap.size := lt_of_block hT
  have hm : max required 1 = 1 := by omega
  have g0 : w.cell? ⟨b, 3, none⟩ = some (.int .u64 hi) := by rw [cell_of_row _ _ _ _ _ _ hT]; rfl
  have g1 : w.cell? ⟨b, 3 + 1, none⟩ = some (.int .u64 lo) := by rw [cell_of_row _ _ _ _ _ _ hT]; rfl
  have gf : ∀ j, w.frozen? ⟨b, j, none⟩ = false := fun j => frozen_of_row _ _ j _ _ hT
  have hw0 : 0 ≤ IntKind.u64.wrap n := by rw [IntKind.wrap_u64]; omega
  have hw1 : IntKind.u64.wrap n < 18446744073709551616 := by rw [IntKind.wrap_u64]; omega
  have hF := frac_one b 3 hi lo (IntKind.u64.wrap n) (ready - required) w hb g0 g1 gf l0 l1 hw0 hw1 (by omega) (by omega)
  refine (tally_over b n required ready us w (fun w' => w' = _) k0 k1 k2 k3 hlt (by rw [hm]; exact hF) ?_).mono ?_
  · rintro w' rfl
    have h1 := row_set (i := 3) (v := .int .u64 (newHi hi lo (IntKind.u64.wrap n * (ready - required) / 18446744073709551616) (IntKind.u64.wrap n * (ready - required) % 18446744073709551616) 0)) (row_set (i := 3 + 1) (v := .int .u64 (newLo lo (IntKind.u64.wrap n * (ready - required) % 18446744073709551616) 0)) hT)
    exact ⟨by rw [cell_of_row _ _ _ _ _ _ h1]; rfl, frozen_of_row _ _ _ _ _ h1⟩
  · rintro e w'' ⟨rfl, w', rfl, rfl⟩
    have h1 := row_set (i := 7) (v := .int .i64 (wrap64 (us + n))) (row_set (i := 3) (v := .int .u64 (newHi hi lo (IntKind.u64.wrap n * (ready - required) / 18446744073709551616) (IntKind.u64.wrap n * (ready - required) % 18446744073709551616) 0)) (row_set (i := 3 + 1) (v := .int .u64 (newLo lo (IntKind.u64.wrap n * (ready - required) % 18446744073709551616) 0)) hT))
    exact ⟨rfl, h1, (((Fr.refl w (fun k => k = b)).setCell rfl _).setCell rfl _).setCell rfl _⟩
end Go.Proofs.Ybulkabno
