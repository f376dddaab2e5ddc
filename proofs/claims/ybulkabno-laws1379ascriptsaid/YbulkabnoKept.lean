/-
  The tally behind k steps over one denominator.
-/
import Derived.Test.YbulkabnoSide
import Derived.Test.YbulkabnoNew
namespace Go.Proofs.Ybulkabno
open Go.RowKit Go.Shelf Go.Maps Go.WideMaps
set_option linter.unusedVariables false
set_option linter.unusedSimpArgs false

/-- The tally behind k steps: both sides' sums are kept. -/
structure Kept (w0 w : World) (per : Int) (k : Nat) (sU sO cU cO : Int) : Prop where
  bel : Below w0.heap.size w0 w
  tal : ∃ ul um ur ol om orr, Tal w w0.heap.size 0 ul um 0 ol om cU cO ∧ Side w per w0.heap.size k um ur ∧ Side w per w0.heap.size k om orr ∧
    (∀ B, um = .map (some B) → om ≠ .map (some B)) ∧ (0 ≤ ur ∧ ur < per) ∧ (0 ≤ orr ∧ orr < per) ∧ (0 ≤ ul ∧ ul ≤ k * 4398046511104) ∧ (0 ≤ ol ∧ ol ≤ k * 4398046511104) ∧
    ul * per + ur = sU ∧ ol * per + orr = sO
  sums : (0 ≤ sU ∧ sU ≤ k * 2199023255552) ∧ (0 ≤ sO ∧ sO ≤ k * 2199023255552) ∧ (0 ≤ cU ∧ cU ≤ k * 1048576) ∧ (0 ≤ cO ∧ cO ≤ k * 1048576)

theorem kept_new (w : World) (per : Int) (hp : 1 ≤ per) (o : Obj) (ho : o = .cells #[.int .u64 0, .int .u64 0, .map none, .int .u64 0, .int .u64 0, .map none, .int .i64 0, .int .i64 0] 27) : Kept w (w.alloc o) per 0 0 0 0 0 := by
  subst ho
  refine ⟨(Below.refl _ _).alloc (Nat.le_refl _) _, ⟨0, .map none, 0, 0, .map none, 0, tal_new w, .inl ⟨rfl, rfl⟩, .inl ⟨rfl, rfl⟩, ?_, ⟨by omega, by omega⟩, ⟨by omega, by omega⟩, by simp, by simp, by simp, by simp⟩, by simp⟩
  intro B h
  cases h

theorem side_next {w w' : World} {per : Int} {base k : Nat} {m : Value} {r : Int} {S : Nat → Prop} (h : Side w per base k m r) (hF : Fr w w' S) (hS : ∀ B, m = .map (some B) → ¬ S B) : Side w' per base (k + 1) m r := by
  rcases h with h | ⟨h2, B, t, hm, hO, ht, hB⟩
  · exact .inl h
  · exact .inr ⟨h2, B, t, hm, hF.one hO (hS B hm), by omega, hB⟩
theorem side_old {w : World} {per : Int} {base k : Nat} {m : Value} {r : Int} (h : Side w per base k m r) {B : Nat} (hm : m = .map (some B)) : base ≤ B ∧ B < w.heap.size ∧ ∃ t, One w B t per r := by
  rcases h with ⟨h, _⟩ | ⟨_, B', t, hm', hO, ht, hB⟩
  · rw [h] at hm; cases hm
  · rw [hm'] at hm
    cases hm
    obtain ⟨es, c, h1, h2⟩ := hO
    exact ⟨hB, lt_of_block h1, t, es, c, h1, h2⟩
theorem tal_ne {w : World} {b B t : Nat} {uh ul oh ol us os : Int} {um om : Value} {d r : Int} (hT : Tal w b uh ul um oh ol om us os) (hO : One w B t d r) : B ≠ b := fun e => by
  obtain ⟨es, c, h1, _⟩ := hO
  rw [e] at h1
  unfold Tal at hT
  rw [hT] at h1; cases h1

theorem kept_under {w0 w : World} {per required : Int} {k : Nat} {sU sO cU cO n ready : Int} (h : Kept w0 w per k sU sO cU cO) (hk : k < 1024) (hper : per = max required 1) (k0 : -1048576 ≤ required) (k1 : required < 1048576) (k2 : -1048576 ≤ ready) (k3 : ready < 1048576) (hlt : ready < required) (n0 : 0 ≤ n) (n1 : n < 1048576) :
    Calls Yba.prog 8 #[.pointer (some ⟨w0.heap.size, 0, none⟩), .int .i64 n, .int .i64 required, .int .i64 ready] w fun e w' =>
      e = .returned (.tuple #[]) ∧ Kept w0 w' per (k + 1) (sU + n * (required - ready)) sO (cU + n) cO := by
  obtain ⟨bel, ⟨ul, um, ur, ol, om, orr, hT, hU, hO, hap, hur, hor, hul, hol, eU, eO⟩, s1, s2, s3, s4⟩ := h
  obtain ⟨P0, P1⟩ := prod_small n (required - ready) n0 n1 (by omega) (by omega)
  refine (side_under w0.heap.size w0.heap.size k ul cU n required ready per ur 0 ol cO um om w hT hU (by omega) bel.size hper k0 k1 k2 k3 hlt n0 n1 hur.1 hur.2 hul.1 (by omega) s3.1 (by omega)).mono ?_
  rintro e w' ⟨rfl, ul', um', ur', hT', hU', hur', hul', eU', hm', hF⟩
  have hb := hF.below (base := w0.heap.size) bel.size (fun j hj => by
    rcases hj with h | h
    · omega
    · exact (side_old hU h).1)
  refine ⟨rfl, bel.trans hb, ⟨ul', um', ur', ol, om, orr, hT', hU', side_next hO hF ?_, ?_, hur', hor, ⟨hul'.1, by omega⟩, ⟨hol.1, by omega⟩, by rw [eU', eU], eO⟩, ⟨by omega, by omega⟩, ⟨s2.1, by omega⟩, ⟨by omega, by omega⟩, ⟨s4.1, by omega⟩⟩
  · intro B hB hS
    rcases hS with h | h
    · obtain ⟨_, _, t, ht⟩ := side_old hO hB
      exact tal_ne hT ht h
    · exact hap B h hB
  · intro B hB hB'
    rcases hm' with h | h
    · rw [h] at hB; exact hap B hB hB'
    · rw [h] at hB
      cases hB
      have := (side_old hO hB').2.1
      omega

theorem kept_over {w0 w : World} {per required : Int} {k : Nat} {sU sO cU cO n ready : Int} (h : Kept w0 w per k sU sO cU cO) (hk : k < 1024) (hper : per = max required 1) (k0 : -1048576 ≤ required) (k1 : required < 1048576) (k2 : -1048576 ≤ ready) (k3 : ready < 1048576) (hlt : required < ready) (n0 : 0 ≤ n) (n1 : n < 1048576) :
    Calls Yba.prog 8 #[.pointer (some ⟨w0.heap.size, 0, none⟩), .int .i64 n, .int .i64 required, .int .i64 ready] w fun e w' =>
      e = .returned (.tuple #[]) ∧ Kept w0 w' per (k + 1) sU (sO + n * (ready - required)) cU (cO + n) := by
  obtain ⟨bel, ⟨ul, um, ur, ol, om, orr, hT, hU, hO, hap, hur, hor, hul, hol, eU, eO⟩, s1, s2, s3, s4⟩ := h
  obtain ⟨P0, P1⟩ := prod_small n (ready - required) n0 n1 (by omega) (by omega)
  refine (side_over w0.heap.size w0.heap.size k ol cO n required ready per orr 0 ul cU om um w hT hO (by omega) bel.size hper k0 k1 k2 k3 hlt n0 n1 hor.1 hor.2 hol.1 (by omega) s4.1 (by omega)).mono ?_
  rintro e w' ⟨rfl, ol', om', or', hT', hO', hor', hol', eO', hm', hF⟩
  have hb := hF.below (base := w0.heap.size) bel.size (fun j hj => by
    rcases hj with h | h
    · omega
    · exact (side_old hO h).1)
  refine ⟨rfl, bel.trans hb, ⟨ul, um, ur, ol', om', or', hT', side_next hU hF ?_, hO', ?_, hur, hor', ⟨hul.1, by omega⟩, ⟨hol'.1, by omega⟩, eU, by rw [eO', eO]⟩, ⟨s1.1, by omega⟩, ⟨by omega, by omega⟩, ⟨s3.1, by omega⟩, ⟨by omega, by omega⟩⟩
  · intro B hB hS
    rcases hS with h | h
    · obtain ⟨_, _, t, ht⟩ := side_old hU hB
      exact tal_ne hT ht h
    · exact hap B hB h
  · intro B hB hB'
    rcases hm' with h | h
    · rw [h] at hB'; exact hap B hB hB'
    · rw [h] at hB'
      cases hB'
      have := (side_old hU hB).2.1
      omega

theorem kept_same {w0 w : World} {per required : Int} {k : Nat} {sU sO cU cO n : Int} (h : Kept w0 w per k sU sO cU cO) :
    Calls Yba.prog 8 #[.pointer (some ⟨w0.heap.size, 0, none⟩), .int .i64 n, .int .i64 required, .int .i64 required] w fun e w' =>
      e = .returned (.tuple #[]) ∧ Kept w0 w' per (k + 1) sU sO cU cO := by
  refine (tally_same w0.heap.size n required w).mono ?_
  rintro e w' ⟨rfl, rfl⟩
  obtain ⟨bel, ⟨ul, um, ur, ol, om, orr, hT, hU, hO, hap, hur, hor, hul, hol, eU, eO⟩, s1, s2, s3, s4⟩ := h
  have nx : ∀ {m r}, Side w' per w0.heap.size k m r → Side w' per w0.heap.size (k + 1) m r := fun h => side_next h (Fr.refl w' fun _ => False) (fun _ _ => id)
  exact ⟨rfl, bel, ⟨ul, um, ur, ol, om, orr, hT, nx hU, nx hO, hap, hur, hor, ⟨hul.1, by omega⟩, ⟨hol.1, by omega⟩, eU, eO⟩, ⟨s1.1, by omega⟩, ⟨s2.1, by omega⟩, ⟨s3.1, by omega⟩, ⟨s4.1, by omega⟩⟩
end Go.Proofs.Ybulkabno
