/-
  One step from an empty sum, whatever the two words: the other side and the seconds are what the law asks for.
-/
import Derived.Test.YbulkabnoStep
import Derived.Test.YbulkabnoDivAll
namespace Go.Proofs.Ybulkabno
open Go.RowKit Go.Shelf Go.Maps Go.WideMaps
set_option linter.unusedVariables false
set_option linter.unusedSimpArgs false

set_option maxRecDepth 100000 in
set_option maxHeartbeats 1000000 in
theorem divide_any (b o : Nat) (hi lo d : Int) (w : World) (hb : b < w.heap.size) (c2 : w.cell? ⟨b, o + 2, none⟩ = some (.map none)) (f2 : w.frozen? ⟨b, o + 2, none⟩ = false)
    (i0 : 0 ≤ hi) (i1 : hi < 18446744073709551616) (h0 : 0 ≤ lo) (h1 : lo < 18446744073709551616) (hd : 2 ≤ d) (hd' : d < 18446744073709551616) :
    Calls Yba.prog 17 #[.pointer (some ⟨b, o, none⟩), .int .u64 hi, .int .u64 lo, .int .u64 d] w fun e w' =>
      ∃ p q c, (0 ≤ q ∧ q < 18446744073709551616) ∧ (0 ≤ c ∧ c ≤ 1) ∧ e = .returned (.tuple #[.int .u64 p, .int .u64 q, .int .u64 c]) ∧ (w.setCell ⟨b, o + 2, none⟩ (.map (some w.heap.size))).grownBy w' none := by
  have hmm := @run_makeMap Yba.prog
  have hem := fun W r => run_eql_map_nil (P := Yba.prog) W 23 22 22 r Yba.underlying23
  have q1 : (d == 0) = false := by simp; omega
  have HD := div64_all (hi % d) lo d (Int.emod_nonneg hi (show d ≠ 0 by omega)) (Int.emod_lt_of_pos hi (show 0 < d by omega)) h0 h1 hd'
  obtain ⟨m, hm⟩ : ∃ m, hi % d = m := ⟨_, rfl⟩
  obtain ⟨p, hp⟩ : ∃ p, hi / d = p := ⟨_, rfl⟩
  rw [hm] at HD
  go_enter Yba.func17, Yba.ntmps17
  go_wp2_with fail
  refine (HD _).mono ?_
  rintro e w1 ⟨q, r, ⟨qa, qb⟩, ⟨r0, r1⟩, rfl, k, hk⟩
  have d2 : w1.cell? ⟨b, o + 2, none⟩ = some (.map none) := by rw [hk]; exact c2
  have HW : Hid (w1 = w.drewN k) := hk
  have hsz : w1.heap.size = w.heap.size := by rw [hk]; rfl
  have hb1 : b < w1.heap.size := by rw [hsz]; exact hb
  have hB : Below w1.heap.size w1 (w1.alloc (.map #[] 0)) := (Below.refl _ _).alloc (Nat.le_refl _) _
  have cA : (w1.alloc (.map #[] 0)).cell? ⟨b, o + 2, none⟩ = some (.map none) := (hB.cell (p := ⟨b, o + 2, none⟩) hb1).trans d2
  have fA : (w1.alloc (.map #[] 0)).frozen? ⟨b, o + 2, none⟩ = false := (hB.frozen (p := ⟨b, o + 2, none⟩) hb1).trans (by rw [hk]; exact f2)
  obtain ⟨w2, hw2⟩ : ∃ w2, w2 = (w1.setCell ⟨b, o + 2, none⟩ (.map (some w.heap.size))).alloc (.map #[] 0) := ⟨_, rfl⟩
  have hsz' : (w1.setCell ⟨b, o + 2, none⟩ (.map (some w.heap.size))).heap.size = w.heap.size := by rw [← hsz]; simp [World.setCell]
  have cB : w2.cell? ⟨b, o + 2, none⟩ = some (.map (some w.heap.size)) := by rw [hw2, World.cell?_alloc_past _ _ _ (by rw [hsz']; exact hb)]; exact World.cell?_setCell_same _ _ _ d2
  have hO : w2.ownsMap Yba.prog 22 (plainElem (H := Unit) Yba.prog 22) w.heap.size 0 (.map []) := by
    rw [hw2]
    have := World.ownsMap_made (H := Unit) (w1.setCell ⟨b, o + 2, none⟩ (.map (some w.heap.size))) Yba.prog 22 (plainElem Yba.prog 22)
    rw [hsz'] at this
    exact this
  have hgr : (w.setCell ⟨b, o + 2, none⟩ (.map (some w.heap.size))).grownBy w2 none := by
    have h1 := World.grownBy_alloc (w1.setCell ⟨b, o + 2, none⟩ (.map (some w.heap.size))) (.map #[] 0) none
    rw [hw2]
    rw [hk] at h1 ⊢
    exact ⟨h1.os, h1.tape, h1.output, h1.size, h1.block⟩
  have HG : Hid ((w.setCell ⟨b, o + 2, none⟩ (.map (some w.heap.size))).grownBy w2 none) := hgr
  have HO : Hid (w2.ownsMap Yba.prog 22 (plainElem (H := Unit) Yba.prog 22) w.heap.size 0 (.map [])) := hO
  clear hgr hk hB hO
  go_upto_region 5 with fail
  rw [← hw2]
  clear hw2 HW cA fA d2 hb1 hsz hsz'
  have hkey : keyOf Yba.prog 22 (.int .u64 d) = some (.int .u64 d) := keyOf_int_mk Yba.underlying22 (by simp [Lit.wf, IntKind.min, IntKind.max, IntKind.signed, IntKind.bits]; omega)
  have hwr : IntKind.u64.wrap r = r := by rw [IntKind.wrap_u64]; omega
  by_cases g : d ≤ r
  · have hwf : (Lit.int .u64 (r - d)).wf = true := by simp [Lit.wf, IntKind.min, IntKind.max, IntKind.signed, IntKind.bits]; omega
    have hws : IntKind.u64.wrap (r - d) = r - d := by rw [IntKind.wrap_u64]; omega
    have HK : Hid (keyOf Yba.prog 22 (.int .u64 d) = some (.int .u64 d) ∧ (Lit.int .u64 (r - d)).wf = true) := ⟨hkey, hwf⟩
    clear hkey hwf
    go_wp2_with (first | (at_lookup; refine wpList_lookup_own_int _ rfl _ _ 23 rfl 22 22 .u64 law22 Yba.underlying23 Yba.underlying22 (zero22 _) w.heap.size 0 _ rfl HO.out _ _ rfl HK.out.1 ?_; intro c hc _; have hc0 := at_nil hc; subst hc0) | (at_mapUpdate; refine wpList_mapUpdate_own _ rfl _ _ _ 23 rfl 22 22 law22 Yba.underlying23 _ w.heap.size 0 _ rfl HO.out (by decide) _ _ _ rfl rfl HK.out.1 _ [] (plainElem_int Yba.underlying22 HK.out.2) ?_; intro w3 ho hg))
    refine bodyPost_ret (v := .tuple #[.int .u64 p, .int .u64 q, .int .u64 1]) (by simp [results, Yba.results17, go_sem]) rfl ?_
    first | refine ⟨p, q, 1, ⟨qa, qb⟩, by decide, rfl, ?_⟩ | refine ⟨p, q, ⟨qa, qb⟩, 1, by decide, rfl, ?_⟩
    exact ⟨hg.os.trans HG.out.os, hg.tape.trans HG.out.tape, hg.output.trans HG.out.output, Nat.le_trans HG.out.size hg.size, fun t ht hn => (hg.block t (Nat.lt_of_lt_of_le ht HG.out.size) (fun e => by simp [World.setCell] at ht; cases e; omega)).trans (HG.out.block t ht hn)⟩
  · have hwf : (Lit.int .u64 r).wf = true := by simp [Lit.wf, IntKind.min, IntKind.max, IntKind.signed, IntKind.bits]; omega
    have HK : Hid (keyOf Yba.prog 22 (.int .u64 d) = some (.int .u64 d) ∧ (Lit.int .u64 r).wf = true) := ⟨hkey, hwf⟩
    clear hkey hwf
    go_wp2_with (first | (at_lookup; refine wpList_lookup_own_int _ rfl _ _ 23 rfl 22 22 .u64 law22 Yba.underlying23 Yba.underlying22 (zero22 _) w.heap.size 0 _ rfl HO.out _ _ rfl HK.out.1 ?_; intro c hc _; have hc0 := at_nil hc; subst hc0) | (at_mapUpdate; refine wpList_mapUpdate_own _ rfl _ _ _ 23 rfl 22 22 law22 Yba.underlying23 _ w.heap.size 0 _ rfl HO.out (by decide) _ _ _ rfl rfl HK.out.1 _ [] (plainElem_int Yba.underlying22 HK.out.2) ?_; intro w3 ho hg))
    refine bodyPost_ret (v := .tuple #[.int .u64 p, .int .u64 q, .int .u64 0]) (by simp [results, Yba.results17, go_sem]) rfl ?_
    first | refine ⟨p, q, 0, ⟨qa, qb⟩, by decide, rfl, ?_⟩ | refine ⟨p, q, ⟨qa, qb⟩, 0, by decide, rfl, ?_⟩
    exact ⟨hg.os.trans HG.out.os, hg.tape.trans HG.out.tape, hg.output.trans HG.out.output, Nat.le_trans HG.out.size hg.size, fun t ht hn => (hg.block t (Nat.lt_of_lt_of_le ht HG.out.size) (fun e => by simp [World.setCell] at ht; cases e; omega)).trans (HG.out.block t ht hn)⟩

set_option maxRecDepth 100000 in
set_option maxHeartbeats 1000000 in
theorem frac_any (b o : Nat) (hi lo n x d : Int) (w : World) (hb : b < w.heap.size) (c0 : w.cell? ⟨b, o, none⟩ = some (.int .u64 hi)) (c1 : w.cell? ⟨b, o + 1, none⟩ = some (.int .u64 lo)) (c2 : w.cell? ⟨b, o + 2, none⟩ = some (.map none))
    (f : ∀ j, w.frozen? ⟨b, j, none⟩ = false)
    (l0 : 0 ≤ lo) (l1 : lo < 18446744073709551616) (n0 : 0 ≤ n) (n1 : n < 18446744073709551616) (x0 : 0 ≤ x) (x1 : x < 18446744073709551616) (hd : 2 ≤ d) (hd' : d < 18446744073709551616) :
    Calls Yba.prog 13 #[.pointer (some ⟨b, o, none⟩), .int .u64 n, .int .u64 x, .int .u64 d] w fun e w' =>
      e = .returned (.tuple #[]) ∧ ∃ w1 h l, (w.setCell ⟨b, o + 2, none⟩ (.map (some w.heap.size))).grownBy w1 none ∧
        w' = (w1.setCell ⟨b, o + 1, none⟩ (.int .u64 l)).setCell ⟨b, o, none⟩ (.int .u64 h) := by
  have m1 := mul64 n x n0 n1 x0 x1
  have hP : 0 ≤ n * x := Int.mul_nonneg n0 x0
  have hPb : n * x ≤ 18446744073709551615 * 18446744073709551615 := Int.mul_le_mul (by omega) (by omega) x0 (by decide)
  have hdv := divide_any b o (n * x / 18446744073709551616) (n * x % 18446744073709551616) d w hb c2 (f _) (by omega) (by omega) (by omega) (by omega) hd hd'
  obtain ⟨ph, hph⟩ : ∃ ph, n * x / 18446744073709551616 = ph := ⟨_, rfl⟩
  obtain ⟨pl, hpl⟩ : ∃ pl, n * x % 18446744073709551616 = pl := ⟨_, rfl⟩
  rw [hph, hpl] at m1 hdv
  clear hph hpl hP hPb
  have g1 : (1 : Int) < d := by omega
  go_enter Yba.func13, Yba.ntmps13
  go_wp2_with fail
  refine (m1 _).mono ?_
  rintro e w5 ⟨rfl, hw5⟩
  rw [hw5]
  clear hw5 w5
  go_wp2_with fail
  refine hdv.mono ?_
  rintro e w1 ⟨z, q, wo, ⟨q0, q1⟩, wo0, rfl, hg⟩
  have ad := add64 lo q wo l0 q0 wo0.1 wo0.2
  obtain ⟨cy, hcy⟩ : ∃ cy, (lo + q + wo) / 18446744073709551616 = cy := ⟨_, rfl⟩
  obtain ⟨nl, hnl⟩ : ∃ nl, (lo + q + wo) % 18446744073709551616 = nl := ⟨_, rfl⟩
  rw [hcy, hnl] at ad
  have e0 : w1.cell? ⟨b, o, none⟩ = some (.int .u64 hi) := by
    rw [hg.cell_far ⟨b, o, none⟩ (by simpa [World.setCell] using hb) (by simp), cell_other (by omega)]; exact c0
  have e1 : w1.cell? ⟨b, o + 1, none⟩ = some (.int .u64 lo) := by
    rw [hg.cell_far ⟨b, o + 1, none⟩ (by simpa [World.setCell] using hb) (by simp), cell_other (by omega)]; exact c1
  have ef : ∀ j, w1.frozen? ⟨b, j, none⟩ = false := fun j => by
    rw [hg.frozen_far ⟨b, j, none⟩ (by simpa [World.setCell] using hb) (by simp), World.frozen?_setCell]; exact f j
  have ef0 := ef o
  have ef1 := ef (o + 1)
  have HH : Hid ((w.setCell ⟨b, o + 2, none⟩ (.map (some w.heap.size))).grownBy w1 none) := hg
  clear hg c0 c1 c2 f hdv m1 ef wo0
  go_wp2_with (simp only [ad])
  first | (go_ret; exact ⟨rfl, w1, _, _, HH.out, rfl⟩) | (simp [bodyPost, results, Yba.results13, go_sem]; exact ⟨w1, HH.out, _, _, rfl⟩)

theorem step_under_any (b : Nat) (n required ready : Int) (oh ol os : Int) (om : Value) (w : World) (hT : Tal w b 0 0 (.map none) oh ol om 0 os) (k0 : -9223372036854775808 ≤ required) (k1 : required ≤ 9223372036854775807) (k2 : -9223372036854775808 ≤ ready) (k3 : ready ≤ 9223372036854775807) (hlt : ready < required) :
    Calls Yba.prog 8 #[.pointer (some ⟨b, 0, none⟩), .int .i64 n, .int .i64 required, .int .i64 ready] w fun e w' =>
      e = .returned (.tuple #[]) ∧ (∃ h l m, Tal w' b h l m oh ol om (wrap64 (0 + n)) os) ∧ Fr w w' (fun k => k = b) := by
  by_cases hp : 2 ≤ required
  · have hb : b < w.heap.size := lt_of_block hT
    have hm : max required 1 = required := by omega
    have g0 : w.cell? ⟨b, 0, none⟩ = some (.int .u64 0) := by rw [cell_of_row _ _ _ _ _ _ hT]; rfl
    have g1 : w.cell? ⟨b, 0 + 1, none⟩ = some (.int .u64 0) := by rw [cell_of_row _ _ _ _ _ _ hT]; rfl
    have g2 : w.cell? ⟨b, 0 + 2, none⟩ = some (.map none) := by rw [cell_of_row _ _ _ _ _ _ hT]; rfl
    have gf : ∀ j, w.frozen? ⟨b, j, none⟩ = false := fun j => frozen_of_row _ _ j _ _ hT
    have hw0 : 0 ≤ IntKind.u64.wrap n := by rw [IntKind.wrap_u64]; omega
    have hw1 : IntKind.u64.wrap n < 18446744073709551616 := by rw [IntKind.wrap_u64]; omega
    have hF := frac_any b 0 0 0 (IntKind.u64.wrap n) (required - ready) required w hb g0 g1 g2 gf (by decide) (by decide) hw0 hw1 (by omega) (by omega) hp (by omega)
    have key : ∀ w1, (w.setCell ⟨b, 0 + 2, none⟩ (.map (some w.heap.size))).grownBy w1 none → w1.heap[b]? = some (.cells (Array.setIfInBounds _ (0 + 2) (.map (some w.heap.size))) 27 (0, 0)) := fun w1 hg => by
      rw [hg.block b (by simpa [World.setCell] using hb) (by simp)]; exact row_set hT
    refine (tally_under b n required ready 0 w _ k0 k1 k2 k3 hlt (by rw [hm]; exact hF) ?_).mono ?_
    · rintro w' ⟨w1, h, l, hg, rfl⟩
      have h1 := row_set (i := 0) (v := .int .u64 h) (row_set (i := 0 + 1) (v := .int .u64 l) (key w1 hg))
      exact ⟨by rw [cell_of_row _ _ _ _ _ _ h1]; rfl, frozen_of_row _ _ _ _ _ h1⟩
    · rintro e w'' ⟨rfl, w', ⟨w1, h, l, hg, rfl⟩, rfl⟩
      have h1 := row_set (i := 6) (v := .int .i64 (wrap64 (0 + n))) (row_set (i := 0) (v := .int .u64 h) (row_set (i := 0 + 1) (v := .int .u64 l) (key w1 hg)))
      refine ⟨rfl, ⟨_, _, _, h1⟩, ?_⟩
      have f0 : Fr w (w.setCell ⟨b, 0 + 2, none⟩ (.map (some w.heap.size))) (fun k => k = b) := (Fr.refl w (fun k => k = b)).setCell rfl _
      exact (((f0.trans (Fr.of_grown hg (fun k hk => by cases hk))).setCell rfl _).setCell rfl _).setCell rfl _
  · refine (step_under_one b 0 0 0 n required ready oh ol os om (.map none) w hT k0 k1 k2 k3 hlt (by decide) (by decide) (by omega)).mono ?_
    rintro e w' ⟨rfl, h1, h2⟩
    exact ⟨rfl, ⟨_, _, _, h1⟩, h2⟩

theorem step_over_any (b : Nat) (n required ready : Int) (oh ol os : Int) (om : Value) (w : World) (hT : Tal w b oh ol om 0 0 (.map none) os 0) (k0 : -9223372036854775808 ≤ required) (k1 : required ≤ 9223372036854775807) (k2 : -9223372036854775808 ≤ ready) (k3 : ready ≤ 9223372036854775807) (hlt : required < ready) :
    Calls Yba.prog 8 #[.pointer (some ⟨b, 0, none⟩), .int .i64 n, .int .i64 required, .int .i64 ready] w fun e w' =>
      e = .returned (.tuple #[]) ∧ (∃ h l m, Tal w' b oh ol om h l m os (wrap64 (0 + n))) ∧ Fr w w' (fun k => k = b) := by
  by_cases hp : 2 ≤ required
  · have hb : b < w.heap.size := lt_of_block hT
    have hm : max required 1 = required := by omega
    have g0 : w.cell? ⟨b, 3, none⟩ = some (.int .u64 0) := by rw [cell_of_row _ _ _ _ _ _ hT]; rfl
    have g1 : w.cell? ⟨b, 3 + 1, none⟩ = some (.int .u64 0) := by rw [cell_of_row _ _ _ _ _ _ hT]; rfl
    have g2 : w.cell? ⟨b, 3 + 2, none⟩ = some (.map none) := by rw [cell_of_row _ _ _ _ _ _ hT]; rfl
    have gf : ∀ j, w.frozen? ⟨b, j, none⟩ = false := fun j => frozen_of_row _ _ j _ _ hT
    have hw0 : 0 ≤ IntKind.u64.wrap n := by rw [IntKind.wrap_u64]; omega
    have hw1 : IntKind.u64.wrap n < 18446744073709551616 := by rw [IntKind.wrap_u64]; omega
    have hF := frac_any b 3 0 0 (IntKind.u64.wrap n) (ready - required) required w hb g0 g1 g2 gf (by decide) (by decide) hw0 hw1 (by omega) (by omega) hp (by omega)
    have key : ∀ w1, (w.setCell ⟨b, 3 + 2, none⟩ (.map (some w.heap.size))).grownBy w1 none → w1.heap[b]? = some (.cells (Array.setIfInBounds _ (3 + 2) (.map (some w.heap.size))) 27 (0, 0)) := fun w1 hg => by
      rw [hg.block b (by simpa [World.setCell] using hb) (by simp)]; exact row_set hT
    refine (tally_over b n required ready 0 w _ k0 k1 k2 k3 hlt (by rw [hm]; exact hF) ?_).mono ?_
    · rintro w' ⟨w1, h, l, hg, rfl⟩
      have h1 := row_set (i := 3) (v := .int .u64 h) (row_set (i := 3 + 1) (v := .int .u64 l) (key w1 hg))
      exact ⟨by rw [cell_of_row _ _ _ _ _ _ h1]; rfl, frozen_of_row _ _ _ _ _ h1⟩
    · rintro e w'' ⟨rfl, w', ⟨w1, h, l, hg, rfl⟩, rfl⟩
      have h1 := row_set (i := 7) (v := .int .i64 (wrap64 (0 + n))) (row_set (i := 3) (v := .int .u64 h) (row_set (i := 3 + 1) (v := .int .u64 l) (key w1 hg)))
      refine ⟨rfl, ⟨_, _, _, h1⟩, ?_⟩
      have f0 : Fr w (w.setCell ⟨b, 3 + 2, none⟩ (.map (some w.heap.size))) (fun k => k = b) := (Fr.refl w (fun k => k = b)).setCell rfl _
      exact (((f0.trans (Fr.of_grown hg (fun k hk => by cases hk))).setCell rfl _).setCell rfl _).setCell rfl _
  · refine (step_over_one b 0 0 0 n required ready oh ol os om (.map none) w hT k0 k1 k2 k3 hlt (by decide) (by decide) (by omega)).mono ?_
    rintro e w' ⟨rfl, h1, h2⟩
    exact ⟨rfl, ⟨_, _, _, h1⟩, h2⟩
end Go.Proofs.Ybulkabno
