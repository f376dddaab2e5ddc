/-
  setOf: each number as a run of its own, then newSet.
-/
import Derived.Test.YbulkabnaSet
namespace Go.Proofs.Ybulkabna
open Go.RowKit

theorem part_step2 {vs z : List Value} {k : Nat} {u u' : Value} (hu : vs[k]? = some u) (hu' : vs[k + 1]? = some u') (hz : z.length = vs.length) : ((part vs z k).set k u).set (k + 1) u' = part vs z (k + 2) := by
  rw [part_step hu hz, part_step hu' hz]
theorem pairs_len (xs : List Int) : (pairs xs).length = xs.length := by simp [pairs]
theorem pairs_get {xs : List Int} {j : Nat} (h : j < xs.length) : (pairs xs).getD j (0, 0) = (xs.getD j 0, xs.getD j 0) := by simp [pairs, List.getD, h]

set_option maxRecDepth 100000 in
set_option maxHeartbeats 1000000 in
theorem setOf6 (xs : List Int) (cb : Nat) (w : World) (hn : xs.length ≤ 1024) (hv : ∀ x ∈ xs, -32768 ≤ x ∧ x ≤ 32767) (hcb : cb < w.heap.size) (hc : ∀ j, j < xs.length → w.cell? ⟨cb, j, none⟩ = some (.int .i64 (xs.getD j 0))) :
    Calls Yba.prog 6 #[.slice (some ⟨cb, 0, none⟩) xs.length xs.length] w fun e w' =>
      ∃ S v, S.Perm xs ∧ Asc S ∧ e = .returned (.agg #[v]) ∧ w'.ownsRow w.heap.size 31 2 v (merge S).length (runCells (merge S)) ∧ Below w.heap.size w w' := by
  obtain ⟨i0, hi, hz0, hz1, hz2⟩ := info_parts info31
  obtain ⟨n, hxn⟩ : ∃ n, n = xs.length := ⟨_, rfl⟩
  rw [← hxn] at hn ⊢
  have HN : Hid (n = xs.length) := hxn
  have HC : Hid (∀ j, j < xs.length → w.cell? ⟨cb, j, none⟩ = some (.int .i64 (xs.getD j 0))) := hc
  have HV : Hid (∀ x ∈ xs, -32768 ≤ x ∧ x ≤ 32767) := hv
  clear hc hv hxn
  go_enter Yba.func6, Yba.ntmps6
  go_wp2_with (at_make; refine wpList_make_full _ rfl _ _ 25 rfl (w.heap.size + 1) 31 i0 (.agg #[.int .i64 0, .int .i64 0]) 2 Yba.underlying25 hi hz0 hz1 .i64 .i64 _ _ n rfl rfl (by omega) (by omega) (by rw [hz2]; omega) (by unfold maxLen; omega) (by simp) ?_; intro w1 hown hgr)
  have hb1 : Below (w.heap.size + 1) (w.alloc (.cells #[.slice none 0 0] 27)) w1 := (Below.refl _ _).grown hgr (by simp) (fun j hj => by cases hj)
  have HZ : Hid ((madeCells (Value.agg #[.int .i64 0, .int .i64 0]).cells (n * 2)).toList.length = (runCells (pairs xs)).length) := by
    show _ = _
    have h1 := hown.1
    rw [h1, runCells_length, pairs_len, ← HN.out]
  obtain ⟨z, hz⟩ : ∃ z, z = (madeCells (Value.agg #[.int .i64 0, .int .i64 0]).cells (n * 2)).toList := ⟨_, rfl⟩
  rw [← hz] at hown HZ
  have hsz1 : (w.alloc (.cells #[.slice none 0 0] 27)).heap.size = w.heap.size + 1 := by simp
  rw [hsz1] at hown
  clear hz hgr hi hz0 hz1 hz2
  go_loopg [11] n (fun k i wr => ∃ j : Nat, j + k = n ∧ i = .int .i64 j ∧ wr.ownsRow (w.heap.size + 1) 31 2 (.slice (some ⟨w.heap.size + 1, 0, none⟩) n n) n (part (runCells (pairs xs)) z (j * 2)) ∧ Below (w.heap.size + 1) (w.alloc (.cells #[.slice none 0 0] 27)) wr)
  case atStart => exact ⟨0, by omega, rfl, by rw [Nat.zero_mul, part_zero]; exact hown, hb1⟩
  case round =>
    obtain ⟨j, hj, rfl, hown', hbel⟩ := hrel
    clear hown hb1
    by_cases hlt : j < n
    · have hjx : j < xs.length := by rw [← HN.out]; exact hlt
      have h1 := HC.out j hjx
      obtain ⟨x, hx⟩ : ∃ x, x = xs.getD j 0 := ⟨_, rfl⟩
      rw [← hx] at h1
      have hu1 : (runCells (pairs xs))[j * 2]? = some (.int .i64 x) := by rw [runCells_fst _ _ (by rw [pairs_len]; exact hjx), pairs_get hjx, hx]
      have hu2 : (runCells (pairs xs))[j * 2 + 1]? = some (.int .i64 x) := by rw [runCells_snd _ _ (by rw [pairs_len]; exact hjx), pairs_get hjx, hx]
      have hb0 : Below w.heap.size w wr := ((Below.refl _ _).alloc (Nat.le_refl _) _).trans (hbel.mono (by omega))
      have hcr : wr.cell? ⟨cb, j, none⟩ = some (.int .i64 x) := (hb0.cell (p := ⟨cb, j, none⟩) hcb).trans h1
      have hlen : (part (runCells (pairs xs)) z (j * 2)).length = n * 2 := hown'.1
      obtain ⟨v0, hc0⟩ : ∃ v0, wr.cell? ⟨w.heap.size + 1, j * 2, none⟩ = some v0 := by
        rw [hown'.cellAt (j * 2) (by omega)]
        exact ⟨_, List.getElem?_eq_getElem (by omega)⟩
      obtain ⟨v1, hc1⟩ : ∃ v1, wr.cell? ⟨w.heap.size + 1, j * 2 + 1, none⟩ = some v1 := by
        rw [hown'.cellAt (j * 2 + 1) (by omega)]
        exact ⟨_, List.getElem?_eq_getElem (by omega)⟩
      have hf0 := hown'.frozenAt (j * 2)
      have hf1 := hown'.frozenAt (j * 2 + 1)
      have hst := ((hown'.stored (j * 2) (.int .i64 x)).1.stored (j * 2 + 1) (.int .i64 x)).1
      rw [part_step2 hu1 hu2 HZ.out, show j * 2 + 2 = (j + 1) * 2 by omega] at hst
      have HS : Hid (((wr.setCell ⟨w.heap.size + 1, j * 2, none⟩ (.int .i64 x)).setCell ⟨w.heap.size + 1, j * 2 + 1, none⟩ (.int .i64 x)).ownsRow (w.heap.size + 1) 31 2 (.slice (some ⟨w.heap.size + 1, 0, none⟩) n n) n (part (runCells (pairs xs)) z ((j + 1) * 2))) := hst
      clear hst hown' h1 hu1 hu2 hx hlen hb0
      go_wp2
      go_roundg (n - (j + 1))
      case rel => exact ⟨j + 1, by omega, by go_num, HS.out, (hbel.setCell (Nat.le_refl _) _).setCell (Nat.le_refl _) _⟩
      case measure => omega
    · obtain rfl : j = n := by omega
      have hown2 : wr.ownsRow (w.heap.size + 1) 31 2 (.slice (some ⟨w.heap.size + 1, 0, none⟩) (pairs xs).length j) (pairs xs).length (runCells (pairs xs)) := by
        rw [part_all (runCells (pairs xs)) z (by rw [runCells_length, pairs_len, ← HN.out]) (by rw [HZ.out, runCells_length, pairs_len, ← HN.out])] at hown'
        rw [pairs_len, ← HN.out]
        exact hown'
      have hS := newSet9 xs (w.heap.size + 1) wr (by rw [← HN.out]; exact hn) HV.out (RowIs.of_owns hown2) (fun o => hown2.frozenAt o) (hown2.lt _ rfl).2
      rw [← HN.out] at hS
      have cR : wr.cell? ⟨w.heap.size, 0, none⟩ = some (.slice none 0 0) := (hbel.cell (p := ⟨w.heap.size, 0, none⟩) (by show w.heap.size < _; omega)).trans (by simp)
      have fR : wr.frozen? ⟨w.heap.size, 0, none⟩ = false := (hbel.frozen (p := ⟨w.heap.size, 0, none⟩) (by show w.heap.size < _; omega)).trans (by simp)
      have hb0 : Below w.heap.size w wr := ((Below.refl _ _).alloc (Nat.le_refl _) _).trans (hbel.mono (by omega))
      have hzr := (hown2.lt _ rfl).2
      have HS : Hid (Calls Yba.prog 9 #[.slice (some ⟨w.heap.size + 1, 0, none⟩) j j] wr fun e w' =>
        ∃ S v, S.Perm xs ∧ Asc S ∧ e = .returned (.agg #[v]) ∧ w'.ownsRow wr.heap.size 31 2 v (merge S).length (runCells (merge S)) ∧ Below (w.heap.size + 1) wr w') := hS
      clear hS hown2 hown' hbel
      go_wp2_with fail
      refine HS.out.mono ?_
      clear HS
      rintro e w2 ⟨S, v, hp, ha, rfl, hown2, hbel2⟩
      have cR2 : w2.cell? ⟨w.heap.size, 0, none⟩ = some (.slice none 0 0) := (hbel2.cell (p := ⟨w.heap.size, 0, none⟩) (by show w.heap.size < _; omega)).trans cR
      have fR2 : w2.frozen? ⟨w.heap.size, 0, none⟩ = false := (hbel2.frozen (p := ⟨w.heap.size, 0, none⟩) (by show w.heap.size < _; omega)).trans fR
      obtain ⟨ao, cap, hv⟩ : ∃ ao cap, v = .slice ao (merge S).length cap := by
        rcases hown2.2 with ⟨e, h0⟩ | ⟨g, cap, _, e, _⟩
        · exact ⟨none, 0, by rw [h0]; exact e⟩
        · exact ⟨_, cap, e⟩
      rw [hv] at hown2 ⊢
      have HO : Hid (S.Perm xs ∧ Asc S ∧ w2.ownsRow wr.heap.size 31 2 (.slice ao (merge S).length cap) (merge S).length (runCells (merge S)) ∧ Below (w.heap.size + 1) wr w2) := ⟨hp, ha, hown2, hbel2⟩
      clear hp ha hown2 hbel2 hv
      go_wp2
      refine bodyPost_ret (v := .agg #[.slice ao (merge S).length cap]) (by simp [results, Yba.results6, go_sem, cR2]) rfl ⟨S, _, HO.out.1, HO.out.2.1, rfl, ?_, ?_⟩
      · exact owns_base (ownsRow_setCell_below HO.out.2.2.1 (by show w.heap.size < _; omega) _) (by omega)
      · exact (hb0.trans (HO.out.2.2.2.mono (by omega))).setCell (Nat.le_refl _) _
end Go.Proofs.Ybulkabna
