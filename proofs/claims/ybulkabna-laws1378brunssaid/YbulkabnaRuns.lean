/-
  LawS1378BRuns: the walk.
-/
import Derived.Test.YbulkabnaModel
namespace Go.Proofs.Ybulkabna
open Go.RowKit

set_option maxRecDepth 100000 in
set_option maxHeartbeats 400000 in
theorem model7_zero (a : Addr) (c : Nat) (w : World) : Calls Yba.prog 7 #[.slice (some a) 0 c] w fun e w' => e = .returned (.slice none 0 0) ∧ Below w.heap.size w w' := by
  go_enter Yba.func7, Yba.ntmps7
  go_wp2_with fail
  refine (Yba.slices_Clone_int_zero a c w).mono ?_
  rintro e w1 ⟨v', rfl, hown, _, hb1⟩
  obtain ⟨ao, c2, hv⟩ : ∃ ao c2, v' = .slice ao 0 c2 := by
    rcases hown.2 with ⟨e, _⟩ | ⟨g, c2, _, e, _⟩
    · exact ⟨none, 0, e⟩
    · exact ⟨_, c2, e⟩
  rw [hv]
  clear hv hown
  go_wp2_with fail
  refine (Yba.slices_Sort_int_none ao c2 w1).mono ?_
  rintro e w2 ⟨rfl, rfl⟩
  go_wp2
  refine wp_loop_rounds 1 ?_
  rw [rounds_succ]
  go_wp2
  go_ret
  exact ⟨rfl, hb1⟩

set_option maxRecDepth 100000 in
set_option maxHeartbeats 400000 in
theorem law3_zero (a : Option Addr) (cap : Nat) (w : World) : Calls Yba.prog 3 #[.slice a 0 cap] w fun e w' => e = .returned (.bool true) ∧ Below w.heap.size w w' := by
  go_enter Yba.func3, Yba.ntmps3
  go_wp2_with fail
  refine (ints5_none a cap _).mono ?_
  rintro e w1 ⟨rfl, hown, hb1⟩
  have hz1 := (hown.lt _ rfl).2
  clear hown
  go_wp2_with fail
  refine (setOf6 [] w.heap.size _ (by decide) (by simp) hz1 (fun j hj => absurd hj (by simp))).mono ?_
  rintro e w2 ⟨S, v, hp, ha, rfl, hown2, hb2⟩
  obtain rfl : S = [] := List.Perm.eq_nil hp
  obtain ⟨ao, c2, hv⟩ : ∃ ao c2, v = .slice ao 0 c2 := by
    rcases hown2.2 with ⟨e, _⟩ | ⟨g, c2, _, e, _⟩
    · exact ⟨none, 0, e⟩
    · exact ⟨_, c2, e⟩
  rw [hv]
  have hbw : Below w.heap.size w w2 := hb1.trans (hb2.mono hb1.size)
  have hbs := hbw.size
  clear hown2 hp ha hv hb1 hb2
  go_wp2_with fail
  refine (model7_zero _ _ _).mono ?_
  rintro e w3 ⟨rfl, hb3⟩
  have hb4 : Below w.heap.size w w3 := (hbw.alloc hbs _).trans (hb3.mono (by simp; omega))
  have cS : w3.cell? ⟨w2.heap.size, 0, none⟩ = some (.slice ao 0 c2) := (hb3.cell (p := ⟨w2.heap.size, 0, none⟩) (by show w2.heap.size < _; simp)).trans (by simp)
  have hq : w2.heap.size < w3.heap.size := Nat.lt_of_lt_of_le (by simp) hb3.size
  clear hbw hb3
  go_wp2
  refine wp_loop_rounds 1 ?_
  rw [rounds_succ]
  go_wp2
  go_ret
  exact ⟨rfl, hb4⟩

theorem law3_big (a : Option Addr) (n cap : Nat) (w : World) (h : 1024 < n) (hm : n ≤ maxLen) : Calls Yba.prog 3 #[.slice a n cap] w fun e w' => e = .returned (.bool true) ∧ Below w.heap.size w w' := by
  unfold maxLen at hm
  go_enter Yba.func3, Yba.ntmps3
  go_wp2
  go_ret
  exact ⟨rfl, Below.refl _ _⟩

set_option maxRecDepth 100000 in
set_option maxHeartbeats 2000000 in
theorem law3_core (xs : List Int) (cap b off : Nat) (w : World) (hn : xs.length ≤ 1024) (hpos : 0 < xs.length) (hb : b < w.heap.size)
    (hc : ∀ j, j < xs.length → w.cell? ⟨b, off + j, none⟩ = some (.int .i16 (xs.getD j 0))) (hv : ∀ j, j < xs.length → -32768 ≤ xs.getD j 0 ∧ xs.getD j 0 ≤ 32767) :
    Calls Yba.prog 3 #[.slice (some ⟨b, off, none⟩) xs.length cap] w fun e w' => e = .returned (.bool true) ∧ Below w.heap.size w w' := by
  obtain ⟨n, hxn⟩ : ∃ n, n = xs.length := ⟨_, rfl⟩
  have HI := ints5 xs cap b off w hn hpos hb hc hv
  have hvm : ∀ x ∈ xs, -32768 ≤ x ∧ x ≤ 32767 := fun x hx => by
    obtain ⟨i, hi, rfl⟩ := List.mem_iff_getElem.1 hx
    have := hv i hi
    simpa [List.getD, hi] using this
  rw [← hxn] at hn hpos HI ⊢
  have HN : Hid (n = xs.length) := hxn
  have HV : Hid (∀ x ∈ xs, -32768 ≤ x ∧ x ≤ 32767) := hvm
  have HII : Hid (Calls Yba.prog 5 #[.slice (some ⟨b, off, none⟩) n cap] w fun e w' =>
      e = .returned (.slice (some ⟨w.heap.size, 0, none⟩) n n) ∧ w'.ownsRow w.heap.size 3 1 (.slice (some ⟨w.heap.size, 0, none⟩) n n) n (ints xs) ∧ Below w.heap.size w w') := HI
  clear HI hxn hc hv hvm
  have h18 : decide ((1024 : Int) < (n : Int)) = false := by simp; omega
  go_enter Yba.func3, Yba.ntmps3
  go_wp2_with fail
  refine HII.out.mono ?_
  clear HII
  rintro e w1 ⟨rfl, hown, hb1⟩
  have hz1 := (hown.lt _ rfl).2
  have hcI : ∀ j, j < xs.length → w1.cell? ⟨w.heap.size, j, none⟩ = some (.int .i64 (xs.getD j 0)) := fun j hj => by
    rw [hown.cellAt j (by rw [HN.out]; omega)]; exact ints_at hj
  have HS := setOf6 xs w.heap.size w1 (by rw [← HN.out]; exact hn) HV.out hz1 hcI
  rw [← HN.out] at HS
  have HSS : Hid (Calls Yba.prog 6 #[.slice (some ⟨w.heap.size, 0, none⟩) n n] w1 fun e w' =>
      ∃ S v, S.Perm xs ∧ Asc S ∧ e = .returned (.agg #[v]) ∧ w'.ownsRow w1.heap.size 31 2 v (merge S).length (runCells (merge S)) ∧ Below w1.heap.size w1 w') := HS
  have HCI : Hid (∀ j, j < xs.length → w1.cell? ⟨w.heap.size, j, none⟩ = some (.int .i64 (xs.getD j 0))) := hcI
  clear HS hown hcI
  go_wp2_with fail
  refine HSS.out.mono ?_
  clear HSS
  rintro e w2 ⟨S, v, hp, ha, rfl, hown2, hb2⟩
  have hinv := inv_all ha
  obtain ⟨R, hR⟩ : ∃ R, R = merge S := ⟨_, rfl⟩
  rw [← hR] at hinv hown2
  have hL : 0 < R.length := by
    rcases hinv.shape with ⟨h0, _⟩ | ⟨R0, f, l, h0, _⟩
    · have := hp.length_eq; rw [h0, ← HN.out] at this; simp at this; omega
    · rw [h0]; simp
  have hLn : R.length ≤ n := by rw [hR, HN.out, ← hp.length_eq]; exact merge_len S
  obtain ⟨g, c2, hvs⟩ := slice_shape hown2 hL
  have hgl := hown2.lt
  rw [hvs] at hown2 hgl
  have hgw := (hgl g rfl)
  rw [hvs]
  have hrow : RowIs w2 g R := RowIs.of_owns hown2
  have hbw : Below w.heap.size w w2 := hb1.trans (hb2.mono hb1.size)
  have hz2 : w.heap.size < w2.heap.size := Nat.lt_of_lt_of_le hz1 hb2.size
  have hcI2 : ∀ j, j < xs.length → w2.cell? ⟨w.heap.size, j, none⟩ = some (.int .i64 (xs.getD j 0)) := fun j hj => (hb2.cell (p := ⟨w.heap.size, j, none⟩) hz1).trans (HCI.out j hj)
  have FACT : Hid (RowIs w2 g R ∧ (∀ j, j < xs.length → w2.cell? ⟨w.heap.size, j, none⟩ = some (.int .i64 (xs.getD j 0))) ∧ S.Perm xs ∧ Asc S ∧ R = merge S) := ⟨hrow, hcI2, hp, ha, hR⟩
  clear hrow hcI2 hinv hR hp ha hown2 hgl hvs HCI
  obtain ⟨m, hm⟩ : ∃ m, m = R.length := ⟨_, rfl⟩
  rw [← hm] at hL hLn ⊢
  have HM : Hid (m = R.length) := hm
  clear hm
  obtain ⟨W0, hW0⟩ : ∃ W0, W0 = w2.alloc (.cells #[.slice (some ⟨g, 0, none⟩) m c2] 27) := ⟨_, rfl⟩
  have hWz : W0.heap.size = w2.heap.size + 1 := by rw [hW0]; simp
  have hWb : Below w2.heap.size w2 W0 := by rw [hW0]; exact (Below.refl _ _).alloc (Nat.le_refl _) _
  have hmod := model7 xs w.heap.size W0 (by rw [← HN.out]; exact hn) (by rw [← HN.out]; exact hpos) HV.out (fun j hj => (hWb.cell (p := ⟨w.heap.size, j, none⟩) hz2).trans (FACT.out.2.1 j hj))
  rw [← HN.out] at hmod
  have HMOD : Hid (Calls Yba.prog 7 #[.slice (some ⟨w.heap.size, 0, none⟩) n n] (w2.alloc (.cells #[.slice (some ⟨g, 0, none⟩) m c2] 27)) fun e w' =>
      ∃ Z v, Z.Perm xs ∧ Asc Z ∧ e = .returned v ∧ w'.ownsRow W0.heap.size 31 2 v (merge Z).length (runCells (merge Z)) ∧ Below W0.heap.size W0 w') := by rw [← hW0]; exact hmod
  have cS0 : W0.cell? ⟨w2.heap.size, 0, none⟩ = some (.slice (some ⟨g, 0, none⟩) m c2) := by rw [hW0]; simp
  have rR0 : RowIs W0 g R := FACT.out.1.keep fun o => hWb.cell (p := ⟨g, o, none⟩) hgw.2
  have hb0 : Below w.heap.size w W0 := hbw.trans (hWb.mono hbw.size)
  have FACT2 : Hid (W0.cell? ⟨w2.heap.size, 0, none⟩ = some (.slice (some ⟨g, 0, none⟩) m c2) ∧ RowIs W0 g R ∧ Below w.heap.size w W0) := ⟨cS0, rR0, hb0⟩
  have hgz : g < W0.heap.size := by omega
  have hsz : w2.heap.size < W0.heap.size := by omega
  clear hmod cS0 rR0 hb0 hW0 hWb hWz hbw hb1 hb2 hgw
  go_wp2_with fail
  refine HMOD.out.mono ?_
  clear HMOD
  rintro e w3 ⟨Z, v3, hp3, ha3, rfl, hown3, hb3⟩
  obtain rfl : Z = S := asc_unique hp3 ha3 FACT.out.2.2.1 FACT.out.2.2.2.1
  rw [← FACT.out.2.2.2.2, ← HM.out] at hown3
  obtain ⟨g3, c3, hv3⟩ := slice_shape hown3 hL
  have hrow3 : RowIs w3 g3 R := RowIs.of_owns (by have := hown3; rw [hv3, HM.out] at this; exact this)
  have hlt3 := hown3.lt g3 (by rw [hv3]; rfl)
  rw [hv3]
  have cS : w3.cell? ⟨w2.heap.size, 0, none⟩ = some (.slice (some ⟨g, 0, none⟩) m c2) := (hb3.cell (p := ⟨w2.heap.size, 0, none⟩) hsz).trans FACT2.out.1
  have KEEP : Hid (∀ i, i < m → (w3.cell? ⟨g, i * 2, none⟩ = some (.int .i64 (R.getD i (0, 0)).1) ∧ w3.cell? ⟨g, i * 2 + 1, none⟩ = some (.int .i64 (R.getD i (0, 0)).2)) ∧ (w3.cell? ⟨g3, i * 2, none⟩ = some (.int .i64 (R.getD i (0, 0)).1) ∧ w3.cell? ⟨g3, i * 2 + 1, none⟩ = some (.int .i64 (R.getD i (0, 0)).2))) := fun i hi =>
    ⟨(FACT2.out.2.1.keep fun o => hb3.cell (p := ⟨g, o, none⟩) hgz) i (by rw [← HM.out]; exact hi), hrow3 i (by rw [← HM.out]; exact hi)⟩
  have HB : Hid (Below w.heap.size w w3) := FACT2.out.2.2.trans (hb3.mono FACT2.out.2.2.size)
  have hq1 : w2.heap.size < w3.heap.size := Nat.lt_of_lt_of_le hsz hb3.size
  have hq2 : g < w3.heap.size := Nat.lt_of_lt_of_le hgz hb3.size
  have hq3 := hlt3.2
  clear hp3 ha3 hown3 hb3 hv3 hrow3 hlt3 FACT FACT2
  go_wp2
  go_loopg [24] m (fun k i wr => ∃ j q : Nat, j + k = m ∧ i = .int .i64 j ∧ wr = w3.drewN q)
  case atStart => exact ⟨0, 0, by omega, rfl, rfl⟩
  case round =>
    obtain ⟨j, q, hj, rfl, rfl⟩ := hrel
    by_cases hlt : j < m
    · obtain ⟨⟨a1, a2⟩, ⟨a3, a4⟩⟩ := KEEP.out j hlt
      obtain ⟨f, hf⟩ : ∃ f, f = (R.getD j (0, 0)).1 := ⟨_, rfl⟩
      obtain ⟨l, hl⟩ : ∃ l, l = (R.getD j (0, 0)).2 := ⟨_, rfl⟩
      rw [← hf] at a1 a3
      rw [← hl] at a2 a4
      clear hf hl
      go_upto_region 11 with fail
      go_quiet (fail)
      go_wp2
      go_roundg (m - (j + 1))
      case rel => exact ⟨j + 1, _, by omega, by go_num, rfl⟩
      case measure => omega
    · obtain rfl : j = m := by omega
      go_wp2
      go_ret
      exact ⟨rfl, below_drewN HB.out q⟩
end Go.Proofs.Ybulkabna
