/-
  zzs1378bmodel: the sorted numbers, grouped.
-/
import Derived.Test.YbulkabnaSetOf
import Derived.Test.YbulkabnaLayS
import Derived.Deep.AppendLies
import Derived.Deep.RegionLaw
import Derived.BigQuiet
import Derived.Sort.OwnSortedInts
namespace Go.Proofs.Ybulkabna
open Go.RowKit Go.Sort

theorem asc_of_pairwise {S : List Int} (h : S.Pairwise fun a b => a ≤ b) : Asc S := fun i j hij hj => by
  have := List.pairwise_iff_getElem.1 h i j (by omega) hj hij
  simpa [List.getD, hj, show i < S.length by omega] using this
theorem pairwise_of_asc {S : List Int} (h : Asc S) : S.Pairwise fun a b => a ≤ b := by
  rw [List.pairwise_iff_getElem]
  intro i j hi hj hij
  have := h i j hij hj
  simpa [List.getD, hj, hi] using this
theorem asc_unique {S T xs : List Int} (hS : S.Perm xs) (aS : Asc S) (hT : T.Perm xs) (aT : Asc T) : S = T :=
  List.Perm.eq_of_pairwise (le := fun a b => a ≤ b) (fun _ _ _ _ h1 h2 => Int.le_antisymm h1 h2) (pairwise_of_asc aS) (pairwise_of_asc aT) (hS.trans hT.symm)
theorem asc_sort (xs : List Int) : Asc (xs.mergeSort fun x y => decide (x ≤ y)) := by
  refine asc_of_pairwise ?_
  have := List.pairwise_mergeSort (le := fun (x y : Int) => decide (x ≤ y)) (fun a b c h1 h2 => by simp at *; omega) (fun a b => by simp; omega) xs
  simpa using this

/-- slices.Sort in the walk's words. -/
theorem sort11 (xs : List Int) (g cap : Nat) (w : World) (hn : xs.length ≤ 1024) (hg : g < w.heap.size) (hc : ∀ j, j < xs.length → w.cell? ⟨g, j, none⟩ = some (.int .i64 (xs.getD j 0))) (hf : ∀ j, w.frozen? ⟨g, j, none⟩ = false) :
    Calls Yba.prog 11 #[.slice (some ⟨g, 0, none⟩) xs.length cap] w fun e w' =>
      e = .returned (.tuple #[]) ∧ ∃ Z : List Int, Z.Perm xs ∧ Asc Z ∧ (∀ j, j < Z.length → w'.cell? ⟨g, j, none⟩ = some (.int .i64 (Z.getD j 0))) ∧ w.grownBy w' (some g) := by
  have hH : Holds (Value.int .i64) w g 0 xs.toArray := fun j hj => by
    have hj' : j < xs.length := by simpa using hj
    refine ⟨?_, by simpa using hf (0 + j)⟩
    have : xs.toArray[j]! = xs.getD j 0 := by simp [List.getD, hj']
    rw [this]
    simpa using hc j hj'
  refine (Yba.slices_Sort_int g 0 cap xs w hH hg (by omega)).mono ?_
  rintro e w' ⟨rfl, q, os, rfl⟩
  have hl : (xs.mergeSort fun x y => decide (x ≤ y)).length = xs.length := by simp
  refine ⟨rfl, _, List.mergeSort_perm _ _, asc_sort xs, fun j hj => ?_, grownBy_sortedI _⟩
  have h2 : Holds (Value.int .i64) (putRow (Value.int .i64) (Sort.ahead w q) g 0 (xs.mergeSort fun x y => decide (x ≤ y)).toArray) g 0 (xs.mergeSort fun x y => decide (x ≤ y)).toArray :=
    holds_putRow _ _ _ _ xs.toArray _ hH (by simp)
  have h3 := holds_grow _ _ os g 0 _ (by simpa [putRow, mapBlock, Sort.ahead] using hg) h2 j (by simpa using hj)
  have e : (xs.mergeSort fun x y => decide (x ≤ y)).toArray[j]! = (xs.mergeSort fun x y => decide (x ≤ y)).getD j 0 := by simp [List.getD]
  rw [e] at h3
  simpa using h3.1

/-- The boundary: a new run begins at i. -/
def Bd (Z : List Int) (i : Nat) : Prop := i < Z.length → merge (Z.take (i + 1)) = merge (Z.take i) ++ [(Z.getD i 0, Z.getD i 0)]
theorem bd_zero (Z : List Int) : Bd Z 0 := fun h => by rw [merge_take h]; simp [merge_nil, step_nil]
theorem run_more {Z : List Int} {i j : Nat} (ha : Asc Z) (hj : j + 1 < Z.length) (h : merge (Z.take (j + 1)) = merge (Z.take i) ++ [(Z.getD i 0, Z.getD j 0)]) (hle : Z.getD (j + 1) 0 ≤ Z.getD j 0 + 1) :
    merge (Z.take (j + 1 + 1)) = merge (Z.take i) ++ [(Z.getD i 0, Z.getD (j + 1) 0)] := by
  rw [merge_take hj, h, step_in _ _ _ _ hle]
  have := ha j (j + 1) (by omega) hj
  rw [show max (Z.getD j 0) (Z.getD (j + 1) 0) = Z.getD (j + 1) 0 by omega]
theorem run_end {Z : List Int} {i j : Nat} (h : merge (Z.take (j + 1)) = merge (Z.take i) ++ [(Z.getD i 0, Z.getD j 0)]) (hlt : j + 1 < Z.length → Z.getD j 0 + 1 < Z.getD (j + 1) 0) : Bd Z (j + 1) := fun hj => by
  rw [merge_take hj, h, step_out _ _ _ _ (by have := hlt hj; omega)]; simp

/-- Where the model's outer loop stands. -/
structure Mo (w2 : World) (Z : List Int) (i : Nat) (v : Value) (wr : World) : Prop where
  bd : Bd Z i
  own : wr.ownsRow w2.heap.size 31 2 v (merge (Z.take i)).length (runCells (merge (Z.take i)))
  bel : Below w2.heap.size w2 wr
theorem Mo.shape {w2 wr : World} {Z : List Int} {j : Nat} {v : Value} (h : Mo w2 Z j v wr) : ∃ ao cap, v = .slice ao (merge (Z.take j)).length cap := by
  rcases h.own.2 with ⟨e, h0⟩ | ⟨g, cap, _, e, _⟩
  · exact ⟨none, 0, by rw [h0]; exact e⟩
  · exact ⟨_, cap, e⟩

theorem Mo.next {w2 Wo w' : World} {Z : List Int} {ii j k m : Nat} {v v' : Value} {x y : Int} {o : Obj} (h : Mo w2 Z ii v Wo) (hm : m = (merge (Z.take ii)).length) (hr : merge (Z.take (j + 1)) = merge (Z.take ii) ++ [(y, x)]) (hb : Bd Z (j + 1))
    (hown : w'.ownsRow w2.heap.size 31 2 v' (m + 1) (runCells (merge (Z.take ii)) ++ [.int .i64 y, .int .i64 x])) (hg : ((Wo.drewN k).alloc o).grownBy w' v.ownBlock) : Mo w2 Z (j + 1) v' w' := by
  refine ⟨hb, ?_, ?_⟩
  · rw [hr, runCells_app, List.length_append, ← hm]; exact hown
  · exact ((below_drewN h.bel k).alloc h.bel.size o).grown hg (by have := h.bel.size; show _ ≤ ((Wo.heap.push o).size); simp; omega) (fun t ht => (h.own.lt t ht).1)

set_option maxRecDepth 100000 in
set_option maxHeartbeats 2000000 in
theorem model7 (xs : List Int) (cb : Nat) (w : World) (hn : xs.length ≤ 1024) (hpos : 0 < xs.length) (hv : ∀ x ∈ xs, -32768 ≤ x ∧ x ≤ 32767) (hc : ∀ j, j < xs.length → w.cell? ⟨cb, j, none⟩ = some (.int .i64 (xs.getD j 0))) :
    Calls Yba.prog 7 #[.slice (some ⟨cb, 0, none⟩) xs.length xs.length] w fun e w' =>
      ∃ Z v, Z.Perm xs ∧ Asc Z ∧ e = .returned v ∧ w'.ownsRow w.heap.size 31 2 v (merge Z).length (runCells (merge Z)) ∧ Below w.heap.size w w' := by
  obtain ⟨i0, hi, hz0, hz1, hz2⟩ := info_parts info31
  have HC0 := Yba.slices_Clone_int cb 0 xs.length xs.length xs w (Nat.le_refl _) (by omega) (fun j hj => by simpa using hc j hj)
  rw [List.take_length] at HC0
  obtain ⟨n, hxn⟩ : ∃ n, n = xs.length := ⟨_, rfl⟩
  rw [← hxn] at hn hpos HC0 ⊢
  have HN : Hid (n = xs.length) := hxn
  have HV : Hid (∀ x ∈ xs, -32768 ≤ x ∧ x ≤ 32767) := hv
  have HC : Hid (Calls Yba.prog 10 #[.slice (some ⟨cb, 0, none⟩) n n] w fun e w' => ∃ v', e = .returned v' ∧ w'.ownsRow w.heap.size 3 1 v' n (xs.map (Value.int .i64)) ∧ v' ≠ .slice none 0 0 ∧ Below w.heap.size w w') := HC0
  clear hv hc HC0 hxn
  go_enter Yba.func7, Yba.ntmps7
  go_wp2_with fail
  refine HC.out.mono ?_
  clear HC
  rintro e w1 ⟨v', rfl, hown, _, hb1⟩
  obtain ⟨g, c1, rfl, hg1, hg2⟩ := hown.form hpos
  have hS := sort11 xs g c1 w1 (by rw [← HN.out]; exact hn) hg2 (fun j hj => by rw [hown.cellAt j (by rw [HN.out]; omega)]; simp [List.getD, hj]) (fun j => hown.frozenAt j)
  rw [← HN.out] at hS
  have HS : Hid (Calls Yba.prog 11 #[.slice (some ⟨g, 0, none⟩) n c1] w1 fun e w' =>
      e = .returned (.tuple #[]) ∧ ∃ Z : List Int, Z.Perm xs ∧ Asc Z ∧ (∀ j, j < Z.length → w'.cell? ⟨g, j, none⟩ = some (.int .i64 (Z.getD j 0))) ∧ w1.grownBy w' (some g)) := hS
  clear hS hown
  go_wp2_with fail
  refine HS.out.mono ?_
  clear HS
  rintro e w2 ⟨rfl, Z, hp, ha, hcZ, hgr⟩
  have hb2 : Below w.heap.size w w2 := hb1.grown hgr hb1.size (fun k hk => by cases hk; exact hg1)
  have hg3 : g < w2.heap.size := Nat.lt_of_lt_of_le hg2 hgr.size
  have hlZ : Z.length = n := by rw [hp.length_eq, ← HN.out]
  have HZ : Hid (Z.Perm xs ∧ Asc Z ∧ (∀ j, j < Z.length → w2.cell? ⟨g, j, none⟩ = some (.int .i64 (Z.getD j 0))) ∧ Z.length = n) := ⟨hp, ha, hcZ, hlZ⟩
  have KEEP : Hid (∀ wr, Below w2.heap.size w2 wr → ∀ j, j < n → wr.cell? ⟨g, j, none⟩ = some (.int .i64 (Z.getD j 0)) ∧ -32768 ≤ Z.getD j 0 ∧ Z.getD j 0 ≤ 32767) := fun wr hb j hj => by
    refine ⟨(hb.cell (p := ⟨g, j, none⟩) hg3).trans (HZ.out.2.2.1 j (by rw [HZ.out.2.2.2]; exact hj)), ?_⟩
    refine HV.out _ (HZ.out.1.mem_iff.1 ?_)
    simp [List.getD, show j < Z.length by rw [HZ.out.2.2.2]; exact hj]
  clear hp ha hcZ hgr hlZ hb1 hg2
  go_wp2
  go_loopg [4, 6] n (fun k out i wr => ∃ ii : Nat, ii + k = n ∧ i = .int .i64 ii ∧ Mo w2 Z ii out wr)
  case atStart =>
    refine ⟨0, by omega, rfl, bd_zero Z, ?_, Below.refl _ _⟩
    simpa [merge_nil, runCells] using World.ownsRow_nil _ _ _ _
  case round =>
    obtain ⟨ii, hii, rfl, hmo⟩ := hrel
    obtain ⟨ao, cap, rfl⟩ := hmo.shape
    by_cases hlt : ii < n
    · have HMO : Hid (Mo w2 Z ii (.slice ao (merge (Z.take ii)).length cap) wr) := hmo
      obtain ⟨m, hm⟩ : ∃ m, m = (merge (Z.take ii)).length := ⟨_, rfl⟩
      rw [← hm] at HMO ⊢
      have HM : Hid (m = (merge (Z.take ii)).length) := hm
      have hgr : g < wr.heap.size := Nat.lt_of_lt_of_le hg3 hmo.bel.size
      clear hm hmo
      go_wp2
      rename World => Wo
      go_loopg [7] (n - ii) (fun k jv wx => ∃ j q : Nat, ii ≤ j ∧ j < n ∧ k = n - j ∧ jv = .int .i64 j ∧ merge (Z.take (j + 1)) = merge (Z.take ii) ++ [(Z.getD ii 0, Z.getD j 0)] ∧ wx = Wo.drewN q)
      case atStart => exact ⟨ii, 0, by omega, hlt, rfl, rfl, HMO.out.bd (by rw [HZ.out.2.2.2]; exact hlt), rfl⟩
      case round =>
        obtain ⟨j, q, hj1, hj2, rfl, rfl, hrun, rfl⟩ := hrel
        obtain ⟨cj, hx1, hx2⟩ := KEEP.out Wo HMO.out.bel j hj2
        obtain ⟨ci, hy1, hy2⟩ := KEEP.out Wo HMO.out.bel ii hlt
        have HRUN0 : Hid (merge (Z.take (j + 1)) = merge (Z.take ii) ++ [(Z.getD ii 0, Z.getD j 0)]) := hrun
        have HRUN : Hid (merge (Z.take (j + 1)) = merge (Z.take ii) ++ [(Z.getD ii 0, Z.getD j 0)]) := hrun
        obtain ⟨x, hx⟩ : ∃ x, x = Z.getD j 0 := ⟨_, rfl⟩
        obtain ⟨y, hy⟩ : ∃ y, y = Z.getD ii 0 := ⟨_, rfl⟩
        rw [← hx] at cj hx1 hx2
        rw [← hy] at ci hy1 hy2
        rw [← hx, ← hy] at HRUN
        have HXY : Hid (x = Z.getD j 0 ∧ y = Z.getD ii 0) := ⟨hx, hy⟩
        clear hx hy hrun
        have K1 : Hid (∀ k, ((Wo.drewN k).alloc (.cells #[.int .i64 y, .int .i64 x] 31)).ownsRow w2.heap.size 31 2 (.slice ao m cap) m (runCells (merge (Z.take ii)))) := fun k => by
          have := HMO.out.own.alloc (.cells #[.int .i64 y, .int .i64 x] 31)
          rw [← HM.out] at this
          exact this
        have K2 : Hid (∀ k t u, [Value.int .i64 y, .int .i64 x][t]? = some u → ((Wo.drewN k).alloc (.cells #[.int .i64 y, .int .i64 x] 31)).cell? ((⟨Wo.heap.size, 0, none⟩ : Addr).add t) = some u) := fun k t u hu => cell_two_new (Wo.drewN k) _ _ 31 t u hu
        have K3 : Hid (∀ u ∈ [Value.int .i64 y, .int .i64 x], u.oneCell' = true) := fun u hu => by simp at hu; rcases hu with rfl | rfl <;> rfl
        have K4 : Hid (m + 1 ≤ maxLen ∧ (m + 1) * 16 ≤ 140737488355328) := by
          have h1 := merge_len (Z.take ii)
          rw [← HM.out] at h1
          have : (Z.take ii).length ≤ n := by simp; omega
          exact ⟨by unfold maxLen; omega, by omega⟩
        have K5 : Hid (∀ k, w2.heap.size ≤ ((Wo.drewN k).alloc (.cells #[.int .i64 y, .int .i64 x] 31)).heap.size) := fun k => by
          have := HMO.out.bel.size
          show _ ≤ (Wo.heap.push _).size
          simp; omega
        by_cases hnx : j + 1 < n
        · obtain ⟨cj', hz1', hz2'⟩ := KEEP.out Wo HMO.out.bel (j + 1) hnx
          have hjn : (j : Int) + 1 < (n : Int) := by omega
          have hwj : IntKind.i64.wrap ((j : Int) + 1) = (j : Int) + 1 := by rw [IntKind.wrap_i64]; omega
          have hwx : IntKind.i64.wrap (x + 1) = x + 1 := by rw [IntKind.wrap_i64]; omega
          have HZJ : Hid (j + 1 < Z.length) := by show j + 1 < Z.length; rw [HZ.out.2.2.2]; exact hnx
          have hle : x ≤ Z.getD (j + 1) 0 := by rw [HXY.out.1]; exact HZ.out.2.1 j (j + 1) (by omega) HZJ.out
          obtain ⟨z, hz⟩ : ∃ z, z = Z.getD (j + 1) 0 := ⟨_, rfl⟩
          rw [← hz] at cj' hz1' hz2' hle
          have HZZ : Hid (z = Z.getD (j + 1) 0) := hz
          clear hz
          by_cases hc1 : z ≤ x + 1
          · have HMORE : Hid (merge (Z.take (j + 1 + 1)) = merge (Z.take ii) ++ [(Z.getD ii 0, Z.getD (j + 1) 0)]) := run_more HZ.out.2.1 HZJ.out HRUN0.out (by rw [← HZZ.out, ← HXY.out.1]; exact hc1)
            by_cases hc2 : z = x
            · subst hc2
              go_upto_region 8 with fail
              go_quiet (fail)
              go_wp2
              go_roundg (n - (j + 1))
              case rel => exact ⟨j + 1, _, by omega, hnx, rfl, by go_num, HMORE.out, rfl⟩
              case measure => omega
            · obtain rfl : z = x + 1 := by omega
              clear hc2 hc1 hle
              have hq : (x + 1 == x) = false := by simp; try omega
              go_upto_region 8 with fail

              go_quiet (fail)
              go_wp2
              go_roundg (n - (j + 1))
              case rel => exact ⟨j + 1, _, by omega, hnx, rfl, by go_num, HMORE.out, rfl⟩
              case measure => omega
          · have HE : Hid (Bd Z (j + 1)) := run_end HRUN0.out (fun _ => by rw [← HZZ.out, ← HXY.out.1]; omega)
            have hc2 : (z == x) = false := by simp; omega
            have hc3 : (z == x + 1) = false := by simp; omega
            clear hc1 hle
            go_upto_region 8 with fail
            go_quiet (fail)
            go_upto_region 10 with fail
            go_region_law (refine step_append_lies _ rfl (.tmp 49) (.tmp 59) 25 rfl w2.heap.size 31 i0 (.agg #[.int .i64 0, .int .i64 0]) 2 16 Yba.underlying25 hi hz0 hz1 hz2 rfl (by decide) _ m (runCells (merge (Z.take ii))) rfl (K1.out _) ⟨Wo.heap.size, 0, none⟩ 1 1 [.int .i64 y, .int .i64 x] rfl rfl (K2.out _) K3.out (by decide) K4.out.1 K4.out.2 (K5.out _) _ rfl ?_; intro g2 cap2 w4 hown2 hgrow _ _)
            all_goals
              have hmo2 := HMO.out.next HM.out HRUN.out HE.out hown2 hgrow
              have HMO2 : Hid (Mo w2 Z (j + 1) (.slice (some ⟨g2, 0, none⟩) (m + 1) cap2) w4) := hmo2
              clear hmo2 hown2 hgrow
              go_wp2
              go_roundg (n - (j + 1))
              case rel => exact ⟨j + 1, by omega, by go_num, HMO2.out⟩
              case measure => omega
        · have hjn : ¬ ((j : Int) + 1 < (n : Int)) := by omega
          have HE : Hid (Bd Z (j + 1)) := run_end HRUN0.out (fun hh => absurd hh (by rw [HZ.out.2.2.2]; omega))
          go_upto_region 8 with fail
          go_quiet (fail)
          go_upto_region 10 with fail
          go_region_law (refine step_append_lies _ rfl (.tmp 49) (.tmp 59) 25 rfl w2.heap.size 31 i0 (.agg #[.int .i64 0, .int .i64 0]) 2 16 Yba.underlying25 hi hz0 hz1 hz2 rfl (by decide) _ m (runCells (merge (Z.take ii))) rfl (K1.out _) ⟨Wo.heap.size, 0, none⟩ 1 1 [.int .i64 y, .int .i64 x] rfl rfl (K2.out _) K3.out (by decide) K4.out.1 K4.out.2 (K5.out _) _ rfl ?_; intro g2 cap2 w4 hown2 hgrow _ _)
          all_goals
            have hmo2 := HMO.out.next HM.out HRUN.out HE.out hown2 hgrow
            have HMO2 : Hid (Mo w2 Z (j + 1) (.slice (some ⟨g2, 0, none⟩) (m + 1) cap2) w4) := hmo2
            clear hmo2 hown2 hgrow
            go_wp2
            go_roundg (n - (j + 1))
            case rel => exact ⟨j + 1, by omega, by go_num, HMO2.out⟩
            case measure => omega
    · obtain rfl : ii = n := by omega
      have HMO : Hid (Mo w2 Z ii (.slice ao (merge (Z.take ii)).length cap) wr) := hmo
      obtain ⟨m, hm⟩ : ∃ m, m = (merge (Z.take ii)).length := ⟨_, rfl⟩
      rw [← hm] at HMO ⊢
      have HM : Hid (m = (merge (Z.take ii)).length) := hm
      clear hm hmo
      go_wp2
      go_ret
      have e : Z.take ii = Z := by rw [← HZ.out.2.2.2]; simp
      have ho := HMO.out.own
      have hm' := HM.out
      rw [e] at ho hm'
      rw [hm'] at ho ⊢
      refine ⟨Z, _, HZ.out.1, HZ.out.2.1, rfl, owns_base ho hb2.size, hb2.trans (HMO.out.bel.mono hb2.size)⟩
end Go.Proofs.Ybulkabna
