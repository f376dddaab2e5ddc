/-
  newSet: what stands around the walk: the cells of runs; the sort's call in the walk's own words.
-/
import Derived.Test.YbulkabnaSort
import Derived.Test.YbulkabnaPlain
namespace Go.Proofs.Ybulkabna
open Go.Shelf Go.RowKit Go.Lib Go.Sort

def runCells : List (Int × Int) → List Value
  | [] => []
  | p :: R => .int .i64 p.1 :: .int .i64 p.2 :: runCells R
theorem runCells_length : ∀ R, (runCells R).length = R.length * 2
  | [] => rfl
  | p :: R => by simp [runCells, runCells_length R]; omega
theorem runCells_app : ∀ R Q, runCells (R ++ Q) = runCells R ++ runCells Q
  | [], _ => rfl
  | p :: R, Q => by simp [runCells, runCells_app R Q]
theorem runCells_fst : ∀ (R : List (Int × Int)) (i : Nat), i < R.length → (runCells R)[i * 2]? = some (.int .i64 (R.getD i (0, 0)).1)
  | p :: R, 0, _ => by simp [runCells]
  | p :: R, i + 1, h => by
    have := runCells_fst R i (by simpa using h)
    simp only [runCells, List.getD_cons_succ]
    rw [show (i + 1) * 2 = i * 2 + 1 + 1 by omega]
    simpa using this
theorem runCells_snd : ∀ (R : List (Int × Int)) (i : Nat), i < R.length → (runCells R)[i * 2 + 1]? = some (.int .i64 (R.getD i (0, 0)).2)
  | p :: R, 0, _ => by simp [runCells]
  | p :: R, i + 1, h => by
    have := runCells_snd R i (by simpa using h)
    simp only [runCells, List.getD_cons_succ]
    rw [show (i + 1) * 2 + 1 = i * 2 + 1 + 1 + 1 by omega]
    simpa using this
theorem runCells_set (R0 : List (Int × Int)) (f l m : Int) : (runCells (R0 ++ [(f, l)])).set (R0.length * 2 + 1) (.int .i64 m) = runCells (R0 ++ [(f, m)]) := by
  rw [runCells_app, runCells_app, List.set_append_right _ _ (by rw [runCells_length]; omega), runCells_length]
  simp [runCells]

def pairs (xs : List Int) : List (Int × Int) := xs.map fun x => (x, x)

/-- A row of runs, by its cells. -/
def RowIs (w : World) (blk : Nat) (R : List (Int × Int)) : Prop :=
  ∀ i, i < R.length → w.cell? ⟨blk, i * 2, none⟩ = some (.int .i64 (R.getD i (0, 0)).1) ∧ w.cell? ⟨blk, i * 2 + 1, none⟩ = some (.int .i64 (R.getD i (0, 0)).2)
theorem RowIs.of_owns {w : World} {base g cap : Nat} {R : List (Int × Int)} (h : w.ownsRow base 31 2 (.slice (some ⟨g, 0, none⟩) R.length cap) R.length (runCells R)) : RowIs w g R := fun i hi =>
  ⟨by rw [h.cellAt (i * 2) (by omega)]; exact runCells_fst R i hi, by rw [h.cellAt (i * 2 + 1) (by omega)]; exact runCells_snd R i hi⟩

theorem holds_of_row {w : World} {blk : Nat} {R : List (Int × Int)} (h : RowIs w blk R) (hf : ∀ j, w.frozen? ⟨blk, j, none⟩ = false) : HoldsK encRun 2 w blk 0 R.toArray := by
  intro t ht
  have ht' : t < R.length * 2 := by simpa using ht
  rw [get_flatK _ _ _ t (by simpa using ht')]
  have hq : t / 2 < R.length := by omega
  obtain ⟨h1, h2⟩ := h (t / 2) hq
  refine ⟨?_, by simpa using hf (0 + t)⟩
  have hg : R.toArray[t / 2]! = R.getD (t / 2) (0, 0) := by simp [List.getD, hq]
  rw [hg]
  rcases Nat.mod_two_eq_zero_or_one t with e | e
  · rw [show (0 + t) = t / 2 * 2 by omega, h1, e]; rfl
  · rw [show (0 + t) = t / 2 * 2 + 1 by omega, h2, e]; rfl

theorem row_of_holds {w : World} {blk : Nat} {d : Array (Int × Int)} (h : HoldsK encRun 2 w blk 0 d) : RowIs w blk d.toList := by
  intro i hi
  have hi' : i < d.size := by simpa using hi
  have a := (h.cell (i := i) (c := 0) hi' (by omega)).1
  have b := (h.cell (i := i) (c := 1) hi' (by omega)).1
  have hg : d[i]! = d.toList.getD i (0, 0) := by simp [List.getD, hi']
  rw [hg] at a b
  exact ⟨by simpa [encRun] using a, by simpa [encRun] using b⟩

theorem sorted_list {n : Nat} {xs : List Int} (hn : xs.length = n) {d' : Array (Int × Int)} (hp : PermIn 0 n (pairs xs).toArray d') (hs : SortedIn ltRun 0 n d') :
    ∃ S : List Int, S.Perm xs ∧ Asc S ∧ d'.toList = pairs S := by
  subst hn
  obtain ⟨h1, _, h3⟩ := hp
  have hsz : d'.size = xs.length := by rw [h1]; simp [pairs]
  have hperm : d'.toList.Perm (pairs xs) := by
    have e1 : (d'.extract 0 xs.length) = d' := by rw [← hsz]; simp
    have e2 : ((pairs xs).toArray.extract 0 xs.length) = (pairs xs).toArray := by
      have : (pairs xs).toArray.size = xs.length := by simp [pairs]
      rw [← this]; simp
    rw [e1, e2] at h3
    simpa using h3
  have hall : ∀ p ∈ d'.toList, p = (p.1, p.1) := by
    intro p hp
    have := hperm.mem_iff.1 hp
    simp only [pairs, List.mem_map] at this
    obtain ⟨x, _, rfl⟩ := this
    rfl
  refine ⟨d'.toList.map (·.1), ?_, ?_, ?_⟩
  · have := hperm.map (·.1)
    simpa [pairs, Function.comp_def] using this
  · intro i j hij hj
    have hj' : j < d'.size := by simpa using hj
    have := hs i j (Nat.zero_le _) hij (by omega)
    simp only [ltRun, decide_eq_false_iff_not] at this
    have a : (d'.toList.map (·.1)).getD i 0 = d'[i]!.1 := by simp [List.getD, show i < d'.size by omega]
    have b : (d'.toList.map (·.1)).getD j 0 = d'[j]!.1 := by simp [List.getD, hj']
    rw [a, b]
    omega
  · unfold pairs
    rw [List.map_map]
    conv => lhs; rw [← List.map_id d'.toList]
    exact List.map_congr_left fun p hp => hall p hp

theorem grown_sorted {w : World} {g n : Nat} {os : Array Obj} (d : Array (Int × Int)) : w.grownBy (grow (putRowK encRun 2 (Sort.ahead w n) g 0 d) os) (some g) := by
  refine ⟨rfl, rfl, rfl, by simp [grow, putRowK, putRow, mapBlock, Sort.ahead], fun k hk hne => ?_⟩
  have hgk : g ≠ k := fun e => hne (by rw [e])
  show (_ ++ os)[k]? = _
  rw [Array.getElem?_append_left (by simpa [putRowK, putRow, mapBlock, Sort.ahead] using hk)]
  simp [putRowK, putRow, mapBlock, Sort.ahead, Array.getElem?_modify, hgk]
theorem grown_grow {w : World} {os : Array Obj} (g : Option Nat) : w.grownBy (grow w os) g := by
  refine ⟨rfl, rfl, rfl, by simp [grow], fun k hk _ => ?_⟩
  show (w.heap ++ os)[k]? = _
  rw [Array.getElem?_append_left hk]

/-- THE SORT's CALL. -/
theorem sorted13 (xs : List Int) (blk c Bs : Nat) (hn : xs.length ≤ 1024) (w : World) (hrow : RowIs w blk (pairs xs)) (hfz : ∀ j, w.frozen? ⟨blk, j, none⟩ = false) (hblk : blk < w.heap.size)
    (hBs : w.cell? ⟨Bs, 0, none⟩ = some (.slice (some ⟨blk, 0, none⟩) xs.length c)) (hB1 : Bs < w.heap.size) (hB2 : Bs ≠ blk) :
    Calls Yba.prog 13 #[.iface 25 (.slice (some ⟨blk, 0, none⟩) xs.length c), .func (.func 14) #[] #[.pointer (some ⟨Bs, 0, none⟩)]] w fun e w' =>
      e = .returned (.tuple #[]) ∧ ∃ S : List Int, S.Perm xs ∧ Asc S ∧ RowIs w' blk (pairs S) ∧ w.grownBy w' (some blk) := by
  have hps : (pairs xs).length = xs.length := by simp [pairs]
  by_cases h2 : 2 ≤ xs.length
  · have hd : (pairs xs).toArray.size = xs.length := by simp [pairs]
    have hH := holds_of_row hrow hfz
    have hS := sort13 blk c Bs (pairs xs).toArray (by rw [hd]; exact h2) (by rw [hd]; omega) w hH hblk (by rw [hd]; exact hBs) hB1 hB2
    rw [hd] at hS
    refine hS.mono ?_
    rintro e w' ⟨rfl, d', n, os, hp, hs, rfl⟩
    obtain ⟨S, h1, h3, h4⟩ := sorted_list rfl hp hs
    have hz : d'.size = (pairs xs).toArray.size := hp.1
    refine ⟨rfl, S, h1, h3, ?_, grown_sorted d'⟩
    rw [← h4]
    have hHa : HoldsK encRun 2 (Sort.ahead w n) blk 0 (pairs xs).toArray := holdsK_ahead _ _ _ _ _ _ _ hH
    refine row_of_holds (holdsK_grow _ _ _ _ blk 0 d' (by simpa [putRowK, putRow, mapBlock, Sort.ahead] using hblk) (holdsK_putRowK _ _ _ blk 0 (pairs xs).toArray d' hHa hz))
  · refine (sort13_tiny (some ⟨blk, 0, none⟩) xs.length c Bs (by omega) w).mono ?_
    rintro e w' ⟨rfl, os, rfl⟩
    refine ⟨rfl, xs, List.Perm.refl _, fun i j hij hj => absurd hj (by omega), fun i hi => ?_, grown_grow _⟩
    rw [cell?_grow _ _ _ (by exact hblk), cell?_grow _ _ _ (by exact hblk)]
    exact hrow i hi
end Go.Proofs.Ybulkabna
