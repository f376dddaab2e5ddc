/-
  zzs1378bints: the raw numbers as ints, in a new row.
-/
import Derived.Test.YbulkabnaRows
import Derived.WalkKit
import Derived.WalkSpells
import Derived.WalkLawsBesides
import Derived.Below
import Derived.Deep.LoopGhost
namespace Go.Proofs.Ybulkabna
open Go.RowKit

theorem info3 : (Yba.prog.info? 3).map (fun i => (i.zero, i.size, i.bytes)) = some (some (.int .i64 0), 1, 8) := by kernel_rfl

/-- The first k cells are the new ones, the rest as they were. -/
def part (vs z : List Value) (k : Nat) : List Value := vs.take k ++ z.drop k
theorem part_zero (vs z : List Value) : part vs z 0 = z := by simp [part]
theorem part_all (vs z : List Value) {k : Nat} (h : vs.length = k) (hz : z.length = k) : part vs z k = vs := by
  subst h; simp [part, List.drop_of_length_le (Nat.le_of_eq hz)]
theorem part_step {vs z : List Value} {k : Nat} {u : Value} (hu : vs[k]? = some u) (hz : z.length = vs.length) : (part vs z k).set k u = part vs z (k + 1) := by
  obtain ⟨hk, e⟩ := List.getElem?_eq_some_iff.1 hu
  have hl : (vs.take k).length = k := by simp; omega
  unfold part
  rw [List.set_append_right _ _ (by omega), hl, Nat.sub_self]
  rw [List.drop_eq_getElem_cons (by omega : k < z.length), List.set_cons_zero, List.take_succ_eq_append_getElem hk, e]
  simp

/-- The cells of a row of ints. -/
def ints (xs : List Int) : List Value := xs.map (Value.int .i64)
theorem ints_at {xs : List Int} {k : Nat} (h : k < xs.length) : (ints xs)[k]? = some (.int .i64 (xs.getD k 0)) := by simp [ints, List.getD, h]

set_option maxRecDepth 100000 in
set_option maxHeartbeats 1000000 in
theorem ints5 (xs : List Int) (cap : Nat) (b off : Nat) (w : World) (hn : xs.length ≤ 1024) (hpos : 0 < xs.length) (hb : b < w.heap.size)
    (hc : ∀ j, j < xs.length → w.cell? ⟨b, off + j, none⟩ = some (.int .i16 (xs.getD j 0))) (hv : ∀ j, j < xs.length → -32768 ≤ xs.getD j 0 ∧ xs.getD j 0 ≤ 32767) :
    Calls Yba.prog 5 #[.slice (some ⟨b, off, none⟩) xs.length cap] w fun e w' =>
      e = .returned (.slice (some ⟨w.heap.size, 0, none⟩) xs.length xs.length) ∧ w'.ownsRow w.heap.size 3 1 (.slice (some ⟨w.heap.size, 0, none⟩) xs.length xs.length) xs.length (ints xs) ∧ Below w.heap.size w w' := by
  obtain ⟨i0, hi, hz0, hz1, hz2⟩ := info_parts info3
  obtain ⟨n, hxn⟩ : ∃ n, n = xs.length := ⟨_, rfl⟩
  rw [← hxn] at hn hpos ⊢
  have HC : Hid (∀ j, j < xs.length → w.cell? ⟨b, off + j, none⟩ = some (.int .i16 (xs.getD j 0)) ∧ -32768 ≤ xs.getD j 0 ∧ xs.getD j 0 ≤ 32767) := fun j hj => ⟨hc j hj, hv j hj⟩
  have HN : Hid (n = xs.length) := hxn
  clear hc hv hxn
  go_enter Yba.func5, Yba.ntmps5
  go_wp2_with (at_make; refine wpList_make_full _ rfl _ _ 23 rfl w.heap.size 3 i0 (.int .i64 0) 1 Yba.underlying23 hi hz0 hz1 .i64 .i64 _ _ n rfl rfl (by omega) (by omega) (by rw [hz2]; omega) (by unfold maxLen; omega) (Nat.le_refl _) ?_; intro w1 hown hgr)
  have hb1 : Below w.heap.size w w1 := (Below.refl _ _).grown hgr (Nat.le_refl _) (fun j hj => by cases hj)
  have HZ : Hid ((madeCells (Value.int .i64 0).cells (n * 1)).toList.length = (ints xs).length) := by
    show _ = _
    have h1 := hown.1
    rw [h1]; simp [ints, ← HN.out]
  obtain ⟨z, hz⟩ : ∃ z, z = (madeCells (Value.int .i64 0).cells (n * 1)).toList := ⟨_, rfl⟩
  rw [← hz] at hown HZ
  clear hz hgr hi hz0 hz1 hz2
  go_loopg [11] n (fun k i wr => ∃ j : Nat, j + k = n ∧ i = .int .i64 j ∧ wr.ownsRow w.heap.size 3 1 (.slice (some ⟨w.heap.size, 0, none⟩) n n) n (part (ints xs) z j) ∧ Below w.heap.size w wr)
  case atStart => exact ⟨0, by omega, rfl, by rw [part_zero]; exact hown, hb1⟩
  case round =>
    obtain ⟨j, hj, rfl, hown', hbel⟩ := hrel
    clear hown hb1
    by_cases hlt : j < n
    · obtain ⟨h1, h2, h3⟩ := HC.out j (by rw [← HN.out]; exact hlt)
      obtain ⟨x, hx⟩ : ∃ x, x = xs.getD j 0 := ⟨_, rfl⟩
      rw [← hx] at h1 h2 h3
      have hu : (ints xs)[j]? = some (.int .i64 x) := by rw [hx]; exact ints_at (by rw [← HN.out]; exact hlt)
      have HU : Hid ((ints xs)[j]? = some (.int .i64 x)) := hu
      clear hu hx
      have hcr : wr.cell? ⟨b, off + j, none⟩ = some (.int .i16 x) := (hbel.cell (p := ⟨b, off + j, none⟩) hb).trans h1
      obtain ⟨v0, hc0⟩ : ∃ v0, wr.cell? ⟨w.heap.size, j, none⟩ = some v0 := by
        have := hown'.cellAt j (by omega)
        rw [this]
        have hl : j < (part (ints xs) z j).length := by rw [hown'.1]; omega
        exact ⟨_, List.getElem?_eq_getElem hl⟩
      have hf0 := hown'.frozenAt j
      have hst := hown'.stored j (.int .i64 x)
      rw [part_step HU.out HZ.out] at hst
      have HS : Hid ((wr.setCell ⟨w.heap.size, j, none⟩ (.int .i64 x)).ownsRow w.heap.size 3 1 (.slice (some ⟨w.heap.size, 0, none⟩) n n) n (part (ints xs) z (j + 1))) := hst.1
      clear hst hown' h1
      go_wp2
      go_roundg (n - (j + 1))
      case rel => exact ⟨j + 1, by omega, by go_num, HS.out, hbel.setCell (Nat.le_refl _) _⟩
      case measure => omega
    · obtain rfl : j = n := by omega
      go_wp2
      go_ret
      exact ⟨rfl, by rw [part_all (ints xs) z (by simp [ints, ← HN.out]) (by rw [HZ.out]; simp [ints, ← HN.out])] at hown'; exact hown', hbel⟩

set_option maxHeartbeats 400000 in
theorem ints5_none (a : Option Addr) (cap : Nat) (w : World) :
    Calls Yba.prog 5 #[.slice a 0 cap] w fun e w' =>
      e = .returned (.slice (some ⟨w.heap.size, 0, none⟩) 0 0) ∧ w'.ownsRow w.heap.size 3 1 (.slice (some ⟨w.heap.size, 0, none⟩) 0 0) 0 (ints []) ∧ Below w.heap.size w w' := by
  obtain ⟨i0, hi, hz0, hz1, hz2⟩ := info_parts info3
  go_enter Yba.func5, Yba.ntmps5
  go_wp2_with (at_make; refine wpList_make_full _ rfl _ _ 23 rfl w.heap.size 3 i0 (.int .i64 0) 1 Yba.underlying23 hi hz0 hz1 .i64 .i64 _ _ 0 rfl rfl (by omega) (by omega) (by rw [hz2]; omega) (by unfold maxLen; omega) (Nat.le_refl _) ?_; intro w1 hown hgr)
  have hb1 : Below w.heap.size w w1 := (Below.refl _ _).grown hgr (Nat.le_refl _) (fun j hj => by cases hj)
  have hown' : w1.ownsRow w.heap.size 3 1 (.slice (some ⟨w.heap.size, 0, none⟩) 0 0) 0 (ints []) := by
    have h1 := hown.1
    have h2 : (madeCells (Value.int .i64 0).cells (0 * 1)).toList = [] := List.length_eq_zero_iff.1 (by rw [h1])
    rw [h2] at hown
    exact hown
  have HO : Hid (w1.ownsRow w.heap.size 3 1 (.slice (some ⟨w.heap.size, 0, none⟩) 0 0) 0 (ints [])) := hown'
  clear hown hown' hgr
  refine wp_loop_rounds 1 ?_
  rw [rounds_succ]
  go_wp2
  go_ret
  exact ⟨rfl, HO.out, hb1⟩
end Go.Proofs.Ybulkabna
