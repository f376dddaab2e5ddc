/-
  newSet's own call of sort.Slice: the runs become a sorted permutation of themselves.
-/
import Derived.Test.YbulkabnaLay
import Derived.Test.YbulkabnaInts
import Derived.Deep.QuietTactic
import Derived.BigQuiet
namespace Go.Proofs.Ybulkabna
open Go.Shelf Go.RowKit Go.Lib Go.Sort

def encRun (p : Int × Int) : List Value := [.int .i64 p.1, .int .i64 p.2]
def ltRun (a b : Int × Int) : Bool := decide (a.1 < b.1)
theorem swo_ltRun : SWO ltRun := ⟨fun x => by simp [ltRun], fun x y z h1 h2 => by simp [ltRun] at *; omega, fun x y z h1 h2 => by simp [ltRun] at *; omega⟩

theorem swapK (n : Nat) (h2 : 2 ≤ n) : Lib.swapperK n Yba.t31 25 = 9 := by
  have a : Yba.t31.hasPointers = false := by kernel_rfl
  have b : Yba.t31.bytes = 16 := by kernel_rfl
  have c : (n == 0) = false := by simp; omega
  have d : (n == 1) = false := by simp; omega
  simp [Lib.swapperK, a, b, c, d]
theorem swapK0 : Lib.swapperK 0 Yba.t31 25 = 1 := by kernel_rfl
theorem swapK1 : Lib.swapperK 1 Yba.t31 25 = 2 := by kernel_rfl

set_option maxHeartbeats 1000000 in
/-- newSet's closure. -/
theorem less14 (blk off c Bs size : Nat) (W : World) (G : Nat → Int) (hs : W.cell? ⟨Bs, 0, none⟩ = some (.slice (some ⟨blk, off, none⟩) size c))
    (hc : ∀ t, t < size → W.cell? ⟨blk, off + t * 2, none⟩ = some (.int .i64 (G t))) (i j : Nat) (hi : i < size) (hj : j < size) (_hsz : size < 4611686018427387904) :
    Calls Yba.prog 14 #[.int .i64 i, .int .i64 j, .pointer (some ⟨Bs, 0, none⟩)] W fun e w' => e = .returned (.bool (decide (G i < G j))) ∧ ∃ q, w' = W.drewN q := by
  have ci := hc i hi
  have cj := hc j hj
  go_enter Yba.func14, Yba.ntmps14
  go_wp2
  go_quiet (fail)
  go_wp2
  go_ret
  exact ⟨rfl, nq, rfl⟩

theorem sort13 (blk c Bs : Nat) (d : Array (Int × Int)) (h2 : 2 ≤ d.size) (hsz : d.size < 4611686018427387904) (w : World) (hH : HoldsK encRun 2 w blk 0 d) (hblk : blk < w.heap.size)
    (hBs : w.cell? ⟨Bs, 0, none⟩ = some (.slice (some ⟨blk, 0, none⟩) d.size c)) (hB1 : Bs < w.heap.size) (hB2 : Bs ≠ blk) :
    Calls Yba.prog 13 #[.iface 25 (.slice (some ⟨blk, 0, none⟩) d.size c), .func (.func 14) #[] #[.pointer (some ⟨Bs, 0, none⟩)]] w fun e w' =>
      e = .returned (.tuple #[]) ∧ ∃ d' n os, PermIn 0 d.size d d' ∧ SortedIn ltRun 0 d.size d' ∧ w' = grow (putRowK encRun 2 (Sort.ahead w n) blk 0 d') os := by
  have hless : LessReadsK Yba.prog 14 #[.pointer (some ⟨Bs, 0, none⟩)] encRun 2 ltRun blk 0 d.size w := by
    intro m os dk hs i j hi hj
    have e : sortWorldK encRun 2 w blk 0 m dk os = putRowK encRun 2 (grow (Sort.ahead w m) os) blk 0 dk := by
      unfold sortWorldK; rw [putRowK_grow _ _ (Sort.ahead w m) _ blk 0 _ hblk]
    have hHg : HoldsK encRun 2 (grow (Sort.ahead w m) os) blk 0 d := holdsK_grow _ _ _ _ blk 0 d hblk (holdsK_ahead _ _ _ _ _ _ _ hH)
    refine less14 blk 0 c Bs d.size _ (fun t => dk[t]!.1) ?_ (fun t ht => ?_) i j hi hj (by omega)
    · rw [e, cell?_putRowK_other _ _ _ blk 0 dk _ (by exact hB2), cell?_grow _ _ _ (by exact hB1)]; exact hBs
    · rw [e]; exact ((holdsK_putRowK _ _ _ blk 0 d dk hHg hs).cell (i := t) (c := 0) (by omega) (by omega)).1
  exact Any.sort_Slice_cells_sorted Yba.sv6 25 31 Yba.t25 Yba.t31 (by kernel_rfl) (by kernel_rfl) (by kernel_rfl) (by kernel_rfl) 25 (fun _ => by kernel_rfl) encRun 2 (fun _ => rfl) (by kernel_rfl) (fun _ => by kernel_rfl)
    (fun x v hv => by simp [encRun] at hv; rcases hv with rfl | rfl <;> rfl) ltRun swo_ltRun 14 _
    (enters_of Yba.func14 (by kernel_rfl) rfl) blk 0 c d h2 hsz 40 (by rw [swapK _ h2]; kernel_rfl) false
    (fun args W => run_callFunc_extern Yba.func40 (by kernel_rfl) (by kernel_rfl) (by kernel_rfl) (e := Extern.ReflectliteSwapper.swap false) (by kernel_rfl) args W) w hless hH hblk

theorem sort13_tiny (p : Option Addr) (n c Bs : Nat) (h1 : n ≤ 1) (w : World) :
    Calls Yba.prog 13 #[.iface 25 (.slice p n c), .func (.func 14) #[] #[.pointer (some ⟨Bs, 0, none⟩)]] w fun e w' => e = .returned (.tuple #[]) ∧ ∃ os, w' = grow w os := by
  rcases Nat.le_one_iff_eq_zero_or_eq_one.1 h1 with rfl | rfl
  · exact Any.sort_Slice_tiny Yba.sv6 25 31 Yba.t25 Yba.t31 (by kernel_rfl) (by kernel_rfl) (by kernel_rfl) (by kernel_rfl) 25 (fun _ => by kernel_rfl) p 0 c h1 32 (by rw [swapK0]; kernel_rfl) _ _ _ w
  · exact Any.sort_Slice_tiny Yba.sv6 25 31 Yba.t25 Yba.t31 (by kernel_rfl) (by kernel_rfl) (by kernel_rfl) (by kernel_rfl) 25 (fun _ => by kernel_rfl) p 1 c h1 33 (by rw [swapK1]; kernel_rfl) _ _ _ w
end Go.Proofs.Ybulkabna
