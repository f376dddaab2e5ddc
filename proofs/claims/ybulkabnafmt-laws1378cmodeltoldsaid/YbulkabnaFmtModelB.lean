/-
  zzs1378cmodel: the other ways: too many forms; none; whole GPUs; the one form gpu.
-/
import Derived.Test.YbulkabnaFmtModel
namespace Go.Proofs.YbulkabnaFmt
open Go.RowKit Go.Maps Go.WideMaps

/-- More than one form, and not gpu-core with one of the two memory forms. -/
def badIn (pg pc pr pm pw : Bool) : Bool := (pg && (pc || pr || pm || pw)) || (pw && (pc || pr || pm)) || (pr && pm)

set_option maxRecDepth 100000 in
set_option maxHeartbeats 4000000 in
theorem model7_bad (pg pc pr pm pw : Bool) (ag ac ar am aw : Int) (h : badIn pg pc pr pm pw = true) (w : World) :
    Calls Ybaf.prog 7 #[.bool pg, .bool pc, .bool pr, .bool pm, .bool pw, .int .i64 ag, .int .i64 ac, .int .i64 ar, .int .i64 am, .int .i64 aw] w fun e w' =>
      e = .returned (.tuple #[agg7 zeroDm, .bool false]) ∧ Below w.heap.size w w' := by
  cases pg <;> cases pc <;> cases pr <;> cases pm <;> cases pw <;> first | exact absurd h (by decide) | skip
  all_goals
    clear h
    go_enter Ybaf.func7, Ybaf.ntmps7
    go_wp2
    exact bodyPost_ret (v := .tuple #[agg7 zeroDm, .bool false]) (by simp [results, Ybaf.results7, go_sem, zeroDm]) rfl ⟨rfl, bel1⟩

set_option maxHeartbeats 400000 in
theorem model7_none (ag ac ar am aw : Int) (w : World) :
    Calls Ybaf.prog 7 #[.bool false, .bool false, .bool false, .bool false, .bool false, .int .i64 ag, .int .i64 ac, .int .i64 ar, .int .i64 am, .int .i64 aw] w fun e w' =>
      e = .returned (.tuple #[agg7 zeroDm, .bool true]) ∧ Below w.heap.size w w' := by
  go_enter Ybaf.func7, Ybaf.ntmps7
  go_wp2
  exact bodyPost_ret (v := .tuple #[agg7 zeroDm, .bool true]) (by simp [results, Ybaf.results7, go_sem, zeroDm]) rfl ⟨rfl, bel1⟩

set_option maxHeartbeats 400000 in
theorem model7_w (ag ac ar am aw : Int) (w : World) :
    Calls Ybaf.prog 7 #[.bool false, .bool false, .bool false, .bool false, .bool true, .int .i64 ag, .int .i64 ac, .int .i64 ar, .int .i64 am, .int .i64 aw] w fun e w' =>
      e = .returned (.tuple #[agg7 (wholeDm aw), .bool true]) ∧ Below w.heap.size w w' := by
  go_enter Ybaf.func7, Ybaf.ntmps7
  go_wp2
  exact bodyPost_ret (v := .tuple #[agg7 (wholeDm aw), .bool true]) (by simp [results, Ybaf.results7, go_sem, wholeDm, gpuB]) rfl ⟨rfl, bel1⟩
set_option maxRecDepth 100000 in
set_option maxHeartbeats 2000000 in
theorem model7_g (ag ac ar am aw : Int) (c1 : -9223372036854775808 ≤ ag) (c2 : ag ≤ 9223372036854775807) (w : World) :
    Calls Ybaf.prog 7 #[.bool true, .bool false, .bool false, .bool false, .bool false, .int .i64 ag, .int .i64 ac, .int .i64 ar, .int .i64 am, .int .i64 aw] w fun e w' =>
      e = .returned (.tuple #[agg7 (gpuDm (share ag)).1, .bool (gpuDm (share ag)).2]) ∧ Below w.heap.size w w' := by
  obtain ⟨d, ok, hsh⟩ : ∃ d ok, share ag = (d, ok) := ⟨_, _, rfl⟩
  obtain ⟨k, c, wh, u, r, m, bm⟩ := d
  have hS : Shared ag (.agg #[.string k, .int .i64 c, .bool wh, .int .i64 u, .int .i64 r, .int .i64 m, .bool bm]) ok := by unfold Shared; rw [hsh]; exact ⟨rfl, rfl⟩
  rw [hsh]
  clear hsh
  cases ok <;> cases wh
  · go_enter Ybaf.func7, Ybaf.ntmps7
    go_wp2_with fail
    refine (share13v hS c1 c2 _).mono ?_
    rintro e w' ⟨rfl, k1, rfl⟩
    clear hS
    go_wp2
    exact bodyPost_ret (v := .tuple #[agg7 zeroDm, .bool false]) (by simp [results, Ybaf.results7, go_sem, zeroDm]) rfl ⟨by simp [gpuDm], by repeat (first | exact bel1 | apply Below.al)⟩
  · go_enter Ybaf.func7, Ybaf.ntmps7
    go_wp2_with fail
    refine (share13v hS c1 c2 _).mono ?_
    rintro e w' ⟨rfl, k1, rfl⟩
    clear hS
    go_wp2
    exact bodyPost_ret (v := .tuple #[agg7 zeroDm, .bool false]) (by simp [results, Ybaf.results7, go_sem, zeroDm]) rfl ⟨by simp [gpuDm], by repeat (first | exact bel1 | apply Below.al)⟩
  · go_enter Ybaf.func7, Ybaf.ntmps7
    go_wp2_with fail
    refine (share13v hS c1 c2 _).mono ?_
    rintro e w' ⟨rfl, k1, rfl⟩
    clear hS
    go_wp2
    exact bodyPost_ret (v := .tuple #[agg7 ⟨k, c, false, u, u, m, bm⟩, .bool true]) (by simp [results, Ybaf.results7, go_sem]) rfl ⟨by simp [gpuDm], by repeat (first | exact bel1 | apply Below.al)⟩
  · go_enter Ybaf.func7, Ybaf.ntmps7
    go_wp2_with fail
    refine (share13v hS c1 c2 _).mono ?_
    rintro e w' ⟨rfl, k1, rfl⟩
    clear hS
    go_wp2
    exact bodyPost_ret (v := .tuple #[agg7 ⟨k, c, true, u, r, m, bm⟩, .bool true]) (by simp [results, Ybaf.results7, go_sem]) rfl ⟨by simp [gpuDm], by repeat (first | exact bel1 | apply Below.al)⟩
end Go.Proofs.YbulkabnaFmt
