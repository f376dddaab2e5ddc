/-
  The leaf functions: wholeDemand, unitsDemand, zzs1378cshare.
-/
import Derived.Test.YbulkabnaFmtErr
import Derived.Below
namespace Go.Proofs.YbulkabnaFmt
open Go.RowKit Go.Extern.Stop Go.Stop Go.Extern

/-- The bytes of gpu. -/
def gpuB : ByteArray := ⟨#[103, 112, 117]⟩

/-- A demand, its seven fields. -/
structure Dm where
  kind : ByteArray
  count : Int
  whole : Bool
  units : Int
  ratio : Int
  mib : Int
  byMiB : Bool

def zeroDm : Dm := ⟨⟨#[]⟩, 0, false, 0, 0, 0, false⟩
def shareDm (a : Int) : Dm := ⟨gpuB, 1, false, a, 0, 0, false⟩
def wholeDm (n : Int) : Dm := ⟨gpuB, n, true, 100, 100, 0, false⟩
/-- What both functions make of an amount. -/
def share (a : Int) : Dm × Bool :=
  if a = 0 then (zeroDm, true) else if a ≤ 100 then (shareDm a, true) else if a % 100 = 0 then (wholeDm (a / 100), true) else (zeroDm, false)
theorem share_z {a : Int} (h : a = 0) : share a = (zeroDm, true) := by simp [share, h]
theorem share_s {a : Int} (h0 : ¬ a = 0) (h1 : a ≤ 100) : share a = (shareDm a, true) := by simp [share, h0, h1]
theorem share_w {a : Int} (h1 : 100 < a) (h2 : a % 100 = 0) : share a = (wholeDm (a / 100), true) := by
  have h0 : ¬ a = 0 := by omega
  have h1' : ¬ a ≤ 100 := by omega
  simp [share, h0, h1', h2]
theorem share_n {a : Int} (h1 : 100 < a) (h2 : ¬ a % 100 = 0) : share a = (zeroDm, false) := by
  have h0 : ¬ a = 0 := by omega
  have h1' : ¬ a ≤ 100 := by omega
  simp [share, h0, h1', h2]

abbrev agg7 (d : Dm) : Value := .agg #[.string d.kind, .int .i64 d.count, .bool d.whole, .int .i64 d.units, .int .i64 d.ratio, .int .i64 d.mib, .bool d.byMiB]

theorem wf_bounds {a : Int} (h : (Lit.int .i64 a).wf = true) : -9223372036854775808 ≤ a ∧ a ≤ 9223372036854775807 := by
  simp [Lit.wf, IntKind.min, IntKind.max, IntKind.signed, IntKind.bits] at h; omega

theorem bel1 {w : World} {o : Obj} : Below w.heap.size w (w.alloc o) := (Below.refl _ _).alloc (Nat.le_refl _) _
theorem _root_.Go.RowKit.Below.al {w w' : World} (h : Below w.heap.size w w') (o : Obj) : Below w.heap.size w (w'.alloc o) := h.alloc h.size o

set_option maxHeartbeats 400000 in
theorem share13 (a : Int) (hlo : -9223372036854775808 ≤ a) (hhi : a ≤ 9223372036854775807) (w : World) :
    Calls Ybaf.prog 13 #[.int .i64 a] w fun e w' => e = .returned (.tuple #[agg7 (share a).1, .bool (share a).2]) ∧ ∃ c, w' = w.alloc (.cells c 29) := by
  by_cases h0 : a = 0
  · rw [share_z h0]
    subst h0
    go_enter Ybaf.func13, Ybaf.ntmps13
    go_wp2
    exact bodyPost_ret (v := .tuple #[agg7 zeroDm, .bool true]) (by simp [results, Ybaf.results13, go_sem, zeroDm]) rfl ⟨rfl, _, rfl⟩
  by_cases h1 : a ≤ 100
  · rw [share_s h0 h1]
    go_enter Ybaf.func13, Ybaf.ntmps13
    go_wp2
    exact bodyPost_ret (v := .tuple #[agg7 (shareDm a), .bool true]) (by simp [results, Ybaf.results13, go_sem, shareDm, gpuB]) rfl ⟨rfl, _, rfl⟩
  have h1' : 100 < a := by omega
  clear h0 h1
  by_cases h2 : a % 100 = 0
  · rw [share_w h1' h2]
    go_enter Ybaf.func13, Ybaf.ntmps13
    go_wp2
    exact bodyPost_ret (v := .tuple #[agg7 (wholeDm (a / 100)), .bool true]) (by simp [results, Ybaf.results13, go_sem, wholeDm, gpuB]) rfl ⟨rfl, _, rfl⟩
  · rw [share_n h1' h2]
    go_enter Ybaf.func13, Ybaf.ntmps13
    go_wp2
    exact bodyPost_ret (v := .tuple #[agg7 zeroDm, .bool false]) (by simp [results, Ybaf.results13, go_sem, zeroDm]) rfl ⟨rfl, _, rfl⟩

set_option maxHeartbeats 400000 in
theorem whole11 (n : Int) (w : World) :
    Calls Ybaf.prog 11 #[.string ⟨#[103, 112, 117]⟩, .int .i64 n] w fun e w' => e = .returned (agg7 (wholeDm n)) ∧ ∃ c c', w' = (w.alloc (.cells c 29)).alloc (.cells c' 29) := by
  go_enter Ybaf.func11, Ybaf.ntmps11
  go_wp2
  exact bodyPost_ret (v := agg7 (wholeDm n)) (by simp [results, Ybaf.results11, go_sem, wholeDm, gpuB]) rfl ⟨rfl, _, _, rfl⟩

/-- An error as the call hands it back: nil just if all is well. -/
def ErrIs (ok : Bool) (er : Value) : Prop := (ok = true ∧ er = .nilIface) ∨ (ok = false ∧ ∃ a, er = .iface 52 (.pointer (some a)))

set_option maxHeartbeats 400000 in
theorem units12 (form : ByteArray) (a : Int) (hlo : -9223372036854775808 ≤ a) (hhi : a ≤ 9223372036854775807) (w : World) :
    Calls Ybaf.prog 12 #[.string ⟨#[103, 112, 117]⟩, .string form, .int .i64 a] w fun e w' => ∃ er, e = .returned (.tuple #[agg7 (share a).1, er]) ∧ ErrIs (share a).2 er ∧ Below w.heap.size w w' := by
  by_cases h0 : a = 0
  · rw [share_z h0]
    subst h0
    go_enter Ybaf.func12, Ybaf.ntmps12
    go_wp2
    exact bodyPost_ret (v := .tuple #[agg7 zeroDm, .nilIface]) (by simp [results, Ybaf.results12, go_sem, zeroDm]) rfl ⟨_, rfl, .inl ⟨rfl, rfl⟩, bel1⟩
  by_cases h1 : a ≤ 100
  · rw [share_s h0 h1]
    go_enter Ybaf.func12, Ybaf.ntmps12
    go_wp2
    exact bodyPost_ret (v := .tuple #[agg7 (shareDm a), .nilIface]) (by simp [results, Ybaf.results12, go_sem, shareDm, gpuB]) rfl ⟨_, rfl, .inl ⟨rfl, rfl⟩, bel1⟩
  have h1' : 100 < a := by omega
  clear h0 h1
  by_cases h2 : a % 100 = 0
  · rw [share_w h1' h2]
    go_enter Ybaf.func12, Ybaf.ntmps12
    go_wp2_with (go_at_call 11; refine (whole11 _ _).mono ?_; rintro e w' ⟨rfl, c, c', rfl⟩)
    exact bodyPost_ret (v := .tuple #[agg7 (wholeDm (a / 100)), .nilIface]) (by simp [results, Ybaf.results12, go_sem, wholeDm, gpuB]) rfl ⟨_, rfl, .inl ⟨rfl, rfl⟩, (bel1.al _).al _⟩
  · rw [share_n h1' h2]
    go_enter Ybaf.func12, Ybaf.ntmps12
    go_wp2_with (go_at_call 9; refine (errorfD form a _ _ ?_ ?_).mono ?_; rotate_right; rintro e w' ⟨s, rfl, rfl⟩)
    exact bodyPost_ret (v := .tuple #[agg7 zeroDm, .iface 52 (.pointer (some ⟨w.heap.size + 1 + 1, 0, none⟩))]) (by simp [results, Ybaf.results12, go_sem, zeroDm]) rfl ⟨_, rfl, .inr ⟨rfl, _, rfl⟩, ((bel1.al _).al _).drew⟩
    all_goals (simp; done)
end Go.Proofs.YbulkabnaFmt
