/-
  Rows.LawS1379AScriptSaid: the row's step, written after the shells that the kit's tool wrote for this seat's other laws.
-/
import Derived.Test.YbulkabnoRows
import Derived.WalkKit
import Derived.ProofKit
import Derived.OpenShut
import Derived.ShutString
import Derived.ChangeOld
import Derived.Below
import Derived.Deep.SlicePairs
import Derived.Test.YbulkabnoScript
namespace Go.Proofs.Ybulkabno.lawS1379AScript
open Go.ChangeShapes Go.WideShapes Go.ChangeAt Go.RowKit
open Go.ChangeMaps (open_string shut_string)
set_option linter.unusedVariables false

theorem own : ownKnob Yba.prog.godebug = none := by kernel_rfl
theorem laidOut : laidOutB Yba.prog = true := by kernel_rfl

/-- The number in a cell. -/
def numOf : Value → Int
  | .int _ z => z
  | _ => 0

/-- What the walk is told of the slice of steps that came in: it is nil; or its first 'len' elements are two int64 each. -/
def IsSteps (w : World) (a : Option Addr) (len cap : Nat) : Prop :=
  (a = none ∧ len = 0 ∧ cap = 0) ∨
  ∃ x, a = some x ∧ len ≤ maxLen ∧ ∃ N R : Nat → Int, ∀ i, i < len → w.cell? (x.add (i * 2)) = some (.int .i64 (N i)) ∧ w.cell? (x.add (i * 2 + 1)) = some (.int .i64 (R i))

theorem walk (a0 : Int) (a1 : Option Addr) (len cap : Nat) (w : World) (h : IsSteps w a1 len cap) :
    Calls Yba.prog 5 #[.int .i64 a0, .slice a1 len cap] w fun e w' => e = .returned (.bool true) ∧ Below w.heap.size w w' := by
  rcases h with ⟨rfl, rfl, rfl⟩ | ⟨x, rfl, hm, N, R, hcell⟩
  · exact law5_zero a0 none 0 w
  by_cases hbig : 1024 < len
  · exact law5_big a0 _ len cap w hbig hm
  by_cases h0 : len = 0
  · subst h0; exact law5_zero a0 _ cap w
  obtain ⟨b, off, spot⟩ := x
  have hspot : spot = none := by simpa [Addr.add] using World.cell?_spot (hcell 0 (by omega)).1
  subst hspot
  have hc : ∀ j, j < len → w.cell? ⟨b, off + j * 2, none⟩ = some (.int .i64 (N j)) ∧ w.cell? ⟨b, off + j * 2 + 1, none⟩ = some (.int .i64 (R j)) := fun j hj => by
    have := hcell j hj
    rw [Go.WideShapes.add_plain, Go.WideShapes.add_plain, ← Nat.add_assoc] at this
    exact this
  have hb : b < w.heap.size := by
    have := (hc 0 (by omega)).1
    rcases Nat.lt_or_ge b w.heap.size with h | h
    · exact h
    · simp [World.cell?, Array.getElem?_eq_none h] at this
  exact law5_core a0 N R len cap b off w (by omega) hb hc

set_option maxRecDepth 100000 in
theorem lifted (os : Os) (started : os.Started) (H : Type) (enc : TypeId × Value → H) :
    ReturnsInHanded {} Yba.checked os 5 .any (Rows.lawS1379AScriptSpec.pre6 enc Yba.prog Yba.f5 Rows.lawS1379AScriptRow.domain false) (Rows.lawS1379AScriptSpec.post enc Yba.prog Yba.f5 false true false false) := by
  refine returnsInHanded_of_change (C := Yba.checked) own started (by kernel_rfl) Yba.func5
    (ChangeSpec.witness6 (enc := enc) (C := Yba.checked) false ⟨#[], #[.int .i64 0, .slice none 0 0], []⟩ 8 (by kernel_rfl) (by kernel_rfl) (by kernel_rfl) (by kernel_rfl)) ?_
  intro W base args ds gs before hval0 hW hcnd _
  have hval : ∀ (j : Nat) t v, Yba.f5.params[j]? = some t → args[j]? = some v → Value.okWide Yba.prog W .any base t v := hval0
  have hW' := hW
  obtain ⟨p, q, hA0, hV, rfl, hfz, hnd⟩ := hW
  have hA : DataW.TrodAll enc Yba.prog W 0 (fun _ => true) true Yba.f5.params.toList args.toList ds p := hA0
  rw [Yba.params5] at hA hval
  obtain ⟨v0, vs0, d0, ds0, p0, q0, hargs, rfl, rfl, h0, r0⟩ := trodAll_cons hA
  obtain ⟨v1, vs1, d1, ds1, p1, q1, rfl, rfl, rfl, h1, r1⟩ := trodAll_cons r0
  obtain ⟨rfl, rfl, rfl⟩ := trodAll_nil r1
  obtain rfl : args = #[v0, v1] := by cases args; simp_all
  obtain ⟨rfl, rfl⟩ := trodVars_none hV
  obtain ⟨a0, rfl, rfl, rfl, w0⟩ := open_int Yba.underlying2 (hval 0 2 v0 rfl rfl) h0
  obtain ⟨a1, len1, cap1, rfl⟩ := okWide_slice Yba.underlying34 (hval 1 34 v1 rfl rfl)
  have k1 := h1
  have lt1 : ∀ x ∈ p1, x.block < W.heap.size := by obtain ⟨m, hm⟩ := k1; exact DataW.trod_lt m _ _ _ hm
  have w1 : IsSteps W a1 len1 cap1 := by
    obtain ⟨fuel, hf⟩ := h1
    rcases Go.Deep.open_slice_pairs Yba.underlying34 Yba.underlying36 (by kernel_rfl) rfl rfl (by kernel_rfl) (by kernel_rfl) hf with ⟨hcs, _⟩ | ⟨x, l, c, m, n, V0, V1, D0, D1, P0, P1, hcs, _, hl, hm, hmm, _, hcell⟩
    · simp [Value.cells] at hcs
      obtain ⟨rfl, rfl, rfl⟩ := hcs
      exact .inl ⟨rfl, rfl, rfl⟩
    · simp [Value.cells] at hcs
      obtain ⟨rfl, rfl, rfl⟩ := hcs
      have hlm : len1 ≤ m := by rw [hmm]; split <;> omega
      refine .inr ⟨_, rfl, Nat.le_trans hl hm, fun i => numOf (V0 i), fun i => numOf (V1 i), fun i hi => ?_⟩
      obtain ⟨e0, e1, t0, t1⟩ := hcell i (by omega)
      obtain ⟨z0, hz0, _, _⟩ := DataW.trod_int Yba.underlying2 t0
      obtain ⟨z1, hz1, _, _⟩ := DataW.trod_int Yba.underlying2 t1
      simp only [List.cons.injEq, and_true] at hz0 hz1
      rw [e0, e1]
      show some (V0 i) = some (.int .i64 (numOf (V0 i))) ∧ some (V1 i) = some (.int .i64 (numOf (V1 i)))
      rw [hz0, hz1]
      exact ⟨rfl, rfl⟩
  clear hA0 hval0
  refine (walk a0 a1 len1 cap1 W w1).mono fun e W' ⟨he, bel⟩ => ?_
  subst he
  exact ⟨_, rfl, _, _, _, [], _, [], hW', trodAll_mk1 (shut_bool Yba.underlying4 _), (trodAll_cons_mk (shut_int Yba.underlying2 w0) (trodAll_cons_mk (Below.trod laidOut (by kernel_rfl) (of_decide_eq_true (by kernel_rfl)) k1 bel lt1) trodAll_mk0)), rfl, bel.frame _, fun h => by cases h⟩

theorem over : Rows.lawS1379AScriptRow.holds Yba.pinned (OpenSpec.ofChange Rows.lawS1379AScriptSpec) :=
  OpenClaim.holds_of_wide 5 Yba.f5 rfl rfl rfl rfl rfl rfl rfl ⟨rfl, rfl, rfl, rfl, rfl⟩ rfl rfl rfl rfl rfl (by kernel_rfl) Yba.func5 (by kernel_rfl)
    (of_decide_eq_true (by kernel_rfl)) (by unfold Func.isWrapper; first | (rw [if_pos (by decide +kernel)]; kernel_rfl) | (rw [if_neg (by decide +kernel)]; exact ⟨rfl, rfl⟩))
    (fun os started H enc _ => lifted os started H enc)

/-- ████ THE STATEMENT ████ -/
theorem proved : Rows.LawS1379AScriptSaid :=
  over
#print axioms proved
end Go.Proofs.Ybulkabno.lawS1379AScript
