/-
  Rows.LawS1378BRunsSaid: the row's step, after the shell that the kit's tool wrote.
-/
import Derived.Test.YbulkabnaRows
import Derived.WalkKit
import Derived.ProofKit
import Derived.OpenShut
import Derived.ShutString
import Derived.ChangeOld
import Derived.Below
import Derived.Test.YbulkabnaRuns
namespace Go.Proofs.Ybulkabna.lawS1378BRuns
open Go.ChangeShapes Go.WideShapes Go.ChangeAt Go.RowKit
open Go.ChangeMaps (open_string shut_string)
set_option linter.unusedVariables false

theorem own : ownKnob Yba.prog.godebug = none := by kernel_rfl
theorem laidOut : laidOutB Yba.prog = true := by kernel_rfl

/-- WHAT THE WALK IS TOLD OF A SLICE OF INTEGERS THAT CAME IN: it is nil; or it leads to a row of 'cap' cells, the numbers 'zs' (the first 'len' are its elements, the rest its spare room), each fitting its kind. -/
def IsRow (k : IntKind) (w : World) (a : Option Addr) (len cap : Nat) (zs : List Int) : Prop :=
  (a = none ∧ len = 0 ∧ cap = 0 ∧ zs = []) ∨
  ∃ x, a = some x ∧ len ≤ cap ∧ cap ≤ maxLen ∧ zs.length = cap ∧ (∀ i, i < zs.length → w.cell? (x.add i) = some (.int k (zs.getD i 0))) ∧ ∀ n ∈ zs, (Lit.int k n).wf = true

/-- A row of int16 that came in, as the walks want it. -/
theorem row_open {w : World} {x : Addr} {len cap : Nat} {zs : List Int} (hlc : len ≤ cap) (hz : zs.length = cap) (h0 : 0 < len) (hcell : ∀ i, i < zs.length → w.cell? (x.add i) = some (.int .i16 (zs.getD i 0))) (hwf : ∀ n ∈ zs, (Lit.int .i16 n).wf = true) :
    ∃ b off, x = ⟨b, off, none⟩ ∧ b < w.heap.size ∧ ∃ xs : List Int, xs.length = len ∧ (∀ j, j < xs.length → w.cell? ⟨b, off + j, none⟩ = some (.int .i16 (xs.getD j 0))) ∧ ∀ j, j < xs.length → -32768 ≤ xs.getD j 0 ∧ xs.getD j 0 ≤ 32767 := by
  obtain ⟨b, off, spot⟩ := x
  have hspot : spot = none := by simpa [Addr.add] using World.cell?_spot (hcell 0 (by omega))
  subst hspot
  have hc : ∀ j, j < zs.length → w.cell? ⟨b, off + j, none⟩ = some (.int .i16 (zs.getD j 0)) := fun j hj => by rw [← Go.WideShapes.add_plain]; exact hcell j hj
  have hb : b < w.heap.size := by
    have := hc 0 (by omega)
    rcases Nat.lt_or_ge b w.heap.size with h | h
    · exact h
    · simp [World.cell?, Array.getElem?_eq_none h] at this
  have hg : ∀ j, j < len → (zs.take len).getD j 0 = zs.getD j 0 := fun j hj => by simp [List.getD, hj]
  refine ⟨b, off, rfl, hb, zs.take len, by simp; omega, fun j hj => ?_, fun j hj => ?_⟩
  · have hj' : j < len := by simp at hj; omega
    rw [hg j hj']; exact hc j (by omega)
  · have hj' : j < len := by simp at hj; omega
    have hjz : j < zs.length := by omega
    rw [hg j hj']
    obtain ⟨y, hy⟩ : ∃ y, y = zs.getD j 0 := ⟨_, rfl⟩
    have := hwf (zs.getD j 0) (by simp [List.getD, hjz])
    rw [← hy] at this ⊢
    simp [Lit.wf, IntKind.min, IntKind.max, IntKind.signed, IntKind.bits] at this
    omega

theorem walk (a0 : Option Addr) (len0 cap0 : Nat) (z0 : List Int) (w : World) (w0 : IsRow .i16 w a0 len0 cap0 z0) :
    Calls Yba.prog 3 #[.slice a0 len0 cap0] w fun e w' => e = .returned (.bool true) ∧ Below w.heap.size w w' := by
  rcases w0 with ⟨rfl, rfl, rfl, rfl⟩ | ⟨x, rfl, hlc, hcm, hzl, hcell, hwf⟩
  · exact law3_zero none 0 w
  by_cases hbig : 1024 < len0
  · exact law3_big _ _ _ w hbig (Nat.le_trans hlc hcm)
  by_cases h0 : len0 = 0
  · subst h0; exact law3_zero _ _ w
  obtain ⟨b, off, rfl, hb, xs, hxl, hc, hv⟩ := row_open hlc hzl (by omega) hcell hwf
  rw [← hxl]
  exact law3_core xs cap0 b off w (by omega) (by omega) hb hc hv

/-! ### THE ROW's STEP: WRITTEN OUT: LEAVE IT -/
set_option maxRecDepth 100000 in
theorem lifted (os : Os) (started : os.Started) (H : Type) (enc : TypeId × Value → H) :
    ReturnsInHanded {} Yba.checked os 3 .any (Rows.lawS1378BRunsSpec.pre6 enc Yba.prog Yba.f3 Rows.lawS1378BRunsRow.domain false) (Rows.lawS1378BRunsSpec.post enc Yba.prog Yba.f3 false true false false) := by
  refine returnsInHanded_of_change (C := Yba.checked) own started (by kernel_rfl) Yba.func3
    (ChangeSpec.witness6 (enc := enc) (C := Yba.checked) false ⟨#[], #[.slice none 0 0], []⟩ 8 (by kernel_rfl) (by kernel_rfl) (by kernel_rfl) (by kernel_rfl)) ?_
  intro W base args ds gs before hval0 hW hcnd _
  have hval : ∀ (j : Nat) t v, Yba.f3.params[j]? = some t → args[j]? = some v → Value.okWide Yba.prog W .any base t v := hval0
  have hW' := hW
  obtain ⟨p, q, hA0, hV, rfl, hfz, hnd⟩ := hW
  have hA : DataW.TrodAll enc Yba.prog W 0 (fun _ => true) true Yba.f3.params.toList args.toList ds p := hA0
  rw [Yba.params3] at hA hval
  obtain ⟨v0, vs0, d0, ds0, p0, q0, hargs, rfl, rfl, h0, r0⟩ := trodAll_cons hA
  obtain ⟨rfl, rfl, rfl⟩ := trodAll_nil r0
  obtain rfl : args = #[v0] := by cases args; simp_all
  obtain ⟨rfl, rfl⟩ := trodVars_none hV
  obtain ⟨a0, len0, cap0, rfl⟩ := okWide_slice Yba.underlying22 (hval 0 22 v0 rfl rfl)
  have k0 := h0
  have lt0 : ∀ x ∈ p0, x.block < W.heap.size := by obtain ⟨m, hm⟩ := k0; exact DataW.trod_lt m _ _ _ hm
  obtain ⟨z0, w0⟩ : ∃ zs, IsRow .i16 W a0 len0 cap0 zs := by
    obtain ⟨fuel, hf⟩ := h0
    rcases open_ints Yba.underlying22 Yba.underlying34 (by kernel_rfl) hf with ⟨hcs, _⟩ | ⟨x, l, c, zs, hcs, _, hl, hm, hz, _, hcell, hwz⟩
    · simp [Value.cells] at hcs
      obtain ⟨rfl, rfl, rfl⟩ := hcs
      exact ⟨[], .inl ⟨rfl, rfl, rfl, rfl⟩⟩
    · simp [Value.cells] at hcs
      obtain ⟨rfl, rfl, rfl⟩ := hcs
      exact ⟨zs, .inr ⟨_, rfl, hl, hm, by simpa using hz, hcell, hwz⟩⟩
  clear hA0 hval0
  refine (walk a0 len0 cap0 z0 W w0).mono fun e W' ⟨he, bel⟩ => ?_
  subst he
  exact ⟨_, rfl, _, _, _, [], _, [], hW', trodAll_mk1 (shut_bool Yba.underlying4 _), (trodAll_cons_mk (Below.trod laidOut (by kernel_rfl) (of_decide_eq_true (by kernel_rfl)) k0 bel lt0) trodAll_mk0), rfl, bel.frame _, fun h => by cases h⟩

theorem over : Rows.lawS1378BRunsRow.holds Yba.pinned (OpenSpec.ofChange Rows.lawS1378BRunsSpec) :=
  OpenClaim.holds_of_wide 3 Yba.f3 rfl rfl rfl rfl rfl rfl rfl ⟨rfl, rfl, rfl, rfl, rfl⟩ rfl rfl rfl rfl rfl (by kernel_rfl) Yba.func3 (by kernel_rfl)
    (of_decide_eq_true (by kernel_rfl)) (by unfold Func.isWrapper; first | (rw [if_pos (by decide +kernel)]; kernel_rfl) | (rw [if_neg (by decide +kernel)]; exact ⟨rfl, rfl⟩))
    (fun os started H enc _ => lifted os started H enc)

/-- ████ THE STATEMENT ████ -/
theorem proved : Rows.LawS1378BRunsSaid := over
#print axioms proved
end Go.Proofs.Ybulkabna.lawS1378BRuns
