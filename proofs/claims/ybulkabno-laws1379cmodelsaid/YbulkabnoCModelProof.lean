/-
  Rows.LawS1379CModelSaid: the row's step, after the shell that the kit's tool wrote.
-/
import Derived.Test.YbulkabnoRows
import Derived.WalkKit
import Derived.ProofKit
import Derived.OpenShut
import Derived.ShutString
import Derived.Test.YbulkabnoFits
namespace Go.Proofs.Ybulkabno.lawS1379CModel
open Go.ChangeShapes Go.WideShapes Go.ChangeAt Go.RowKit
open Go.ChangeMaps (open_string shut_string)
set_option linter.unusedVariables false      -- a walk need not use every 'w<i>' (that an integer argument fits its kind)

theorem own : ownKnob Yba.prog.godebug = none := by kernel_rfl

theorem grown_trans {a b c : World} (h1 : Grown a b) (h2 : Grown b c) : Grown a c :=
  ⟨World.keptBut_trans h1.1 h2.1, fun x => (h2.2.1 x).trans (h1.2.1 x), Nat.le_trans h1.2.2 h2.2.2⟩

set_option maxRecDepth 100000 in
set_option maxHeartbeats 1000000 in
theorem walk (a0 : Int) (a1 : Int) (a2 : Int) (a3 : Int) (a4 : Int) (w0 : (Lit.int .u64 a0).wf = true) (w1 : (Lit.int .u64 a1).wf = true) (w2 : (Lit.int .u64 a2).wf = true) (w3 : (Lit.int .u64 a3).wf = true) (w4 : (Lit.int .u64 a4).wf = true) (w : World) :
    Calls Yba.prog 6 #[.int .u64 a0, .int .u64 a1, .int .u64 a2, .int .u64 a3, .int .u64 a4] w fun e w' => e = .returned (.bool true) ∧ Grown w w' := by
  simp [Lit.wf, IntKind.min, IntKind.max, IntKind.signed, IntKind.bits] at w0 w1 w2 w3 w4
  obtain ⟨l0, u0⟩ := w0
  obtain ⟨l1, u1⟩ := w1
  obtain ⟨l2, u2⟩ := w2
  obtain ⟨l3, u3⟩ := w3
  obtain ⟨l4, u4⟩ := w4
  obtain ⟨n1, e1⟩ : ∃ n1, n1 = a1 / 2 := ⟨_, rfl⟩
  obtain ⟨n2, e2⟩ : ∃ n2, n2 = a2 / 2 := ⟨_, rfl⟩
  obtain ⟨n3, e3⟩ : ∃ n3, n3 = a3 / 2 := ⟨_, rfl⟩
  obtain ⟨n4, e4⟩ : ∃ n4, n4 = a4 / 2 := ⟨_, rfl⟩
  have k1 : 0 ≤ n1 ∧ n1 ≤ 9223372036854775807 := by omega
  have k2 : 0 ≤ n2 ∧ n2 ≤ 9223372036854775807 := by omega
  have k3 : 0 ≤ n3 ∧ n3 ≤ 9223372036854775807 := by omega
  have k4 : 0 ≤ n4 ∧ n4 ≤ 9223372036854775807 := by omega
  have e1' := e1.symm
  have e2' := e2.symm
  have e3' := e3.symm
  have e4' := e4.symm
  clear e1 e2 e3 e4
  obtain ⟨n0, e0⟩ : ∃ n0, n0 = a0 / 2 := ⟨_, rfl⟩
  have k0 : 0 ≤ n0 ∧ n0 ≤ 9223372036854775807 := by omega
  have e0' := e0.symm
  clear e0
  obtain ⟨k10, k11⟩ := k1
  obtain ⟨k20, k21⟩ := k2
  obtain ⟨k30, k31⟩ := k3
  obtain ⟨k40, k41⟩ := k4
  obtain ⟨k00, k01⟩ := k0
  by_cases hz : n0 = 0
  · rw [hz] at e0'
    clear hz k00 k01
    by_cases hF : Fits 1 n1 n2 n3 n4
    · have HF : Hid (Fits 1 n1 n2 n3 n4) := hF
      clear hF
      go_enter Yba.func6, Yba.ntmps6
      go_wp2_with fail
      refine (spanOf_ok w.heap.size 1 n1 n2 n3 n4 _ (by simp; omega) (by simp) (by simp) (by omega) (by omega) (by omega) (by omega) (by omega) (by omega) (by omega) (by omega) (by omega) (by omega) HF.out).mono ?_
      rintro e w5 ⟨rfl, hg⟩
      have HG : Hid (Grown w w5) := grown_trans (((Grown.refl _).alloc _ _).alloc _ _) hg
      clear hg
      go_wp2_with fail
      refine (fits_ok 1 n1 n2 n3 n4 _ (by omega) (by omega) (by omega) (by omega) (by omega) (by omega) (by omega) (by omega) (by omega) (by omega) HF.out).mono ?_
      rintro e w6 ⟨rfl, hw6⟩
      subst hw6
      go_wp2
      go_ret
      exact ⟨rfl, HG.out⟩
    · have HF : Hid (¬ Fits 1 n1 n2 n3 n4) := hF
      clear hF
      go_enter Yba.func6, Yba.ntmps6
      go_wp2_with fail
      refine (spanOf_no w.heap.size 1 n1 n2 n3 n4 _ (by simp; omega) (by simp) (by simp) (by omega) (by omega) (by omega) (by omega) (by omega) (by omega) (by omega) (by omega) (by omega) (by omega) HF.out).mono ?_
      rintro e w5 ⟨rfl, hg⟩
      have HG : Hid (Grown w w5) := grown_trans (((Grown.refl _).alloc _ _).alloc _ _) hg
      clear hg
      go_wp2_with fail
      refine (fits_no 1 n1 n2 n3 n4 _ (by omega) (by omega) (by omega) (by omega) (by omega) (by omega) (by omega) (by omega) (by omega) (by omega) HF.out).mono ?_
      rintro e w6 ⟨rfl, hw6⟩
      subst hw6
      go_wp2
      go_ret
      exact ⟨rfl, HG.out⟩
  · have hz' : (n0 == 0) = false := by simp; omega
    by_cases hF : Fits n0 n1 n2 n3 n4
    · have HF : Hid (Fits n0 n1 n2 n3 n4) := hF
      clear hF
      go_enter Yba.func6, Yba.ntmps6
      go_wp2_with fail
      refine (spanOf_ok w.heap.size n0 n1 n2 n3 n4 _ (by simp; omega) (by simp) (by simp) (by omega) (by omega) (by omega) (by omega) (by omega) (by omega) (by omega) (by omega) (by omega) (by omega) HF.out).mono ?_
      rintro e w5 ⟨rfl, hg⟩
      have HG : Hid (Grown w w5) := grown_trans (((Grown.refl _).alloc _ _).alloc _ _) hg
      clear hg
      go_wp2_with fail
      refine (fits_ok n0 n1 n2 n3 n4 _ (by omega) (by omega) (by omega) (by omega) (by omega) (by omega) (by omega) (by omega) (by omega) (by omega) HF.out).mono ?_
      rintro e w6 ⟨rfl, hw6⟩
      subst hw6
      go_wp2
      go_ret
      exact ⟨rfl, HG.out⟩
    · have HF : Hid (¬ Fits n0 n1 n2 n3 n4) := hF
      clear hF
      go_enter Yba.func6, Yba.ntmps6
      go_wp2_with fail
      refine (spanOf_no w.heap.size n0 n1 n2 n3 n4 _ (by simp; omega) (by simp) (by simp) (by omega) (by omega) (by omega) (by omega) (by omega) (by omega) (by omega) (by omega) (by omega) (by omega) HF.out).mono ?_
      rintro e w5 ⟨rfl, hg⟩
      have HG : Hid (Grown w w5) := grown_trans (((Grown.refl _).alloc _ _).alloc _ _) hg
      clear hg
      go_wp2_with fail
      refine (fits_no n0 n1 n2 n3 n4 _ (by omega) (by omega) (by omega) (by omega) (by omega) (by omega) (by omega) (by omega) (by omega) (by omega) HF.out).mono ?_
      rintro e w6 ⟨rfl, hw6⟩
      subst hw6
      go_wp2
      go_ret
      exact ⟨rfl, HG.out⟩

/-! ### THE ROW's STEP: WRITTEN OUT: LEAVE IT -/
set_option maxRecDepth 100000 in
theorem lifted (os : Os) (started : os.Started) (H : Type) (enc : TypeId × Value → H) :
    ReturnsInHanded {} Yba.checked os 6 .any (Rows.lawS1379CModelSpec.pre6 enc Yba.prog Yba.f6 Rows.lawS1379CModelRow.domain false) (Rows.lawS1379CModelSpec.post enc Yba.prog Yba.f6 false true false false) := by
  refine returnsInHanded_of_change (C := Yba.checked) own started (by kernel_rfl) Yba.func6
    (ChangeSpec.witness6 (enc := enc) (C := Yba.checked) false ⟨#[], #[.int .u64 0, .int .u64 0, .int .u64 0, .int .u64 0, .int .u64 0], []⟩ 8 (by kernel_rfl) (by kernel_rfl) (by kernel_rfl) (by kernel_rfl)) ?_
  intro W base args ds gs before hval0 hW hcnd _
  have hval : ∀ (j : Nat) t v, Yba.f6.params[j]? = some t → args[j]? = some v → Value.okWide Yba.prog W .any base t v := hval0
  have hW' := hW
  obtain ⟨p, q, hA0, hV, rfl, hfz, hnd⟩ := hW
  have hA : DataW.TrodAll enc Yba.prog W 0 (fun _ => true) true Yba.f6.params.toList args.toList ds p := hA0
  rw [Yba.params6] at hA hval
  obtain ⟨v0, vs0, d0, ds0, p0, q0, hargs, rfl, rfl, h0, r0⟩ := trodAll_cons hA
  obtain ⟨v1, vs1, d1, ds1, p1, q1, rfl, rfl, rfl, h1, r1⟩ := trodAll_cons r0
  obtain ⟨v2, vs2, d2, ds2, p2, q2, rfl, rfl, rfl, h2, r2⟩ := trodAll_cons r1
  obtain ⟨v3, vs3, d3, ds3, p3, q3, rfl, rfl, rfl, h3, r3⟩ := trodAll_cons r2
  obtain ⟨v4, vs4, d4, ds4, p4, q4, rfl, rfl, rfl, h4, r4⟩ := trodAll_cons r3
  obtain ⟨rfl, rfl, rfl⟩ := trodAll_nil r4
  obtain rfl : args = #[v0, v1, v2, v3, v4] := by cases args; simp_all
  obtain ⟨rfl, rfl⟩ := trodVars_none hV
  obtain ⟨a0, rfl, rfl, rfl, w0⟩ := open_int Yba.underlying22 (hval 0 22 v0 rfl rfl) h0
  obtain ⟨a1, rfl, rfl, rfl, w1⟩ := open_int Yba.underlying22 (hval 1 22 v1 rfl rfl) h1
  obtain ⟨a2, rfl, rfl, rfl, w2⟩ := open_int Yba.underlying22 (hval 2 22 v2 rfl rfl) h2
  obtain ⟨a3, rfl, rfl, rfl, w3⟩ := open_int Yba.underlying22 (hval 3 22 v3 rfl rfl) h3
  obtain ⟨a4, rfl, rfl, rfl, w4⟩ := open_int Yba.underlying22 (hval 4 22 v4 rfl rfl) h4
  clear hA0 hval0
  simp only [List.append_nil] at hW'
  refine (walk a0 a1 a2 a3 a4 w0 w1 w2 w3 w4 W).mono fun e W' ⟨he, hg⟩ => ?_
  subst he
  exact ⟨_, rfl, post_of_same (pa := []) (pv := []) hW' (fun _ _ _ => (trodAll_cons_mk (shut_bool Yba.underlying4 _) trodAll_mk0)) (fun sp _ => (trodAll_cons_mk (shut_int Yba.underlying22 w0) (trodAll_cons_mk (shut_int Yba.underlying22 w1) (trodAll_cons_mk (shut_int Yba.underlying22 w2) (trodAll_cons_mk (shut_int Yba.underlying22 w3) (trodAll_cons_mk (shut_int Yba.underlying22 w4) trodAll_mk0)))))) (fun _ _ => rfl) rfl
    (hg.frame _) hg.2.1 (ok_one (by kernel_rfl) rfl (okWide_bool_mk Yba.underlying4 _))⟩

theorem over : Rows.lawS1379CModelRow.holds Yba.pinned (OpenSpec.ofChange Rows.lawS1379CModelSpec) :=
  OpenClaim.holds_of_wide 6 Yba.f6 rfl rfl rfl rfl rfl rfl rfl ⟨rfl, rfl, rfl, rfl, rfl⟩ rfl rfl rfl rfl rfl (by kernel_rfl) Yba.func6 (by kernel_rfl)
    (of_decide_eq_true (by kernel_rfl)) (by unfold Func.isWrapper; first | (rw [if_pos (by decide +kernel)]; kernel_rfl) | (rw [if_neg (by decide +kernel)]; exact ⟨rfl, rfl⟩))
    (fun os started H enc _ => lifted os started H enc)

/-- ████ THE STATEMENT ████ -/
theorem proved : Rows.LawS1379CModelSaid :=
  over
#print axioms proved
end Go.Proofs.Ybulkabno.lawS1379CModel
