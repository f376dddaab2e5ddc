/-
  Rows.LawS1379CEdgeSaid: the row's step, after the shell that the kit's tool wrote.
-/
import Derived.Test.YbulkabnoRows
import Derived.WalkKit
import Derived.ProofKit
import Derived.OpenShut
import Derived.ShutString
import Derived.Test.YbulkabnoFits
namespace Go.Proofs.Ybulkabno.lawS1379CEdge
open Go.ChangeShapes Go.WideShapes Go.ChangeAt Go.RowKit
open Go.ChangeMaps (open_string shut_string)
set_option linter.unusedVariables false      -- a walk need not use every 'w<i>' (that an integer argument fits its kind)

theorem own : ownKnob Yba.prog.godebug = none := by kernel_rfl

theorem grown_trans {a b c : World} (h1 : Grown a b) (h2 : Grown b c) : Grown a c :=
  ⟨World.keptBut_trans h1.1 h2.1, fun x => (h2.2.1 x).trans (h1.2.1 x), Nat.le_trans h1.2.2 h2.2.2⟩

set_option maxRecDepth 100000 in
set_option maxHeartbeats 1000000 in
theorem walk (a0 : Int) (a1 : Int) (a2 : Int) (a3 : Int) (a4 : Int) (w0 : (Lit.int .u16 a0).wf = true) (w1 : (Lit.int .u16 a1).wf = true) (w2 : (Lit.int .u16 a2).wf = true) (w3 : (Lit.int .u16 a3).wf = true) (w4 : (Lit.int .i8 a4).wf = true) (w : World) :
    Calls Yba.prog 7 #[.int .u16 a0, .int .u16 a1, .int .u16 a2, .int .u16 a3, .int .i8 a4] w fun e w' => e = .returned (.bool true) ∧ Grown w w' := by
  simp [Lit.wf, IntKind.min, IntKind.max, IntKind.signed, IntKind.bits] at w0 w1 w2 w3 w4
  obtain ⟨l0, u0⟩ := w0
  obtain ⟨l1, u1⟩ := w1
  obtain ⟨l2, u2⟩ := w2
  obtain ⟨l3, u3⟩ := w3
  obtain ⟨l4, u4⟩ := w4
  obtain ⟨r, hr⟩ : ∃ r, r = a0 + 1 := ⟨_, rfl⟩
  have r0 : 1 ≤ r := by omega
  have r1 : r ≤ 65536 := by omega
  have P20 : 0 ≤ a1 * (r * 1000000) := Int.mul_nonneg l1 (by omega)
  have P21 : a1 * (r * 1000000) ≤ 65535 * 65536000000 := Int.mul_le_mul u1 (by omega) (by omega) (by decide)
  have P30 : 0 ≤ a2 * a3 := Int.mul_nonneg l2 l3
  have P31 : a2 * a3 ≤ 65535 * 65535 := Int.mul_le_mul u2 u3 l3 (by decide)
  have hfit := fun W => fits_ok r a1 a2 a3 0 W (by omega) (by omega) l1 (by omega) l2 (by omega) l3 (by omega) (by decide) (by decide) ⟨by omega, by omega, by omega⟩
  have hok := fun cold (k0 : 0 ≤ cold) (k1 : cold ≤ 9223372036854775807) (hF : Fits r a1 a2 a3 cold) W hb c4 c6 => spanOf_ok w.heap.size r a1 a2 a3 cold W hb c4 c6 r0 (by omega) l1 (by omega) l2 (by omega) l3 (by omega) k0 k1 hF
  have hno := fun cold (k0 : 0 ≤ cold) (k1 : cold ≤ 9223372036854775807) (hF : ¬ Fits r a1 a2 a3 cold) W hb c4 c6 => spanOf_no w.heap.size r a1 a2 a3 cold W hb c4 c6 r0 (by omega) l1 (by omega) l2 (by omega) l3 (by omega) k0 k1 hF
  have hfo : ∀ cold, a1 * (r * 1000000) + a2 * a3 + cold ≤ 9223372036854775807 → Fits r a1 a2 a3 cold := fun cold h => ⟨by omega, by omega, h⟩
  have hfn : ∀ cold, 9223372036854775807 < a1 * (r * 1000000) + a2 * a3 + cold → ¬ Fits r a1 a2 a3 cold := fun cold h hF => by have := hF.2.2; omega
  obtain ⟨p1, hp1⟩ : ∃ p1, p1 = r * 1000000 := ⟨_, rfl⟩
  simp only [← hp1] at P20 P21 hfit hfo hfn
  simp only [← hp1] at hok
  obtain ⟨p2, hp2⟩ : ∃ p2, p2 = a1 * p1 := ⟨_, rfl⟩
  simp only [← hp2] at P20 P21 hfit hfo hfn
  simp only [← hp2] at hok
  obtain ⟨p3, hp3⟩ : ∃ p3, p3 = a2 * a3 := ⟨_, rfl⟩
  simp only [← hp3] at P30 P31 hfo hfn
  have hr' := hr.symm
  have hp3' := hp3.symm
  by_cases hd : 0 < a4
  · by_cases hs : p2 + p3 < a4
    · have q1 : 9223372036854775807 - a4 < 9223372036854775807 - (p2 + p3) := by omega
      clear hp1 hp2 hp3 hr hok hno hfo hfn
      go_enter Yba.func7, Yba.ntmps7
      go_wp2_with fail
      refine (hfit _).mono ?_
      rintro e w5 ⟨rfl, hw5⟩
      rw [hw5]
      clear hw5 w5
      go_wp2
      go_ret
      exact ⟨rfl, Grown.refl _⟩
    · have q1 : ¬ 9223372036854775807 - a4 < 9223372036854775807 - (p2 + p3) := by omega
      have hspan := hno (9223372036854775807 - (p2 + p3) + a4) (by omega) (by omega) (hfn _ (by omega))
      clear hp1 hp2 hp3 hr hok hno hfo hfn
      go_enter Yba.func7, Yba.ntmps7
      go_wp2_with fail
      refine (hfit _).mono ?_
      rintro e w5 ⟨rfl, hw5⟩
      rw [hw5]
      clear hw5 w5
      go_wp2_with fail
      refine (hspan _ (by simp; omega) (by simp) (by simp)).mono ?_
      rintro e w6 ⟨rfl, hg⟩
      have HG : Hid (Grown w w6) := grown_trans (((Grown.refl _).alloc _ _).alloc _ _) hg
      clear hg
      go_wp2
      go_ret
      exact ⟨rfl, HG.out⟩
  · have hspan := hok (9223372036854775807 - (p2 + p3) + a4) (by omega) (by omega) (hfo _ (by omega))
    have q0 : ¬ 9223372036854775807 - (p2 + p3) + a4 < 0 := by omega
    clear hp1 hp2 hp3 hr hok hno hfo hfn
    go_enter Yba.func7, Yba.ntmps7
    go_wp2_with fail
    refine (hfit _).mono ?_
    rintro e w5 ⟨rfl, hw5⟩
    rw [hw5]
    clear hw5 w5
    go_wp2_with fail
    refine (hspan _ (by simp; omega) (by simp) (by simp)).mono ?_
    rintro e w6 ⟨rfl, hg⟩
    have HG : Hid (Grown w w6) := grown_trans (((Grown.refl _).alloc _ _).alloc _ _) hg
    clear hg
    go_wp2
    go_ret
    exact ⟨rfl, HG.out⟩

/-! ### THE ROW's STEP: WRITTEN OUT: LEAVE IT -/
set_option maxRecDepth 100000 in
theorem lifted (os : Os) (started : os.Started) (H : Type) (enc : TypeId × Value → H) :
    ReturnsInHanded {} Yba.checked os 7 .any (Rows.lawS1379CEdgeSpec.pre6 enc Yba.prog Yba.f7 Rows.lawS1379CEdgeRow.domain false) (Rows.lawS1379CEdgeSpec.post enc Yba.prog Yba.f7 false true false false) := by
  refine returnsInHanded_of_change (C := Yba.checked) own started (by kernel_rfl) Yba.func7
    (ChangeSpec.witness6 (enc := enc) (C := Yba.checked) false ⟨#[], #[.int .u16 0, .int .u16 0, .int .u16 0, .int .u16 0, .int .i8 0], []⟩ 8 (by kernel_rfl) (by kernel_rfl) (by kernel_rfl) (by kernel_rfl)) ?_
  intro W base args ds gs before hval0 hW hcnd _
  have hval : ∀ (j : Nat) t v, Yba.f7.params[j]? = some t → args[j]? = some v → Value.okWide Yba.prog W .any base t v := hval0
  have hW' := hW
  obtain ⟨p, q, hA0, hV, rfl, hfz, hnd⟩ := hW
  have hA : DataW.TrodAll enc Yba.prog W 0 (fun _ => true) true Yba.f7.params.toList args.toList ds p := hA0
  rw [Yba.params7] at hA hval
  obtain ⟨v0, vs0, d0, ds0, p0, q0, hargs, rfl, rfl, h0, r0⟩ := trodAll_cons hA
  obtain ⟨v1, vs1, d1, ds1, p1, q1, rfl, rfl, rfl, h1, r1⟩ := trodAll_cons r0
  obtain ⟨v2, vs2, d2, ds2, p2, q2, rfl, rfl, rfl, h2, r2⟩ := trodAll_cons r1
  obtain ⟨v3, vs3, d3, ds3, p3, q3, rfl, rfl, rfl, h3, r3⟩ := trodAll_cons r2
  obtain ⟨v4, vs4, d4, ds4, p4, q4, rfl, rfl, rfl, h4, r4⟩ := trodAll_cons r3
  obtain ⟨rfl, rfl, rfl⟩ := trodAll_nil r4
  obtain rfl : args = #[v0, v1, v2, v3, v4] := by cases args; simp_all
  obtain ⟨rfl, rfl⟩ := trodVars_none hV
  obtain ⟨a0, rfl, rfl, rfl, w0⟩ := open_int Yba.underlying58 (hval 0 58 v0 rfl rfl) h0
  obtain ⟨a1, rfl, rfl, rfl, w1⟩ := open_int Yba.underlying58 (hval 1 58 v1 rfl rfl) h1
  obtain ⟨a2, rfl, rfl, rfl, w2⟩ := open_int Yba.underlying58 (hval 2 58 v2 rfl rfl) h2
  obtain ⟨a3, rfl, rfl, rfl, w3⟩ := open_int Yba.underlying58 (hval 3 58 v3 rfl rfl) h3
  obtain ⟨a4, rfl, rfl, rfl, w4⟩ := open_int Yba.underlying59 (hval 4 59 v4 rfl rfl) h4
  clear hA0 hval0
  simp only [List.append_nil] at hW'
  refine (walk a0 a1 a2 a3 a4 w0 w1 w2 w3 w4 W).mono fun e W' ⟨he, hg⟩ => ?_
  subst he
  exact ⟨_, rfl, post_of_same (pa := []) (pv := []) hW' (fun _ _ _ => (trodAll_cons_mk (shut_bool Yba.underlying4 _) trodAll_mk0)) (fun sp _ => (trodAll_cons_mk (shut_int Yba.underlying58 w0) (trodAll_cons_mk (shut_int Yba.underlying58 w1) (trodAll_cons_mk (shut_int Yba.underlying58 w2) (trodAll_cons_mk (shut_int Yba.underlying58 w3) (trodAll_cons_mk (shut_int Yba.underlying59 w4) trodAll_mk0)))))) (fun _ _ => rfl) rfl
    (hg.frame _) hg.2.1 (ok_one (by kernel_rfl) rfl (okWide_bool_mk Yba.underlying4 _))⟩

theorem over : Rows.lawS1379CEdgeRow.holds Yba.pinned (OpenSpec.ofChange Rows.lawS1379CEdgeSpec) :=
  OpenClaim.holds_of_wide 7 Yba.f7 rfl rfl rfl rfl rfl rfl rfl ⟨rfl, rfl, rfl, rfl, rfl⟩ rfl rfl rfl rfl rfl (by kernel_rfl) Yba.func7 (by kernel_rfl)
    (of_decide_eq_true (by kernel_rfl)) (by unfold Func.isWrapper; first | (rw [if_pos (by decide +kernel)]; kernel_rfl) | (rw [if_neg (by decide +kernel)]; exact ⟨rfl, rfl⟩))
    (fun os started H enc _ => lifted os started H enc)

/-- ████ THE STATEMENT ████ -/
theorem proved : Rows.LawS1379CEdgeSaid :=
  over
#print axioms proved
end Go.Proofs.Ybulkabno.lawS1379CEdge
