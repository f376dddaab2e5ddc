/-
  THE CARD of LawS1378CModel: told and tied.
-/
import Derived.Test.YbulkabnaFmtRows
import Derived.Test.YbulkabnaFmtTie
import Derived.Test.YbulkabnaFmtCards
import Derived.Test.YbulkabnaFmtLaw
import Derived.ProofKit
import Derived.LaidMore
import Derived.OpenShut
import Derived.OpenVars
import Derived.Stop.JoinedTold
import Derived.Deep.DeepWitnessRef
import Derived.SevenTiedAt
namespace Go.Proofs.YbulkabnaFmt
open Go.ChangeShapes Go.WideShapes Go.ChangeAt Go.RowKit
open Go.Extern.Stop Go.Stop Go.Extern
set_option linter.unusedVariables false

theorem own : ownKnob Ybaf.prog.godebug = none := by kernel_rfl
theorem laidOut : laidOutB Ybaf.pinned.checked.prog = true := by kernel_rfl
theorem stopsIs : Ybaf.pinned.checked.prog.stops = ["fmt.errorf"] := by kernel_rfl
theorem stopKnobs : Ybaf.pinned.checked.prog.stopKnobs = [] := by kernel_rfl
theorem quietOs (os : Os) : Stop.quiet Ybaf.pinned.checked.prog os := by
  intro k hk
  rw [stopKnobs] at hk
  cases hk
/-- The name of the listed variable. -/
def vname : String := Rows.lawS1378CModelSpec.vars.headD ""
theorem gForms : Ybaf.prog.globalNamed vname = some 0 := by kernel_rfl
theorem tForms : (Ybaf.prog.globals[0]?).map (·.type) = some 41 := by kernel_rfl
theorem cells42 : Ybaf.prog.cellsOf 42 = 1 := by kernel_rfl

theorem door_met (os : Os) (args : Array Value) : laidMetH Ybaf.prog Rows.lawS1378CModelRow.laid ((World.doorLaid Ybaf.prog 400 os).forCall (fun _ _ => 0) ⟨#[], args, []⟩).memory :=
  laidMetH_of_parts3 (fuel := 8) (laidMet_of_run' 8 (by kernel_rfl) (by kernel_rfl)) (by kernel_rfl) (by kernel_rfl)

theorem str_cell {W : World} {a : Addr} {i : Nat} {bs : List UInt8} (h : ∃ v n q, W.cell? (a.add i) = some v ∧ DataW.trod (fun _ => ()) Ybaf.prog W 0 (fun _ => true) false n 42 [v] = some (.lit (.string bs), q)) :
    W.cell? (a.add i) = some (.string ⟨bs.toArray⟩) := by
  obtain ⟨v, n, q, hc, ht⟩ := h
  obtain ⟨s, e1, e2, _⟩ := DataW.trod_string Ybaf.underlying42 ht
  simp only [List.cons.injEq, and_true] at e1
  simp only [Prod.mk.injEq, DataW.lit.injEq, Lit.string.injEq] at e2
  rw [hc, e1, e2.1]

/-- What the condition on gpuForms gives the walk. -/
theorem of_laid {W : World} (h : laidMetH Ybaf.prog Rows.lawS1378CModelRow.laid W) : ∃ fb fo fc, 0 < W.heap.size ∧ fb < W.heap.size ∧ W.cell? ⟨0, 0, none⟩ = some (.slice (some ⟨fb, fo, none⟩) 5 fc) ∧ ∀ k, k < 5 → W.cell? ⟨fb, fo + k, none⟩ = some (.string (fm k)) := by
  rw [MakeChecks.laidMetH_plain _ _ _ (by kernel_rfl)] at h
  obtain ⟨ps, ⟨g0, t0, cs0, f0, p0, q0, hg0, ht0, hv0, hd0, _, _⟩, _, _⟩ := h
  obtain rfl := Option.some.inj (gForms.symm.trans hg0)
  obtain rfl := Option.some.inj (tForms.symm.trans ht0)
  obtain ⟨a, cap, hcs, hle, hel⟩ := open_row Ybaf.underlying41 cells42 hd0
  have hcell : W.cell? ⟨0, 0, none⟩ = some (.slice (some a) 5 cap) := by
    have := World.var?_cell hg0 hv0 0
    rw [Array.eq_one_of_toList hcs] at this
    simpa using this
  have hz : ∀ {b o : Nat} {v : Value}, W.cell? ⟨b, o, none⟩ = some v → b < W.heap.size := by
    intro b o v hb
    rcases Nat.lt_or_ge b W.heap.size with h | h
    · exact h
    · simp [World.cell?, Array.getElem?_eq_none h] at hb
  have hk : ∀ k, k < 5 → W.cell? (a.add k) = some (.string (fm k)) := by
    intro k hk
    match k, hk with
    | 0, _ => exact str_cell (hel 0 _ rfl)
    | 1, _ => exact str_cell (hel 1 _ rfl)
    | 2, _ => exact str_cell (hel 2 _ rfl)
    | 3, _ => exact str_cell (hel 3 _ rfl)
    | 4, _ => exact str_cell (hel 4 _ rfl)
  obtain ⟨b, off, spot⟩ := a
  have hspot : spot = none := by simpa [Addr.add] using World.cell?_spot (hk 0 (by omega))
  subst hspot
  have hk' : ∀ k, k < 5 → W.cell? ⟨b, off + k, none⟩ = some (.string (fm k)) := fun j hj => by rw [← Go.WideShapes.add_plain]; exact hk j hj
  exact ⟨b, off, cap, hz hcell, hz (hk' 0 (by omega)), hcell, hk'⟩

theorem vars_one {H : Type} {enc : TypeId × Value → H} {P : Program} {w : World} {spare : Nat → Bool} {n : String} {gs : List (DataW H)} {ps : List MemPlace} (h : DataW.TrodVars enc P w spare [n] gs ps) : ∃ g1, gs = [g1] := by
  match gs, h with
  | [], h => exact h.elim
  | [g1], _ => exact ⟨g1, rfl⟩
  | _ :: _ :: _, ⟨_, _, _, _, _, _, _, _, _, _, h, _⟩ => exact h.elim

set_option maxRecDepth 100000 in
set_option maxHeartbeats 1600000 in
theorem t_lifted (os : Os) (started : os.Started) (H : Type) (enc : TypeId × Value → H) :
    ReturnsInTold none {} Ybaf.checked os 3 .any Input.okWide ((OpenSpec.ofChange Rows.lawS1378CModelSpec).preRow enc Ybaf.prog Ybaf.f3 [] false Rows.lawS1378CModelRow.laid) (fun F => ((OpenSpec.ofChange Rows.lawS1378CModelSpec).at F).post enc Ybaf.prog Ybaf.f3 false true false false) (aloneAtReturn Ybaf.prog) nothingAlways := by
  refine returnsInTold_of_row (C := Ybaf.checked) (s := OpenSpec.ofChange Rows.lawS1378CModelSpec) (by kernel_rfl) own started (by kernel_rfl) Ybaf.func3
    (OpenSpec.witness_stopped_atRef (enc := enc) (C := Ybaf.checked) false (World.doorLaid Ybaf.prog 400 os) #[.bool false, .bool false, .bool false, .bool false, .bool false, .int .i64 0, .int .i64 0, .int .i64 0, .int .i64 0, .int .i64 0] rfl (by kernel_rfl) (by kernel_rfl) (by kernel_rfl)
      (OpenSpec.preRow_of_B rfl 8 (by kernel_rfl) (by kernel_rfl) (door_met os _))) ?_
  intro F W base0 args ds gs before _ hF hval0 hW _ _ _ hL _
  have hval : ∀ (j : Nat) t v, Ybaf.f3.params[j]? = some t → args[j]? = some v → Value.okWide Ybaf.prog W .any base0 t v := hval0
  have hW' := hW
  obtain ⟨p, q, hA0, hV0, rfl, hfz, hnd⟩ := hW
  have hA : DataW.TrodAll enc Ybaf.prog W 0 (fun _ => true) true Ybaf.f3.params.toList args.toList ds p := hA0
  have hV : DataW.TrodVars enc Ybaf.prog W (fun _ => true) Rows.lawS1378CModelSpec.vars gs q := hV0
  rw [Ybaf.params3] at hA hval
  obtain ⟨v0, vs0, d0, ds0, p0, q0, hargs, rfl, rfl, h0, r0⟩ := trodAll_cons hA
  obtain ⟨v1, vs1, d1, ds1, p1, q1, rfl, rfl, rfl, h1, r1⟩ := trodAll_cons r0
  obtain ⟨v2, vs2, d2, ds2, p2, q2, rfl, rfl, rfl, h2, r2⟩ := trodAll_cons r1
  obtain ⟨v3, vs3, d3, ds3, p3, q3, rfl, rfl, rfl, h3, r3⟩ := trodAll_cons r2
  obtain ⟨v4, vs4, d4, ds4, p4, q4, rfl, rfl, rfl, h4, r4⟩ := trodAll_cons r3
  obtain ⟨v5, vs5, d5, ds5, p5, q5, rfl, rfl, rfl, h5, r5⟩ := trodAll_cons r4
  obtain ⟨v6, vs6, d6, ds6, p6, q6, rfl, rfl, rfl, h6, r6⟩ := trodAll_cons r5
  obtain ⟨v7, vs7, d7, ds7, p7, q7, rfl, rfl, rfl, h7, r7⟩ := trodAll_cons r6
  obtain ⟨v8, vs8, d8, ds8, p8, q8, rfl, rfl, rfl, h8, r8⟩ := trodAll_cons r7
  obtain ⟨v9, vs9, d9, ds9, p9, q9, rfl, rfl, rfl, h9, r9⟩ := trodAll_cons r8
  obtain ⟨rfl, rfl, rfl⟩ := trodAll_nil r9
  obtain rfl : args = #[v0, v1, v2, v3, v4, v5, v6, v7, v8, v9] := by cases args; simp_all
  obtain ⟨g1, hgs⟩ : ∃ g1, gs = [g1] := vars_one hV
  subst hgs
  obtain ⟨a0, rfl, rfl, rfl⟩ := open_bool Ybaf.underlying4 (hval 0 4 v0 rfl rfl) h0
  obtain ⟨a1, rfl, rfl, rfl⟩ := open_bool Ybaf.underlying4 (hval 1 4 v1 rfl rfl) h1
  obtain ⟨a2, rfl, rfl, rfl⟩ := open_bool Ybaf.underlying4 (hval 2 4 v2 rfl rfl) h2
  obtain ⟨a3, rfl, rfl, rfl⟩ := open_bool Ybaf.underlying4 (hval 3 4 v3 rfl rfl) h3
  obtain ⟨a4, rfl, rfl, rfl⟩ := open_bool Ybaf.underlying4 (hval 4 4 v4 rfl rfl) h4
  obtain ⟨a5, rfl, rfl, rfl, w5⟩ := open_int Ybaf.underlying2 (hval 5 2 v5 rfl rfl) h5
  obtain ⟨a6, rfl, rfl, rfl, w6⟩ := open_int Ybaf.underlying2 (hval 6 2 v6 rfl rfl) h6
  obtain ⟨a7, rfl, rfl, rfl, w7⟩ := open_int Ybaf.underlying2 (hval 7 2 v7 rfl rfl) h7
  obtain ⟨a8, rfl, rfl, rfl, w8⟩ := open_int Ybaf.underlying2 (hval 8 2 v8 rfl rfl) h8
  obtain ⟨a9, rfl, rfl, rfl, w9⟩ := open_int Ybaf.underlying2 (hval 9 2 v9 rfl rfl) h9
  obtain ⟨fb, fo, fc, hz, hfb, hgc, hfc⟩ := of_laid hL
  clear hA0 hV0 hval0
  refine (law3 ⟨a0, a1, a2, a3, a4, a5, a6, a7, a8, a9⟩ ⟨w5, w6, w7, w8, w9⟩ fb fo fc W hz hfb hgc hfc).mono fun e W' ⟨he, bel⟩ => ?_
  subst he
  refine ⟨_, rfl, _, _, _, [], [], q, hW', ?_, ?_, ?_, bel.frame _, fun h => by cases h⟩
  · exact trodAll_mk1 (shut_bool Ybaf.underlying4 _)
  · exact (trodAll_cons_mk (shut_bool Ybaf.underlying4 _) (trodAll_cons_mk (shut_bool Ybaf.underlying4 _) (trodAll_cons_mk (shut_bool Ybaf.underlying4 _) (trodAll_cons_mk (shut_bool Ybaf.underlying4 _) (trodAll_cons_mk (shut_bool Ybaf.underlying4 _) (trodAll_cons_mk (shut_int Ybaf.underlying2 w5) (trodAll_cons_mk (shut_int Ybaf.underlying2 w6) (trodAll_cons_mk (shut_int Ybaf.underlying2 w7) (trodAll_cons_mk (shut_int Ybaf.underlying2 w8) (trodAll_cons_mk (shut_int Ybaf.underlying2 w9) trodAll_mk0))))))))))
  · exact Below.trodVars laidOut bel (by kernel_rfl) hV

theorem over : Rows.LawS1378CModelToldSaid :=
  Claim7.holds_of_told_tied_any_at .later 3 Ybaf.f3 "fmt.errorf" [] [] _ _ _ _ _ (by kernel_rfl) rfl rfl rfl laidOut (by kernel_rfl) rfl ⟨rfl, rfl, rfl, rfl, rfl, rfl, rfl⟩ rfl rfl (by kernel_rfl) (by kernel_rfl) Ybaf.func3 (by kernel_rfl)
    (of_decide_eq_true (by kernel_rfl)) (by unfold Func.isWrapper; first | (rw [if_pos (by decide +kernel)]; kernel_rfl) | (rw [if_neg (by decide +kernel)]; exact ⟨rfl, rfl⟩)) stopsIs.symm rfl stopKnobs.symm (by kernel_rfl)
    (by kernel_rfl) (by kernel_rfl) (by kernel_rfl) (by kernel_rfl) (by kernel_rfl) (by kernel_rfl) (by kernel_rfl) (by kernel_rfl) (by kernel_rfl) rfl (by kernel_rfl) rfl rfl
    rfl rfl
    rfl (by kernel_rfl) (by kernel_rfl) (by kernel_rfl) (by decide) (by kernel_rfl) lawS1378CModel_row_tie
    (OpenClaim.moreEntering_of (by kernel_rfl) (by kernel_rfl) (by kernel_rfl) (by kernel_rfl) (by kernel_rfl) (by kernel_rfl) (by kernel_rfl) (by kernel_rfl) (by kernel_rfl) (by kernel_rfl))
    ⟨_, WideRow.started_initial, quietOs _⟩
    (fun os started _ H enc _ => t_lifted os started H enc)

/-- THE STATEMENT -/
theorem proved : Rows.LawS1378CModelToldSaid := over
#print axioms proved
end Go.Proofs.YbulkabnaFmt
