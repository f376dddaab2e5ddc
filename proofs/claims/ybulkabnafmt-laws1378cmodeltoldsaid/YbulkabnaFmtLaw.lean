/-
  The law: gpuDemand and its model agree, whatever the ten inputs.
-/
import Derived.Test.YbulkabnaFmtGpu
namespace Go.Proofs.YbulkabnaFmt
open Go.RowKit Go.Maps Go.WideMaps

theorem bad_pw : ∀ pg pc pr pm : Bool, badIn pg pc pr pm true = false → pg = false ∧ pc = false ∧ pr = false ∧ pm = false := by decide
theorem bad_pg : ∀ pc pr pm : Bool, badIn true pc pr pm false = false → pc = false ∧ pr = false ∧ pm = false := by decide
theorem bad_last : ∀ pc pr pm : Bool, badIn false pc pr pm false = false → (pr && pm) = false := by decide
theorem bad_not : ∀ pc pr pm : Bool, (pc || pr || pm) = false → pc = false ∧ pr = false ∧ pm = false := by decide

theorem amt_bd {b : Bool} {a : Int} (h1 : -9223372036854775808 ≤ a) (h2 : a ≤ 9223372036854775807) : -9223372036854775808 ≤ amt b a ∧ amt b a ≤ 9223372036854775807 := by
  unfold amt; split <;> omega

/-- zzs1378cmodel, whole. -/
theorem model7 (q : In) (hq : q.Wf) (w : World) :
    Calls Ybaf.prog 7 #[.bool q.pg, .bool q.pc, .bool q.pr, .bool q.pm, .bool q.pw, .int .i64 q.ag, .int .i64 q.ac, .int .i64 q.ar, .int .i64 q.am, .int .i64 q.aw] w fun e w' =>
      e = .returned (.tuple #[agg7 (modelDm q).1, .bool (modelDm q).2]) ∧ Below w.heap.size w w' := by
  have hg := wf_bounds hq.g
  have hc := wf_bounds hq.c
  have hr := wf_bounds hq.r
  obtain ⟨pg, pc, pr, pm, pw, ag, ac, ar, am, aw⟩ := q
  dsimp only at hg hc hr ⊢
  cases hb : badIn pg pc pr pm pw with
  | true =>
    rw [show modelDm ⟨pg, pc, pr, pm, pw, ag, ac, ar, am, aw⟩ = (zeroDm, false) from model_bad hb]
    exact model7_bad _ _ _ _ _ _ _ _ _ _ hb w
  | false =>
    cases pw with
    | true =>
      obtain ⟨rfl, rfl, rfl, rfl⟩ := bad_pw _ _ _ _ hb
      exact model7_w _ _ _ _ _ w
    | false =>
      cases pg with
      | true =>
        obtain ⟨rfl, rfl, rfl⟩ := bad_pg _ _ _ hb
        exact model7_g _ _ _ _ _ hg.1 hg.2 w
      | false =>
        cases ha : (pc || pr || pm) with
        | true =>
          have h1 := bad_last _ _ _ hb
          have e : modelDm ⟨false, pc, pr, pm, false, ag, ac, ar, am, aw⟩ = lastDm pc pr pm (share (amt pc ac)) (share (amt pr ar)) (amt pm am) := by
            simp only [modelDm, hb, ha]; rfl
          rw [e]
          exact model7_last pc pr pm ag ac ar am aw _ _ _ rfl rfl rfl (amt_bd hc.1 hc.2).1 (amt_bd hc.1 hc.2).2 (amt_bd hr.1 hr.2).1 (amt_bd hr.1 hr.2).2 ha h1 _ rfl w
        | false =>
          obtain ⟨rfl, rfl, rfl⟩ := bad_not _ _ _ ha
          exact model7_none _ _ _ _ _ w

theorem gpu6_ok (q : In) (hq : q.Wf) (B fb fo fc : Nat) (w : World) (hdev : Dev w B q) (h0 : 0 < w.heap.size) (hfb : fb < w.heap.size) (hB : B < w.heap.size)
    (hg : w.cell? ⟨0, 0, none⟩ = some (.slice (some ⟨fb, fo, none⟩) 5 fc)) (hf : ∀ k, k < 5 → w.cell? ⟨fb, fo + k, none⟩ = some (.string (fm k))) (d : Dm) (hd : modelDm q = (d, true)) :
    Calls Ybaf.prog 6 #[.agg (vR B)] w fun e w' => e = .returned (.tuple #[agg7 d, .nilIface]) ∧ Below w.heap.size w w' :=
  (gpu6 q hq B fb fo fc w hdev h0 hfb hB hg hf _ hd).mono fun e w' hh => by
    obtain ⟨er, rfl, ⟨_, rfl⟩ | ⟨h, _⟩, hb⟩ := hh
    · exact ⟨rfl, hb⟩
    · cases h
theorem gpu6_bad (q : In) (hq : q.Wf) (B fb fo fc : Nat) (w : World) (hdev : Dev w B q) (h0 : 0 < w.heap.size) (hfb : fb < w.heap.size) (hB : B < w.heap.size)
    (hg : w.cell? ⟨0, 0, none⟩ = some (.slice (some ⟨fb, fo, none⟩) 5 fc)) (hf : ∀ k, k < 5 → w.cell? ⟨fb, fo + k, none⟩ = some (.string (fm k))) (d : Dm) (hd : modelDm q = (d, false)) :
    Calls Ybaf.prog 6 #[.agg (vR B)] w fun e w' => ∃ p, e = .returned (.tuple #[agg7 d, .iface 52 (.pointer (some p))]) ∧ Below w.heap.size w w' :=
  (gpu6 q hq B fb fo fc w hdev h0 hfb hB hg hf _ hd).mono fun e w' hh => by
    obtain ⟨er, rfl, ⟨h, _⟩ | ⟨_, p, rfl⟩, hb⟩ := hh
    · cases h
    · exact ⟨p, rfl, hb⟩
theorem model7v (q : In) (hq : q.Wf) (d : Dm) (ok : Bool) (hd : modelDm q = (d, ok)) (w : World) :
    Calls Ybaf.prog 7 #[.bool q.pg, .bool q.pc, .bool q.pr, .bool q.pm, .bool q.pw, .int .i64 q.ag, .int .i64 q.ac, .int .i64 q.ar, .int .i64 q.am, .int .i64 q.aw] w fun e w' =>
      e = .returned (.tuple #[agg7 d, .bool ok]) ∧ Below w.heap.size w w' := by
  have := model7 q hq w
  rw [hd] at this
  exact this

set_option maxRecDepth 100000 in
set_option maxHeartbeats 1000000 in
theorem law3 (q : In) (hq : q.Wf) (fb fo fc : Nat) (w : World) (h0 : 0 < w.heap.size) (hfb : fb < w.heap.size)
    (hg : w.cell? ⟨0, 0, none⟩ = some (.slice (some ⟨fb, fo, none⟩) 5 fc)) (hf : ∀ k, k < 5 → w.cell? ⟨fb, fo + k, none⟩ = some (.string (fm k))) :
    Calls Ybaf.prog 3 #[.bool q.pg, .bool q.pc, .bool q.pr, .bool q.pm, .bool q.pw, .int .i64 q.ag, .int .i64 q.ac, .int .i64 q.ar, .int .i64 q.am, .int .i64 q.aw] w fun e w' =>
      e = .returned (.bool true) ∧ Below w.heap.size w w' := by
  obtain ⟨d, ok, hd⟩ : ∃ d ok, modelDm q = (d, ok) := ⟨_, _, rfl⟩
  have HD : Hid (modelDm q = (d, ok)) := hd
  have HF : Hid (∀ k, k < 5 → w.cell? ⟨fb, fo + k, none⟩ = some (.string (fm k))) := hf
  have HG : Hid (w.cell? ⟨0, 0, none⟩ = some (.slice (some ⟨fb, fo, none⟩) 5 fc)) := hg
  clear hd hf hg
  obtain ⟨dk, dc, dw, du, dr, dm, db⟩ := d
  go_enter Ybaf.func3, Ybaf.ntmps3
  go_wp2_with fail
  refine (map5 q hq _).mono ?_
  rintro e w1 ⟨rfl, hdev, hb1⟩
  have HDV : Hid (Dev w1 w.heap.size q) := hdev
  have hz1 := World.ownsMap.lt hdev
  clear hdev
  go_wp2_with fail
  have hbA : Below w1.heap.size w1 (w1.alloc (.cells (vR w.heap.size) 27)) := bel1
  have hdA : Dev (w1.alloc (.cells (vR w.heap.size) 27)) w.heap.size q := HDV.out.keep (hbA.block _ hz1)
  have hbB : Below w.heap.size w (w1.alloc (.cells (vR w.heap.size) 27)) := hb1.trans (hbA.mono hb1.size)
  have HA : Hid (Dev (w1.alloc (.cells (vR w.heap.size) 27)) w.heap.size q ∧ Below w.heap.size w (w1.alloc (.cells (vR w.heap.size) 27))) := ⟨hdA, hbB⟩
  clear hbA hdA hbB HDV
  cases ok with
  | true =>
    refine (gpu6_ok q hq w.heap.size fb fo fc _ HA.out.1 (by simp) (by simp; omega) (by simp; omega) ((HA.out.2.cell (p := ⟨0, 0, none⟩) h0).trans HG.out) (fun k hk => (HA.out.2.cell (p := ⟨fb, fo + k, none⟩) hfb).trans (HF.out k hk)) _ HD.out).mono ?_
    rintro e w2 ⟨rfl, hb2⟩
    have hbW : Below w.heap.size w w2 := HA.out.2.trans (hb2.mono HA.out.2.size)
    clear HA HF HG hb2
    go_wp2_with fail
    refine (model7v q hq _ _ HD.out _).mono ?_
    rintro e w3 ⟨rfl, hb3⟩
    obtain ⟨c0, c1, c2, c3, c4, c5, c6⟩ := keep7 hb3
    have hz3 := hb3.size
    simp only [World.size_alloc] at hz3
    have hs3 : w2.heap.size < w3.heap.size := by omega
    have hs4 : w2.heap.size < w3.heap.size + 1 := by omega
    have hbV : Below w.heap.size w w3 := (hbW.al _).trans (hb3.mono (hbW.al _).size)
    clear HD hb3
    go_wp2
    go_ret
    exact ⟨rfl, hbV.al _⟩
  | false =>
    refine (gpu6_bad q hq w.heap.size fb fo fc _ HA.out.1 (by simp) (by simp; omega) (by simp; omega) ((HA.out.2.cell (p := ⟨0, 0, none⟩) h0).trans HG.out) (fun k hk => (HA.out.2.cell (p := ⟨fb, fo + k, none⟩) hfb).trans (HF.out k hk)) _ HD.out).mono ?_
    rintro e w2 ⟨p, rfl, hb2⟩
    have hbW : Below w.heap.size w w2 := HA.out.2.trans (hb2.mono HA.out.2.size)
    clear HA HF HG hb2
    go_wp2_with fail
    refine (model7v q hq _ _ HD.out _).mono ?_
    rintro e w3 ⟨rfl, hb3⟩
    obtain ⟨c0, c1, c2, c3, c4, c5, c6⟩ := keep7 hb3
    have hz3 := hb3.size
    simp only [World.size_alloc] at hz3
    have hs3 : w2.heap.size < w3.heap.size := by omega
    have hs4 : w2.heap.size < w3.heap.size + 1 := by omega
    have hbV : Below w.heap.size w w3 := (hbW.al _).trans (hb3.mono (hbW.al _).size)
    clear HD hb3
    go_wp2
    go_ret
    exact ⟨rfl, hbV.al _⟩
end Go.Proofs.YbulkabnaFmt
