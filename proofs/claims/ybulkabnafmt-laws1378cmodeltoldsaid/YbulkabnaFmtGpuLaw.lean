/-
  gpuDemand: the laws without a walk, and what each world keeps.
-/
import Derived.Test.YbulkabnaFmtGpuPre
import Derived.Test.YbulkabnaFmtModelB
import Derived.Deep.LoopGhost
import Derived.Deep.DeepCutAuto
namespace Go.Proofs.YbulkabnaFmt
open Go.RowKit Go.Maps Go.WideMaps
set_option linter.unusedSimpArgs false

theorem share_bad {a : Int} {d : Dm} (h : share a = (d, false)) : d = zeroDm := by
  unfold share at h
  split at h
  · simp at h
  · split at h
    · simp at h
    · split at h
      · simp at h
      · simp at h; exact h.symm
/-- What both functions compute. -/
def modelDm (q : In) : Dm × Bool :=
  if badIn q.pg q.pc q.pr q.pm q.pw = true then (zeroDm, false)
  else if q.pw = true then (wholeDm q.aw, true)
  else if q.pg = true then gpuDm (share q.ag)
  else if (q.pc || q.pr || q.pm) = true then lastDm q.pc q.pr q.pm (share (amt q.pc q.ac)) (share (amt q.pr q.ar)) (amt q.pm q.am)
  else (zeroDm, true)

def selB (pg pc pr pm pw : Bool) : List Nat := (List.range 5).filter fun k => match k with | 0 => pg | 1 => pc | 2 => pr | 3 => pm | _ => pw
theorem sel_selB (q : In) : sel q 5 = selB q.pg q.pc q.pr q.pm q.pw := by
  rfl
theorem bad_law : ∀ pg pc pr pm pw : Bool, ∀ a, a < 5 → ∀ y, y < 5 → a < y → y < (selB pg pc pr pm pw).length → okp ((selB pg pc pr pm pw).getD a 0) ((selB pg pc pr pm pw).getD y 0) = false → badIn pg pc pr pm pw = true := by decide +kernel
theorem good_law : ∀ pg pc pr pm pw : Bool, badIn pg pc pr pm pw = true → ∃ a, a < 5 ∧ ∃ y, y < 5 ∧ a < y ∧ y < (selB pg pc pr pm pw).length ∧ okp ((selB pg pc pr pm pw).getD a 0) ((selB pg pc pr pm pw).getD y 0) = false := by decide +kernel

theorem bad_of {q : In} {L : List Nat} (hL : L = sel q 5) {a y : Nat} (h : a < y) (hy : y < L.length) (hn : ¬ okp (L.getD a 0) (L.getD y 0) = true) : badIn q.pg q.pc q.pr q.pm q.pw = true := by
  subst hL
  have h5 := sel_len q 5
  rw [sel_selB] at *
  exact bad_law _ _ _ _ _ a (by omega) y (by omega) h hy (by simpa using hn)
theorem notbad_of {q : In} {L : List Nat} (hL : L = sel q 5) (h : Good L L.length) : badIn q.pg q.pc q.pr q.pm q.pw = false := by
  subst hL
  cases hb : badIn q.pg q.pc q.pr q.pm q.pw with
  | false => rfl
  | true =>
    obtain ⟨a, _, y, _, hay, hy, hn⟩ := good_law _ _ _ _ _ hb
    rw [← sel_selB] at hy hn
    have := h a (by omega) y hay hy
    rw [this] at hn
    cases hn
theorem model_bad {q : In} (h : badIn q.pg q.pc q.pr q.pm q.pw = true) : modelDm q = (zeroDm, false) := by simp [modelDm, h]
theorem none_law : ∀ pg pc pr pm pw : Bool, (selB pg pc pr pm pw).length = 0 → pg = false ∧ pc = false ∧ pr = false ∧ pm = false ∧ pw = false := by decide +kernel
theorem model_none {q : In} {L : List Nat} (hL : L = sel q 5) (h : L.length = 0) : modelDm q = (zeroDm, true) := by
  subst hL
  rw [sel_selB] at h
  obtain ⟨h1, h2, h3, h4, h5⟩ := none_law _ _ _ _ _ h
  simp [modelDm, badIn, h1, h2, h3, h4, h5]
theorem bel_set7 {w W : World} {b : Nat} (h : Below w.heap.size w W) (hb : w.heap.size ≤ b) (v0 v1 v2 v3 v4 v5 v6 : Value) :
    Below w.heap.size w (((((((W.setCell ⟨b, 0, none⟩ v0).setCell ⟨b, 1, none⟩ v1).setCell ⟨b, 2, none⟩ v2).setCell ⟨b, 3, none⟩ v3).setCell ⟨b, 4, none⟩ v4).setCell ⟨b, 5, none⟩ v5).setCell ⟨b, 6, none⟩ v6) :=
  ((((((h.setCell hb v0).setCell hb v1).setCell hb v2).setCell hb v3).setCell hb v4).setCell hb v5).setCell hb v6
theorem Base.bw {w wr : World} {B fb fo : Nat} {q : In} (h : Base w B fb fo q wr) : Below w.heap.size w wr := (w2_bel w B).trans (h.bel.mono (by omega))
theorem Base.rc {w wr : World} {B fb fo : Nat} {q : In} (h : Base w B fb fo q wr) (i : Nat) : wr.cell? ⟨w.heap.size + 1, i, none⟩ = (w2Of w B).cell? ⟨w.heap.size + 1, i, none⟩ := h.bel.cell (p := ⟨w.heap.size + 1, i, none⟩) (by show w.heap.size + 1 < _; omega)
theorem Base.res {w wr : World} {B fb fo : Nat} {q : In} (h : Base w B fb fo q wr) :
    wr.cell? ⟨w.heap.size + 1, 0, none⟩ = some (.string ⟨#[]⟩) ∧ wr.cell? ⟨w.heap.size + 1, 1, none⟩ = some (.int .i64 0) ∧ wr.cell? ⟨w.heap.size + 1, 2, none⟩ = some (.bool false) ∧ wr.cell? ⟨w.heap.size + 1, 3, none⟩ = some (.int .i64 0) ∧
    wr.cell? ⟨w.heap.size + 1, 4, none⟩ = some (.int .i64 0) ∧ wr.cell? ⟨w.heap.size + 1, 5, none⟩ = some (.int .i64 0) ∧ wr.cell? ⟨w.heap.size + 1, 6, none⟩ = some (.bool false) := by
  simp only [h.rc]
  simp [w2Of]
theorem Base.rf {w wr : World} {B fb fo : Nat} {q : In} (h : Base w B fb fo q wr) (i : Nat) : wr.frozen? ⟨w.heap.size + 1, i, none⟩ = (w2Of w B).frozen? ⟨w.heap.size + 1, i, none⟩ := h.bel.frozen (p := ⟨w.heap.size + 1, i, none⟩) (by show w.heap.size + 1 < _; omega)
theorem Base.unf {w wr : World} {B fb fo : Nat} {q : In} (h : Base w B fb fo q wr) :
    wr.frozen? ⟨w.heap.size + 1, 0, none⟩ = false ∧ wr.frozen? ⟨w.heap.size + 1, 1, none⟩ = false ∧ wr.frozen? ⟨w.heap.size + 1, 2, none⟩ = false ∧ wr.frozen? ⟨w.heap.size + 1, 3, none⟩ = false ∧
    wr.frozen? ⟨w.heap.size + 1, 4, none⟩ = false ∧ wr.frozen? ⟨w.heap.size + 1, 5, none⟩ = false ∧ wr.frozen? ⟨w.heap.size + 1, 6, none⟩ = false := by
  simp only [h.rf]
  simp [w2Of]


theorem amount10 {W : World} {N B : Nat} {s : ByteArray} {v : Int} (h6 : W.cell? ⟨N, 6, none⟩ = some (.map (some B))) (hl : (Instr.lookup 22 (.map (some B)) (.string s) false).run Ybaf.prog W = .ok (.int .i64 v) W) :
    Calls Ybaf.prog 10 #[.string s, .pointer (some ⟨N, 0, none⟩)] W fun e w' => e = .returned (.int .i64 v) ∧ W = w' := by
  go_enter Ybaf.func10, Ybaf.ntmps10
  go_wp2
  go_ret
  exact ⟨rfl, rfl⟩

theorem head_law : ∀ pg pc pr pm pw : Bool, badIn pg pc pr pm pw = false → (selB pg pc pr pm pw).length ≠ 0 →
    ((selB pg pc pr pm pw).getD 0 0 = 4 ∧ pw = true) ∨ ((selB pg pc pr pm pw).getD 0 0 = 0 ∧ pw = false ∧ pg = true) ∨
    (((selB pg pc pr pm pw).getD 0 0 = 1 ∨ (selB pg pc pr pm pw).getD 0 0 = 2 ∨ (selB pg pc pr pm pw).getD 0 0 = 3) ∧ pw = false ∧ pg = false ∧ (pc || pr || pm) = true) := by decide +kernel
theorem head_cases {q : In} {L : List Nat} (hL : L = sel q 5) (hb : badIn q.pg q.pc q.pr q.pm q.pw = false) (hn : ¬ L.length = 0) :
    (L.getD 0 0 = 4 ∧ modelDm q = (wholeDm (valOf q 4), true)) ∨ (L.getD 0 0 = 0 ∧ modelDm q = gpuDm (share (valOf q 0))) ∨
    ((L.getD 0 0 = 1 ∨ L.getD 0 0 = 2 ∨ L.getD 0 0 = 3) ∧ modelDm q = lastDm q.pc q.pr q.pm (share (valOf q 1)) (share (valOf q 2)) (valOf q 3)) := by
  subst hL
  rw [sel_selB] at *
  rcases head_law _ _ _ _ _ hb hn with ⟨h, h1⟩ | ⟨h, h1, h2⟩ | ⟨h, h1, h2, h3⟩
  · refine .inl ⟨h, ?_⟩
    rw [modelDm, if_neg (by rw [hb]; decide), if_pos h1]
    simp [valOf, amt, h1]
  · refine .inr (.inl ⟨h, ?_⟩)
    rw [modelDm, if_neg (by rw [hb]; decide), if_neg (by rw [h1]; decide), if_pos h2]
    simp [valOf, amt, h2]
  · refine .inr (.inr ⟨h, ?_⟩)
    rw [modelDm, if_neg (by rw [hb]; decide), if_neg (by rw [h1]; decide), if_neg (by rw [h2]; decide), if_pos h3]
    rfl

theorem valOf_bd {q : In} (hq : q.Wf) (k : Nat) : -9223372036854775808 ≤ valOf q k ∧ valOf q k ≤ 9223372036854775807 := by
  have g := wf_bounds hq.g
  have c := wf_bounds hq.c
  have r := wf_bounds hq.r
  have m := wf_bounds hq.m
  have w := wf_bounds hq.w
  match k with
  | 0 => simp only [valOf, amt]; split <;> omega
  | 1 => simp only [valOf, amt]; split <;> omega
  | 2 => simp only [valOf, amt]; split <;> omega
  | 3 => simp only [valOf, amt]; split <;> omega
  | k + 4 => simp only [valOf, amt]; split <;> omega

theorem units12v {a : Int} {v : Value} {ok : Bool} (h : Shared a v ok) (form : ByteArray) (hlo : -9223372036854775808 ≤ a) (hhi : a ≤ 9223372036854775807) (w : World) :
    Calls Ybaf.prog 12 #[.string ⟨#[103, 112, 117]⟩, .string form, .int .i64 a] w fun e w' => ∃ er, e = .returned (.tuple #[v, er]) ∧ ErrIs ok er ∧ Below w.heap.size w w' := by
  obtain ⟨rfl, rfl⟩ := h; exact units12 form a hlo hhi w
theorem units12_ok {a : Int} {v : Value} (h : Shared a v true) (form : ByteArray) (hlo : -9223372036854775808 ≤ a) (hhi : a ≤ 9223372036854775807) (w : World) :
    Calls Ybaf.prog 12 #[.string ⟨#[103, 112, 117]⟩, .string form, .int .i64 a] w fun e w' => e = .returned (.tuple #[v, .nilIface]) ∧ Below w.heap.size w w' :=
  (units12v h form hlo hhi w).mono fun e w' hh => by
    obtain ⟨er, rfl, ⟨_, rfl⟩ | ⟨h, _⟩, hb⟩ := hh
    · exact ⟨rfl, hb⟩
    · cases h
theorem units12_bad {a : Int} {v : Value} (h : Shared a v false) (form : ByteArray) (hlo : -9223372036854775808 ≤ a) (hhi : a ≤ 9223372036854775807) (w : World) :
    Calls Ybaf.prog 12 #[.string ⟨#[103, 112, 117]⟩, .string form, .int .i64 a] w fun e w' => ∃ p, e = .returned (.tuple #[v, .iface 52 (.pointer (some p))]) ∧ Below w.heap.size w w' :=
  (units12v h form hlo hhi w).mono fun e w' hh => by
    obtain ⟨er, rfl, ⟨h, _⟩ | ⟨_, p, rfl⟩, hb⟩ := hh
    · cases h
    · exact ⟨p, rfl, hb⟩
/-- A block of seven cells just made, behind a call. -/
theorem keep7 {W w3 : World} {v0 v1 v2 v3 v4 v5 v6 : Value} (h : Below (W.alloc (.cells #[v0, v1, v2, v3, v4, v5, v6] 29)).heap.size (W.alloc (.cells #[v0, v1, v2, v3, v4, v5, v6] 29)) w3) :
    w3.cell? ⟨W.heap.size, 0, none⟩ = some v0 ∧ w3.cell? ⟨W.heap.size, 1, none⟩ = some v1 ∧ w3.cell? ⟨W.heap.size, 2, none⟩ = some v2 ∧ w3.cell? ⟨W.heap.size, 3, none⟩ = some v3 ∧
    w3.cell? ⟨W.heap.size, 4, none⟩ = some v4 ∧ w3.cell? ⟨W.heap.size, 5, none⟩ = some v5 ∧ w3.cell? ⟨W.heap.size, 6, none⟩ = some v6 := by
  have e : ∀ i, w3.cell? ⟨W.heap.size, i, none⟩ = (W.alloc (.cells #[v0, v1, v2, v3, v4, v5, v6] 29)).cell? ⟨W.heap.size, i, none⟩ := fun i => h.cell (p := ⟨W.heap.size, i, none⟩) (by simp)
  simp only [e]
  simp
/-- What a world behind a call of the function's own keeps. -/
theorem Base.next {w wr w1 : World} {B fb fo : Nat} {q : In} (h : Base w B fb fo q wr) (hB : B < w.heap.size) (hfb : fb < w.heap.size) (hb : Below wr.heap.size wr w1) : Base w B fb fo q w1 :=
  h.keep hB hfb (hb.mono h.size)

end Go.Proofs.YbulkabnaFmt
