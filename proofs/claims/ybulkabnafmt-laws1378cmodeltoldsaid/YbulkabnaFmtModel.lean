/-
  zzs1378cmodel computes 'model'.
-/
import Derived.Test.YbulkabnaFmtMap
namespace Go.Proofs.YbulkabnaFmt
set_option linter.unusedSimpArgs false
open Go.RowKit Go.Maps Go.WideMaps

/-- Two demands alike, field by field. -/
def sameDm (c r : Dm) : Bool :=
  c.kind.toList == r.kind.toList && c.count == r.count && c.whole == r.whole && c.units == r.units && c.ratio == r.ratio && c.mib == r.mib && c.byMiB == r.byMiB

def b2i (b : Bool) : Int := if b then 1 else 0
theorem b2i_01 (b : Bool) : 0 ≤ b2i b ∧ b2i b ≤ 1 := by cases b <;> decide

/-- gpu-core, gpu-memory-ratio, gpu-memory. -/
def lastDm (pc pr pm : Bool) (c r : Dm × Bool) (mib : Int) : Dm × Bool :=
  if c.2 = false ∨ r.2 = false then (zeroDm, false)
  else if c.1.whole = false ∧ r.1.whole = false then (⟨gpuB, if 0 < c.1.units ∨ 0 < r.1.units ∨ 0 < mib then 1 else 0, false, c.1.units, r.1.units, mib, pm⟩, true)
  else if pm = true then (zeroDm, false)
  else if pc = true ∧ pr = true ∧ sameDm c.1 r.1 = false then (zeroDm, false)
  else if c.1.whole = true then (c.1, true) else (r.1, true)

/-- The one form gpu. -/
def gpuDm (s : Dm × Bool) : Dm × Bool := if s.2 = false then (zeroDm, false) else if s.1.whole = true then (s.1, true) else ({ s.1 with ratio := s.1.units }, true)

abbrev SharePost (d : Value) (ok : Bool) (w : World) (e : Ending) (w' : World) : Prop := e = .returned (.tuple #[d, .bool ok]) ∧ ∃ c, w' = w.alloc (.cells c 29)
abbrev vZ : Value := .agg #[.string ⟨#[]⟩, .int .i64 0, .bool false, .int .i64 0, .int .i64 0, .int .i64 0, .bool false]
abbrev vS (a : Int) : Value := .agg #[.string ⟨#[103, 112, 117]⟩, .int .i64 1, .bool false, .int .i64 a, .int .i64 0, .int .i64 0, .bool false]
abbrev vW (n : Int) : Value := .agg #[.string ⟨#[103, 112, 117]⟩, .int .i64 n, .bool true, .int .i64 100, .int .i64 100, .int .i64 0, .bool false]

/-- What becomes of an amount, as values. -/
def Shared (a : Int) (v : Value) (ok : Bool) : Prop := v = agg7 (share a).1 ∧ ok = (share a).2
theorem shared_z {a : Int} (h : a = 0) : Shared a vZ true := by unfold Shared; rw [share_z h]; exact ⟨rfl, rfl⟩
theorem shared_s {a : Int} (h0 : ¬ a = 0) (h1 : a ≤ 100) : Shared a (vS a) true := by unfold Shared; rw [share_s h0 h1]; exact ⟨rfl, rfl⟩
theorem shared_w {a : Int} (h1 : 100 < a) (h2 : a % 100 = 0) : Shared a (vW (a / 100)) true := by unfold Shared; rw [share_w h1 h2]; exact ⟨rfl, rfl⟩
theorem shared_n {a : Int} (h1 : 100 < a) (h2 : ¬ a % 100 = 0) : Shared a vZ false := by unfold Shared; rw [share_n h1 h2]; exact ⟨rfl, rfl⟩
theorem share13v {a : Int} {v : Value} {ok : Bool} (h : Shared a v ok) (hlo : -9223372036854775808 ≤ a) (hhi : a ≤ 9223372036854775807) (w : World) : Calls Ybaf.prog 13 #[.int .i64 a] w (SharePost v ok w) := by
  obtain ⟨rfl, rfl⟩ := h; exact share13 a hlo hhi w

theorem kinds (a : Int) : ∃ d ok, Shared a (agg7 d) ok := ⟨_, _, rfl, rfl⟩

set_option maxRecDepth 100000 in
set_option maxHeartbeats 16000000 in
theorem model7_last (pc pr pm : Bool) (ag ac ar am aw xc xr mib : Int) (hxc : Hid (amt pc ac = xc)) (hxr : Hid (amt pr ar = xr)) (hxm : Hid (amt pm am = mib))
    (c1 : -9223372036854775808 ≤ xc) (c2 : xc ≤ 9223372036854775807) (r1 : -9223372036854775808 ≤ xr) (r2 : xr ≤ 9223372036854775807)
    (hany : Hid ((pc || pr || pm) = true)) (hone : Hid ((pr && pm) = false)) (L : Dm × Bool) (HL : Hid (lastDm pc pr pm (share xc) (share xr) mib = L)) (w : World) :
    Calls Ybaf.prog 7 #[.bool false, .bool pc, .bool pr, .bool pm, .bool false, .int .i64 ag, .int .i64 ac, .int .i64 ar, .int .i64 am, .int .i64 aw] w fun e w' =>
      e = .returned (.tuple #[agg7 L.1, .bool L.2]) ∧ Below w.heap.size w w' := by
  have bc := b2i_01 pc
  have br := b2i_01 pr
  have bm := b2i_01 pm
  have hn0 : (b2i pc + b2i pr + b2i pm == 0) = false := by have := hany.out; revert this; cases pc <;> cases pr <;> cases pm <;> decide
  go_enter Ybaf.func7, Ybaf.ntmps7
  go_upto_if 36 with fail
  go_cut [22] (fun s wx => s = .int .i64 (b2i pc) ∧ wx = w.alloc (.cells #[.string ⟨#[]⟩, .int .i64 0, .bool false, .int .i64 0, .int .i64 0, .int .i64 0, .bool false] 29))
  case first =>
    go_wp2
    · go_meet
      case rel => exact ⟨by simp [b2i, *], rfl⟩
    · go_meet
      case rel => exact ⟨by simp [b2i, *], rfl⟩
  case rest =>
  obtain ⟨rfl, rfl⟩ := hcut
  go_upto_if 39 with fail
  go_cut [22] (fun s wx => s = .int .i64 (b2i pc + b2i pr) ∧ wx = w.alloc (.cells #[.string ⟨#[]⟩, .int .i64 0, .bool false, .int .i64 0, .int .i64 0, .int .i64 0, .bool false] 29))
  case first =>
    go_wp2
    · go_meet
      case rel => exact ⟨by simp [b2i, *], rfl⟩
    · go_meet
      case rel => exact ⟨by simp [b2i, *], rfl⟩
  case rest =>
  obtain ⟨rfl, rfl⟩ := hcut
  go_upto_if 42 with fail
  go_cut [22] (fun s wx => s = .int .i64 (b2i pc + b2i pr + b2i pm) ∧ wx = w.alloc (.cells #[.string ⟨#[]⟩, .int .i64 0, .bool false, .int .i64 0, .int .i64 0, .int .i64 0, .bool false] 29))
  case first =>
    go_wp2
    · go_meet
      case rel => exact ⟨by simp [b2i, *], rfl⟩
    · go_meet
      case rel => exact ⟨by simp [b2i, *], rfl⟩
  case rest =>
  obtain ⟨rfl, rfl⟩ := hcut
  go_upto_region 14 with fail
  go_cut [66] (fun s wx => s = .bool false ∧ wx = (w.alloc (.cells #[.string ⟨#[]⟩, .int .i64 0, .bool false, .int .i64 0, .int .i64 0, .int .i64 0, .bool false] 29)))
  case first =>
    have ha := hany.out
    have ho := hone.out
    clear hany hone hxc hxr hxm hn0 bc br bm HL
    cases pc <;> cases pr <;> cases pm
    all_goals first | exact absurd ha (by decide) | exact absurd ho (by decide) | (clear ha ho; simp only [b2i]; go_wp2; go_meet; case rel => exact ⟨rfl, rfl⟩)
  case rest =>
  obtain ⟨rfl, rfl⟩ := hcut
  clear hn0 bc br bm hany hone
  go_upto_if 87 with fail
  go_cut [25] (fun s wx => s = .int .i64 xc ∧ wx = (w.alloc (.cells #[.string ⟨#[]⟩, .int .i64 0, .bool false, .int .i64 0, .int .i64 0, .int .i64 0, .bool false] 29)))
  case first =>
    have hx := hxc.out
    clear hxc hxr hxm HL
    cases pc
    all_goals (simp only [amt] at hx; subst hx; go_wp2; go_meet; case rel => exact ⟨rfl, rfl⟩)
  case rest =>
  obtain ⟨rfl, rfl⟩ := hcut
  clear hxc
  go_upto_if 89 with fail
  go_cut [26] (fun s wx => s = .int .i64 xr ∧ wx = (w.alloc (.cells #[.string ⟨#[]⟩, .int .i64 0, .bool false, .int .i64 0, .int .i64 0, .int .i64 0, .bool false] 29)))
  case first =>
    have hx := hxr.out
    clear hxr hxm HL
    cases pr
    all_goals (simp only [amt] at hx; subst hx; go_wp2; go_meet; case rel => exact ⟨rfl, rfl⟩)
  case rest =>
  obtain ⟨rfl, rfl⟩ := hcut
  clear hxr
  go_upto_if 91 with fail
  go_cut [27] (fun s wx => s = .int .i64 mib ∧ wx = (w.alloc (.cells #[.string ⟨#[]⟩, .int .i64 0, .bool false, .int .i64 0, .int .i64 0, .int .i64 0, .bool false] 29)))
  case first =>
    have hx := hxm.out
    clear hxm HL
    cases pm
    all_goals (simp only [amt] at hx; subst hx; go_wp2; go_meet; case rel => exact ⟨rfl, rfl⟩)
  case rest =>
  obtain ⟨rfl, rfl⟩ := hcut
  clear hxm
  go_upto_region 32 with fail
  by_cases h1 : 100 < xc ∧ ¬ xc % 100 = 0
  · obtain ⟨h1, h2⟩ := h1
    obtain rfl : (zeroDm, false) = L := by rw [← HL.out]; simp [lastDm, share_n h1 h2]
    rcases kinds xr with ⟨d, ok, hr⟩
    go_wp2_with fail
    refine (share13v (shared_n h1 h2) c1 c2 _).mono ?_
    rintro e w' ⟨rfl, k1, rfl⟩
    go_wp2_with fail
    refine (share13v (hr) r1 r2 _).mono ?_
    rintro e w' ⟨rfl, k2, rfl⟩
    clear hr HL
    go_wp2
    exact bodyPost_ret (v := .tuple #[agg7 zeroDm, .bool false]) (by simp [results, Ybaf.results7, go_sem, zeroDm]) rfl ⟨rfl, by repeat (first | exact bel1 | apply Below.al)⟩
  by_cases h2 : xc = 0
  · clear h1
    subst h2
    by_cases g2 : xr = 0
    · subst g2
      go_wp2_with fail
      refine (share13v (shared_z rfl) c1 c2 _).mono ?_
      rintro e w' ⟨rfl, k1, rfl⟩
      go_wp2_with fail
      refine (share13v (shared_z rfl) r1 r2 _).mono ?_
      rintro e w' ⟨rfl, k2, rfl⟩
      go_wp2
      all_goals
        refine bodyPost_ret (v := .tuple #[agg7 L.1, .bool L.2]) ?_ rfl ⟨rfl, ?_⟩
        · simp [results, Ybaf.results7, go_sem, ← HL.out, lastDm, (share_z rfl : share 0 = _), (share_z rfl : share 0 = _), sameDm, zeroDm, shareDm, wholeDm, gpuB, *] <;> omega
        · repeat (first | exact bel1 | apply Below.al)
    by_cases g3 : xr ≤ 100
    · go_wp2_with fail
      refine (share13v (shared_z rfl) c1 c2 _).mono ?_
      rintro e w' ⟨rfl, k1, rfl⟩
      go_wp2_with fail
      refine (share13v (shared_s g2 g3) r1 r2 _).mono ?_
      rintro e w' ⟨rfl, k2, rfl⟩
      go_wp2
      all_goals
        refine bodyPost_ret (v := .tuple #[agg7 L.1, .bool L.2]) ?_ rfl ⟨rfl, ?_⟩
        · simp [results, Ybaf.results7, go_sem, ← HL.out, lastDm, (share_z rfl : share 0 = _), (share_s g2 g3 : share xr = _), sameDm, zeroDm, shareDm, wholeDm, gpuB, *] <;> omega
        · repeat (first | exact bel1 | apply Below.al)
    have g4 : 100 < xr := by omega
    clear g2 g3
    by_cases g5 : xr % 100 = 0
    · go_wp2_with fail
      refine (share13v (shared_z rfl) c1 c2 _).mono ?_
      rintro e w' ⟨rfl, k1, rfl⟩
      go_wp2_with fail
      refine (share13v (shared_w g4 g5) r1 r2 _).mono ?_
      rintro e w' ⟨rfl, k2, rfl⟩
      go_wp2
      all_goals
        refine bodyPost_ret (v := .tuple #[agg7 L.1, .bool L.2]) ?_ rfl ⟨rfl, ?_⟩
        · simp [results, Ybaf.results7, go_sem, ← HL.out, lastDm, (share_z rfl : share 0 = _), (share_w g4 g5 : share xr = _), sameDm, zeroDm, shareDm, wholeDm, gpuB, *] <;> omega
        · repeat (first | exact bel1 | apply Below.al)
    · go_wp2_with fail
      refine (share13v (shared_z rfl) c1 c2 _).mono ?_
      rintro e w' ⟨rfl, k1, rfl⟩
      go_wp2_with fail
      refine (share13v (shared_n g4 g5) r1 r2 _).mono ?_
      rintro e w' ⟨rfl, k2, rfl⟩
      go_wp2
      all_goals
        refine bodyPost_ret (v := .tuple #[agg7 L.1, .bool L.2]) ?_ rfl ⟨rfl, ?_⟩
        · simp [results, Ybaf.results7, go_sem, ← HL.out, lastDm, (share_z rfl : share 0 = _), (share_n g4 g5 : share xr = _), sameDm, zeroDm, shareDm, wholeDm, gpuB, *] <;> omega
        · repeat (first | exact bel1 | apply Below.al)
  by_cases h3 : xc ≤ 100
  · clear h1
    by_cases g2 : xr = 0
    · subst g2
      go_wp2_with fail
      refine (share13v (shared_s h2 h3) c1 c2 _).mono ?_
      rintro e w' ⟨rfl, k1, rfl⟩
      go_wp2_with fail
      refine (share13v (shared_z rfl) r1 r2 _).mono ?_
      rintro e w' ⟨rfl, k2, rfl⟩
      go_wp2
      all_goals
        refine bodyPost_ret (v := .tuple #[agg7 L.1, .bool L.2]) ?_ rfl ⟨rfl, ?_⟩
        · simp [results, Ybaf.results7, go_sem, ← HL.out, lastDm, (share_s h2 h3 : share xc = _), (share_z rfl : share 0 = _), sameDm, zeroDm, shareDm, wholeDm, gpuB, *] <;> omega
        · repeat (first | exact bel1 | apply Below.al)
    by_cases g3 : xr ≤ 100
    · go_wp2_with fail
      refine (share13v (shared_s h2 h3) c1 c2 _).mono ?_
      rintro e w' ⟨rfl, k1, rfl⟩
      go_wp2_with fail
      refine (share13v (shared_s g2 g3) r1 r2 _).mono ?_
      rintro e w' ⟨rfl, k2, rfl⟩
      go_wp2
      all_goals
        refine bodyPost_ret (v := .tuple #[agg7 L.1, .bool L.2]) ?_ rfl ⟨rfl, ?_⟩
        · simp [results, Ybaf.results7, go_sem, ← HL.out, lastDm, (share_s h2 h3 : share xc = _), (share_s g2 g3 : share xr = _), sameDm, zeroDm, shareDm, wholeDm, gpuB, *] <;> omega
        · repeat (first | exact bel1 | apply Below.al)
    have g4 : 100 < xr := by omega
    clear g2 g3
    by_cases g5 : xr % 100 = 0
    · go_wp2_with fail
      refine (share13v (shared_s h2 h3) c1 c2 _).mono ?_
      rintro e w' ⟨rfl, k1, rfl⟩
      go_wp2_with fail
      refine (share13v (shared_w g4 g5) r1 r2 _).mono ?_
      rintro e w' ⟨rfl, k2, rfl⟩
      go_wp2
      all_goals
        refine bodyPost_ret (v := .tuple #[agg7 L.1, .bool L.2]) ?_ rfl ⟨rfl, ?_⟩
        · simp [results, Ybaf.results7, go_sem, ← HL.out, lastDm, (share_s h2 h3 : share xc = _), (share_w g4 g5 : share xr = _), sameDm, zeroDm, shareDm, wholeDm, gpuB, *] <;> omega
        · repeat (first | exact bel1 | apply Below.al)
    · go_wp2_with fail
      refine (share13v (shared_s h2 h3) c1 c2 _).mono ?_
      rintro e w' ⟨rfl, k1, rfl⟩
      go_wp2_with fail
      refine (share13v (shared_n g4 g5) r1 r2 _).mono ?_
      rintro e w' ⟨rfl, k2, rfl⟩
      go_wp2
      all_goals
        refine bodyPost_ret (v := .tuple #[agg7 L.1, .bool L.2]) ?_ rfl ⟨rfl, ?_⟩
        · simp [results, Ybaf.results7, go_sem, ← HL.out, lastDm, (share_s h2 h3 : share xc = _), (share_n g4 g5 : share xr = _), sameDm, zeroDm, shareDm, wholeDm, gpuB, *] <;> omega
        · repeat (first | exact bel1 | apply Below.al)
  · have h4 : 100 < xc := by omega
    have h5 : xc % 100 = 0 := by omega
    clear h1 h2 h3
    by_cases g2 : xr = 0
    · subst g2
      go_wp2_with fail
      refine (share13v (shared_w h4 h5) c1 c2 _).mono ?_
      rintro e w' ⟨rfl, k1, rfl⟩
      go_wp2_with fail
      refine (share13v (shared_z rfl) r1 r2 _).mono ?_
      rintro e w' ⟨rfl, k2, rfl⟩
      go_wp2
      all_goals
        refine bodyPost_ret (v := .tuple #[agg7 L.1, .bool L.2]) ?_ rfl ⟨rfl, ?_⟩
        · simp [results, Ybaf.results7, go_sem, ← HL.out, lastDm, (share_w h4 h5 : share xc = _), (share_z rfl : share 0 = _), sameDm, zeroDm, shareDm, wholeDm, gpuB, *] <;> omega
        · repeat (first | exact bel1 | apply Below.al)
    by_cases g3 : xr ≤ 100
    · go_wp2_with fail
      refine (share13v (shared_w h4 h5) c1 c2 _).mono ?_
      rintro e w' ⟨rfl, k1, rfl⟩
      go_wp2_with fail
      refine (share13v (shared_s g2 g3) r1 r2 _).mono ?_
      rintro e w' ⟨rfl, k2, rfl⟩
      go_wp2
      all_goals
        refine bodyPost_ret (v := .tuple #[agg7 L.1, .bool L.2]) ?_ rfl ⟨rfl, ?_⟩
        · simp [results, Ybaf.results7, go_sem, ← HL.out, lastDm, (share_w h4 h5 : share xc = _), (share_s g2 g3 : share xr = _), sameDm, zeroDm, shareDm, wholeDm, gpuB, *] <;> omega
        · repeat (first | exact bel1 | apply Below.al)
    have g4 : 100 < xr := by omega
    clear g2 g3
    by_cases g5 : xr % 100 = 0
    · go_wp2_with fail
      refine (share13v (shared_w h4 h5) c1 c2 _).mono ?_
      rintro e w' ⟨rfl, k1, rfl⟩
      go_wp2_with fail
      refine (share13v (shared_w g4 g5) r1 r2 _).mono ?_
      rintro e w' ⟨rfl, k2, rfl⟩
      go_wp2
      all_goals
        refine bodyPost_ret (v := .tuple #[agg7 L.1, .bool L.2]) ?_ rfl ⟨rfl, ?_⟩
        · simp [results, Ybaf.results7, go_sem, ← HL.out, lastDm, (share_w h4 h5 : share xc = _), (share_w g4 g5 : share xr = _), sameDm, zeroDm, shareDm, wholeDm, gpuB, *] <;> omega
        · repeat (first | exact bel1 | apply Below.al)
    · go_wp2_with fail
      refine (share13v (shared_w h4 h5) c1 c2 _).mono ?_
      rintro e w' ⟨rfl, k1, rfl⟩
      go_wp2_with fail
      refine (share13v (shared_n g4 g5) r1 r2 _).mono ?_
      rintro e w' ⟨rfl, k2, rfl⟩
      go_wp2
      all_goals
        refine bodyPost_ret (v := .tuple #[agg7 L.1, .bool L.2]) ?_ rfl ⟨rfl, ?_⟩
        · simp [results, Ybaf.results7, go_sem, ← HL.out, lastDm, (share_w h4 h5 : share xc = _), (share_n g4 g5 : share xr = _), sameDm, zeroDm, shareDm, wholeDm, gpuB, *] <;> omega
        · repeat (first | exact bel1 | apply Below.al)
end Go.Proofs.YbulkabnaFmt
