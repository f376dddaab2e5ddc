/-
  The fraction sum: divide and add.
-/
import Derived.Test.YbulkabnoSpan
import Derived.Maps.OwnSet
import Derived.Maps.OwnOps
import Derived.Deep.DeepCutAuto
namespace Go.Proofs.Ybulkabno
open Go.RowKit Go.Shelf Go.Maps Go.WideMaps
set_option linter.unusedVariables false

theorem below_drewN {B : Nat} {w w' : World} (h : Below B w w') (n : Nat) : Below B w (w'.drewN n) := ⟨h.os, h.tape, h.output, h.size, h.block⟩

/-- Div64 where the high word is 0. -/
theorem div64_zero (lo d : Int) (h0 : 0 ≤ lo) (h1 : lo < 18446744073709551616) (hd : 1 ≤ d) (hd' : d < 18446744073709551616) (w : World) :
    Calls Yba.prog 18 #[.int .u64 0, .int .u64 lo, .int .u64 d] w fun e w' => e = .returned (.tuple #[.int .u64 (lo / d), .int .u64 (lo % d)]) ∧ ∃ n, w' = w.drewN n := by
  have q1 : (d == 0) = false := by simp; omega
  have q2 : ¬ d ≤ 0 := by omega
  obtain ⟨q, hq⟩ : ∃ q, lo / d = q := ⟨_, rfl⟩
  obtain ⟨r, hr⟩ : ∃ r, lo % d = r := ⟨_, rfl⟩
  rw [hq, hr]
  go_enter Yba.func18, Yba.ntmps18
  go_upto_region 6 with fail
  go_quiet (fail)
  go_wp2
  refine bodyPost_ret (v := .tuple #[.int .u64 q, .int .u64 r]) (by simp [results, Yba.results18, go_sem]) rfl ⟨rfl, _, rfl⟩

theorem law22 : Keyed Yba.prog 22 := int_keyed Yba.underlying22
theorem zero22 (w : World) : (zeroValue 22).run Yba.prog w = .ok (.int .u64 0) w := by kernel_rfl
/-- The map of one remainder. -/
abbrev One (w : World) (B n : Nat) (d r : Int) : Prop := w.ownsMap Yba.prog 22 (plainElem (H := Unit) Yba.prog 22) B n (.map [(.int .u64 d, .lit (.int .u64 r))])

theorem at_nil {k : Lit} {c : Int} (h : (DataW.map (H := Unit) []).atKey k (.lit (.int .u64 0)) = .lit (.int .u64 c)) : (0 : Int) = c := by
  simpa [DataW.atKey] using h

set_option maxRecDepth 100000 in
set_option maxHeartbeats 1000000 in
theorem divide_new (b o : Nat) (hi lo d q r : Int) (w : World) (hb : b < w.heap.size) (c2 : w.cell? ⟨b, o + 2, none⟩ = some (.map none)) (f2 : w.frozen? ⟨b, o + 2, none⟩ = false)
    (i0 : 0 ≤ hi) (i1 : hi < 18446744073709551616) (h0 : 0 ≤ lo) (h1 : lo < 18446744073709551616) (hd : 2 ≤ d) (hd' : d < 18446744073709551616) (r0 : 0 ≤ r) (r1 : r < d)
    (HD : ∀ W, Calls Yba.prog 18 #[.int .u64 (hi % d), .int .u64 lo, .int .u64 d] W fun e w' => e = .returned (.tuple #[.int .u64 q, .int .u64 r]) ∧ ∃ n, w' = W.drewN n) :
    Calls Yba.prog 17 #[.pointer (some ⟨b, o, none⟩), .int .u64 hi, .int .u64 lo, .int .u64 d] w fun e w' =>
      e = .returned (.tuple #[.int .u64 (hi / d), .int .u64 q, .int .u64 0]) ∧ One w' w.heap.size 1 d r ∧ (w.setCell ⟨b, o + 2, none⟩ (.map (some w.heap.size))).grownBy w' none := by
  have hmm := @run_makeMap Yba.prog
  have hem := fun W r => run_eql_map_nil (P := Yba.prog) W 23 22 22 r Yba.underlying23
  have q1 : (d == 0) = false := by simp; omega
  obtain ⟨m, hm⟩ : ∃ m, hi % d = m := ⟨_, rfl⟩
  obtain ⟨p, hp⟩ : ∃ p, hi / d = p := ⟨_, rfl⟩
  rw [hm] at HD
  rw [hp]
  go_enter Yba.func17, Yba.ntmps17
  go_wp2_with fail
  refine (HD _).mono ?_
  rintro e w1 ⟨rfl, k, hk⟩
  have d2 : w1.cell? ⟨b, o + 2, none⟩ = some (.map none) := by rw [hk]; exact c2
  have HW : Hid (w1 = w.drewN k) := hk
  have hsz : w1.heap.size = w.heap.size := by rw [hk]; rfl
  have hb1 : b < w1.heap.size := by rw [hsz]; exact hb
  have hB : Below w1.heap.size w1 (w1.alloc (.map #[] 0)) := (Below.refl _ _).alloc (Nat.le_refl _) _
  have cA : (w1.alloc (.map #[] 0)).cell? ⟨b, o + 2, none⟩ = some (.map none) := (hB.cell (p := ⟨b, o + 2, none⟩) hb1).trans d2
  have fA : (w1.alloc (.map #[] 0)).frozen? ⟨b, o + 2, none⟩ = false := (hB.frozen (p := ⟨b, o + 2, none⟩) hb1).trans (by rw [hk]; exact f2)
  obtain ⟨w2, hw2⟩ : ∃ w2, w2 = (w1.setCell ⟨b, o + 2, none⟩ (.map (some w.heap.size))).alloc (.map #[] 0) := ⟨_, rfl⟩
  have hsz' : (w1.setCell ⟨b, o + 2, none⟩ (.map (some w.heap.size))).heap.size = w.heap.size := by rw [← hsz]; simp [World.setCell]
  have cB : w2.cell? ⟨b, o + 2, none⟩ = some (.map (some w.heap.size)) := by rw [hw2, World.cell?_alloc_past _ _ _ (by rw [hsz']; exact hb)]; exact World.cell?_setCell_same _ _ _ d2
  have hO : w2.ownsMap Yba.prog 22 (plainElem (H := Unit) Yba.prog 22) w.heap.size 0 (.map []) := by
    rw [hw2]
    have := World.ownsMap_made (H := Unit) (w1.setCell ⟨b, o + 2, none⟩ (.map (some w.heap.size))) Yba.prog 22 (plainElem Yba.prog 22)
    rw [hsz'] at this
    exact this
  have hgr : (w.setCell ⟨b, o + 2, none⟩ (.map (some w.heap.size))).grownBy w2 none := by
    have h1 := World.grownBy_alloc (w1.setCell ⟨b, o + 2, none⟩ (.map (some w.heap.size))) (.map #[] 0) none
    rw [hw2]
    rw [hk] at h1 ⊢
    exact ⟨h1.os, h1.tape, h1.output, h1.size, h1.block⟩
  have HG : Hid ((w.setCell ⟨b, o + 2, none⟩ (.map (some w.heap.size))).grownBy w2 none) := hgr
  have HO : Hid (w2.ownsMap Yba.prog 22 (plainElem (H := Unit) Yba.prog 22) w.heap.size 0 (.map [])) := hO
  clear hgr hk hB hO
  go_upto_region 5 with fail
  rw [← hw2]
  clear hw2 HW cA fA d2 hb1 hsz hsz'
  have hkey : keyOf Yba.prog 22 (.int .u64 d) = some (.int .u64 d) := keyOf_int_mk Yba.underlying22 (by simp [Lit.wf, IntKind.min, IntKind.max, IntKind.signed, IntKind.bits]; omega)
  have hwf : (Lit.int .u64 r).wf = true := by simp [Lit.wf, IntKind.min, IntKind.max, IntKind.signed, IntKind.bits]; omega
  have hwr : IntKind.u64.wrap r = r := by rw [IntKind.wrap_u64]; omega
  have q3 : ¬ d ≤ r := by omega
  have HK : Hid (keyOf Yba.prog 22 (.int .u64 d) = some (.int .u64 d) ∧ (Lit.int .u64 r).wf = true) := ⟨hkey, hwf⟩
  clear hkey hwf
  go_wp2_with (first | (at_lookup; refine wpList_lookup_own_int _ rfl _ _ 23 rfl 22 22 .u64 law22 Yba.underlying23 Yba.underlying22 (zero22 _) w.heap.size 0 _ rfl HO.out _ _ rfl HK.out.1 ?_; intro c hc _; have hc0 := at_nil hc; subst hc0) | (at_mapUpdate; refine wpList_mapUpdate_own _ rfl _ _ _ 23 rfl 22 22 law22 Yba.underlying23 _ w.heap.size 0 _ rfl HO.out (by decide) _ _ _ rfl rfl HK.out.1 _ [] (plainElem_int Yba.underlying22 HK.out.2) ?_; intro w3 ho hg))
  refine bodyPost_ret (v := .tuple #[.int .u64 p, .int .u64 q, .int .u64 0]) (by simp [results, Yba.results17, go_sem]) rfl ⟨rfl, ho, ?_⟩
  exact ⟨hg.os.trans HG.out.os, hg.tape.trans HG.out.tape, hg.output.trans HG.out.output, Nat.le_trans HG.out.size hg.size, fun t ht hn => (hg.block t (Nat.lt_of_lt_of_le ht HG.out.size) (fun e => by simp [World.setCell] at ht; cases e; omega)).trans (HG.out.block t ht hn)⟩

theorem at_one {d r c : Int} (h : (DataW.map (H := Unit) [(.int .u64 d, .lit (.int .u64 r))]).atKey (.int .u64 d) (.lit (.int .u64 0)) = .lit (.int .u64 c)) : r = c := by
  simpa [DataW.atKey, Lit.sameKey] using h
theorem put_one (d r r' : Int) : (DataW.map (H := Unit) [(.int .u64 d, .lit (.int .u64 r))]).put (.int .u64 d) (.lit (.int .u64 r')) = .map [(.int .u64 d, .lit (.int .u64 r'))] := by
  simp [DataW.put, Lit.sameKey, DataW.insert]

/-- What is left below the denominator, and the whole it may make. -/
def left (d s : Int) : Int := if d ≤ s then s - d else s
def whole (d s : Int) : Int := if d ≤ s then 1 else 0

set_option maxRecDepth 100000 in
set_option maxHeartbeats 1000000 in
theorem divide_old (b o B n : Nat) (hi lo d q r s : Int) (w : World) (hb : b < w.heap.size) (c2 : w.cell? ⟨b, o + 2, none⟩ = some (.map (some B))) (hOne : One w B n d s) (hn : n < 1000000)
    (i0 : 0 ≤ hi) (i1 : hi < 18446744073709551616) (h0 : 0 ≤ lo) (h1 : lo < 18446744073709551616) (hd : 2 ≤ d) (hd' : d < 9223372036854775808) (r0 : 0 ≤ r) (r1 : r < d) (s0 : 0 ≤ s) (s1 : s < d)
    (HD : ∀ W, Calls Yba.prog 18 #[.int .u64 (hi % d), .int .u64 lo, .int .u64 d] W fun e w' => e = .returned (.tuple #[.int .u64 q, .int .u64 r]) ∧ ∃ n, w' = W.drewN n) :
    Calls Yba.prog 17 #[.pointer (some ⟨b, o, none⟩), .int .u64 hi, .int .u64 lo, .int .u64 d] w fun e w' =>
      e = .returned (.tuple #[.int .u64 (hi / d), .int .u64 q, .int .u64 (whole d (r + s))]) ∧ One w' B (n + 1) d (left d (r + s)) ∧ w.grownBy w' (some B) := by
  have hem := fun W r => run_eql_map_nil (P := Yba.prog) W 23 22 22 r Yba.underlying23
  have q1 : (d == 0) = false := by simp; omega
  obtain ⟨m, hm⟩ : ∃ m, hi % d = m := ⟨_, rfl⟩
  obtain ⟨p, hp⟩ : ∃ p, hi / d = p := ⟨_, rfl⟩
  rw [hm] at HD
  rw [hp]
  have hkey : keyOf Yba.prog 22 (.int .u64 d) = some (.int .u64 d) := keyOf_int_mk Yba.underlying22 (by simp [Lit.wf, IntKind.min, IntKind.max, IntKind.signed, IntKind.bits]; omega)
  have hwf : (Lit.int .u64 (left d (r + s))).wf = true := by unfold left; split <;> simp [Lit.wf, IntKind.min, IntKind.max, IntKind.signed, IntKind.bits] <;> omega
  have HO : Hid (∀ k, One (w.drewN k) B n d s) := fun _ => hOne
  have hwr : IntKind.u64.wrap (r + s) = r + s := by rw [IntKind.wrap_u64]; omega
  by_cases g : d ≤ r + s
  · have e1 : left d (r + s) = r + s - d := by simp [left, g]
    have e2 : whole d (r + s) = 1 := by simp [whole, g]
    rw [e1] at hwf
    rw [e1, e2]
    have hws : IntKind.u64.wrap (r + s - d) = r + s - d := by rw [IntKind.wrap_u64]; omega
    have HK : Hid (keyOf Yba.prog 22 (.int .u64 d) = some (.int .u64 d) ∧ (Lit.int .u64 (r + s - d)).wf = true) := ⟨hkey, hwf⟩
    clear hkey hwf e1 e2 hOne
    go_enter Yba.func17, Yba.ntmps17
    go_wp2_with fail
    refine (HD _).mono ?_
    rintro e w1 ⟨rfl, k, rfl⟩
    go_wp2_with (first | (at_lookup; refine wpList_lookup_own_int _ rfl _ _ 23 rfl 22 22 .u64 law22 Yba.underlying23 Yba.underlying22 (zero22 _) B n _ rfl (HO.out k) _ _ rfl HK.out.1 ?_; intro c hc _; have hc0 := at_one hc; subst hc0) | (at_mapUpdate; refine wpList_mapUpdate_own _ rfl _ _ _ 23 rfl 22 22 law22 Yba.underlying23 _ B n _ rfl (HO.out k) (by unfold maxLen; omega) _ _ _ rfl rfl HK.out.1 _ [] (plainElem_int Yba.underlying22 HK.out.2) ?_; intro w3 ho hg))
    rw [put_one] at ho
    refine bodyPost_ret (v := .tuple #[.int .u64 p, .int .u64 q, .int .u64 1]) (by simp [results, Yba.results17, go_sem]) rfl ⟨rfl, ho, ?_⟩
    exact ⟨hg.os, hg.tape, hg.output, hg.size, hg.block⟩
  · have e1 : left d (r + s) = r + s := by simp [left, g]
    have e2 : whole d (r + s) = 0 := by simp [whole, g]
    rw [e1] at hwf
    rw [e1, e2]
    have HK : Hid (keyOf Yba.prog 22 (.int .u64 d) = some (.int .u64 d) ∧ (Lit.int .u64 (r + s)).wf = true) := ⟨hkey, hwf⟩
    clear hkey hwf e1 e2 hOne
    go_enter Yba.func17, Yba.ntmps17
    go_wp2_with fail
    refine (HD _).mono ?_
    rintro e w1 ⟨rfl, k, rfl⟩
    go_wp2_with (first | (at_lookup; refine wpList_lookup_own_int _ rfl _ _ 23 rfl 22 22 .u64 law22 Yba.underlying23 Yba.underlying22 (zero22 _) B n _ rfl (HO.out k) _ _ rfl HK.out.1 ?_; intro c hc _; have hc0 := at_one hc; subst hc0) | (at_mapUpdate; refine wpList_mapUpdate_own _ rfl _ _ _ 23 rfl 22 22 law22 Yba.underlying23 _ B n _ rfl (HO.out k) (by unfold maxLen; omega) _ _ _ rfl rfl HK.out.1 _ [] (plainElem_int Yba.underlying22 HK.out.2) ?_; intro w3 ho hg))
    rw [put_one] at ho
    refine bodyPost_ret (v := .tuple #[.int .u64 p, .int .u64 q, .int .u64 0]) (by simp [results, Yba.results17, go_sem]) rfl ⟨rfl, ho, ?_⟩
    exact ⟨hg.os, hg.tape, hg.output, hg.size, hg.block⟩
end Go.Proofs.Ybulkabno
