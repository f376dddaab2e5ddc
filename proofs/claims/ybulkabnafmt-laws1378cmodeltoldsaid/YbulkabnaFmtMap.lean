/-
  zzs1378cmap: the map that the law makes; its look-ups.
-/
import Derived.Test.YbulkabnaFmtLeaf
import Derived.Maps.OwnSet
import Derived.Deep.DeepCutAuto
namespace Go.Proofs.YbulkabnaFmt
open Go.RowKit Go.Maps Go.WideMaps

/-- The law's ten inputs. -/
structure In where
  pg : Bool
  pc : Bool
  pr : Bool
  pm : Bool
  pw : Bool
  ag : Int
  ac : Int
  ar : Int
  am : Int
  aw : Int

def kG : Lit := .string [103, 112, 117]
def kC : Lit := .string [103, 112, 117, 45, 99, 111, 114, 101]
def kR : Lit := .string [103, 112, 117, 45, 109, 101, 109, 111, 114, 121, 45, 114, 97, 116, 105, 111]
def kM : Lit := .string [103, 112, 117, 45, 109, 101, 109, 111, 114, 121]
def kW : Lit := .string [110, 118, 105, 100, 105, 97, 46, 99, 111, 109, 47, 103, 112, 117]

def putIf (b : Bool) (k : Lit) (v : Int) (D : DataW Unit) : DataW Unit := if b then D.put k (.lit (.int .i64 v)) else D
def D1 (q : In) : DataW Unit := putIf q.pg kG q.ag (.map [])
def D2 (q : In) : DataW Unit := putIf q.pc kC q.ac (D1 q)
def D3 (q : In) : DataW Unit := putIf q.pr kR q.ar (D2 q)
def D4 (q : In) : DataW Unit := putIf q.pm kM q.am (D3 q)
def D5 (q : In) : DataW Unit := putIf q.pw kW q.aw (D4 q)

def amt (b : Bool) (v : Int) : Int := if b then v else 0

theorem atG (q : In) : (D5 q).atKey kG (.lit (.int .i64 0)) = .lit (.int .i64 (amt q.pg q.ag)) ∧ Maps.has (D5 q) kG = q.pg := by
  obtain ⟨pg, pc, pr, pm, pw, ag, ac, ar, am, aw⟩ := q
  cases pg <;> cases pc <;> cases pr <;> cases pm <;> cases pw <;> exact ⟨rfl, rfl⟩
theorem atC (q : In) : (D5 q).atKey kC (.lit (.int .i64 0)) = .lit (.int .i64 (amt q.pc q.ac)) ∧ Maps.has (D5 q) kC = q.pc := by
  obtain ⟨pg, pc, pr, pm, pw, ag, ac, ar, am, aw⟩ := q
  cases pg <;> cases pc <;> cases pr <;> cases pm <;> cases pw <;> exact ⟨rfl, rfl⟩
theorem atR (q : In) : (D5 q).atKey kR (.lit (.int .i64 0)) = .lit (.int .i64 (amt q.pr q.ar)) ∧ Maps.has (D5 q) kR = q.pr := by
  obtain ⟨pg, pc, pr, pm, pw, ag, ac, ar, am, aw⟩ := q
  cases pg <;> cases pc <;> cases pr <;> cases pm <;> cases pw <;> exact ⟨rfl, rfl⟩
theorem atM (q : In) : (D5 q).atKey kM (.lit (.int .i64 0)) = .lit (.int .i64 (amt q.pm q.am)) ∧ Maps.has (D5 q) kM = q.pm := by
  obtain ⟨pg, pc, pr, pm, pw, ag, ac, ar, am, aw⟩ := q
  cases pg <;> cases pc <;> cases pr <;> cases pm <;> cases pw <;> exact ⟨rfl, rfl⟩
theorem atW (q : In) : (D5 q).atKey kW (.lit (.int .i64 0)) = .lit (.int .i64 (amt q.pw q.aw)) ∧ Maps.has (D5 q) kW = q.pw := by
  obtain ⟨pg, pc, pr, pm, pw, ag, ac, ar, am, aw⟩ := q
  cases pg <;> cases pc <;> cases pr <;> cases pm <;> cases pw <;> exact ⟨rfl, rfl⟩

theorem law : Keyed Ybaf.prog 9 := string_keyed Ybaf.underlying9
theorem zero2 (w : World) : (zeroValue 2).run Ybaf.prog w = .ok (.int .i64 0) w := by kernel_rfl

/-- Block B is the law's map. -/
def Dev (w : World) (B : Nat) (q : In) : Prop := w.ownsMap Ybaf.prog 9 (plainElem (H := Unit) Ybaf.prog 2) B 5 (D5 q)

theorem Dev.look {w : World} {B : Nat} {q : In} (h : Dev w B q) {s : ByteArray} {k : Lit} {v : Int} {b : Bool} (hk : keyOf Ybaf.prog 9 (.string s) = some k)
    (hat : (D5 q).atKey k (.lit (.int .i64 0)) = .lit (.int .i64 v) ∧ Maps.has (D5 q) k = b) :
    (Instr.lookup 22 (.map (some B)) (.string s) true).run Ybaf.prog w = .ok (.tuple #[.int .i64 v, .bool b]) w ∧ (Instr.lookup 22 (.map (some B)) (.string s) false).run Ybaf.prog w = .ok (.int .i64 v) w := by
  obtain ⟨x, ps, hrun, hx⟩ := World.ownsMap.look_ok h law Ybaf.underlying22 (zero2 _) (plainElem_int Ybaf.underlying2 (by decide)) hk
  obtain ⟨c, hrun', hat', _⟩ := World.ownsMap.lookup_int h law Ybaf.underlying22 Ybaf.underlying2 (zero2 _) hk
  obtain ⟨c2, rfl, hc2, _⟩ := plainElem_int_inv Ybaf.underlying2 hx
  rw [hat.1] at hat' hc2
  simp at hat' hc2
  subst hat'
  rw [hrun, hrun', hat.2, ← hc2.1]
  exact ⟨rfl, rfl⟩

def gB : ByteArray := ⟨#[103, 112, 117]⟩
def cB : ByteArray := ⟨#[103, 112, 117, 45, 99, 111, 114, 101]⟩
def rB : ByteArray := ⟨#[103, 112, 117, 45, 109, 101, 109, 111, 114, 121, 45, 114, 97, 116, 105, 111]⟩
def mB : ByteArray := ⟨#[103, 112, 117, 45, 109, 101, 109, 111, 114, 121]⟩
def wB : ByteArray := ⟨#[110, 118, 105, 100, 105, 97, 46, 99, 111, 109, 47, 103, 112, 117]⟩
theorem keyG : keyOf Ybaf.prog 9 (.string gB) = some kG := keyOf_string_mk (s := gB) Ybaf.underlying9 (by decide)
theorem keyC : keyOf Ybaf.prog 9 (.string cB) = some kC := keyOf_string_mk (s := cB) Ybaf.underlying9 (by decide)
theorem keyR : keyOf Ybaf.prog 9 (.string rB) = some kR := keyOf_string_mk (s := rB) Ybaf.underlying9 (by decide)
theorem keyM : keyOf Ybaf.prog 9 (.string mB) = some kM := keyOf_string_mk (s := mB) Ybaf.underlying9 (by decide)
theorem keyW : keyOf Ybaf.prog 9 (.string wB) = some kW := keyOf_string_mk (s := wB) Ybaf.underlying9 (by decide)

theorem putIf_t {b : Bool} (h : b = true) (k : Lit) (v : Int) (D : DataW Unit) : putIf b k v D = D.put k (.lit (.int .i64 v)) := by simp [putIf, h]
theorem putIf_f {b : Bool} (h : b = false) (k : Lit) (v : Int) (D : DataW Unit) : putIf b k v D = D := by simp [putIf, h]

/-- The integers fit. -/
structure In.Wf (q : In) : Prop where
  g : (Lit.int .i64 q.ag).wf = true
  c : (Lit.int .i64 q.ac).wf = true
  r : (Lit.int .i64 q.ar).wf = true
  m : (Lit.int .i64 q.am).wf = true
  w : (Lit.int .i64 q.aw).wf = true

/-- The map under construction. -/
def Mk (w0 w : World) (n : Nat) (D : DataW Unit) : Prop := w.ownsMap Ybaf.prog 9 (plainElem (H := Unit) Ybaf.prog 2) w0.heap.size n D ∧ Below w0.heap.size w0 w

theorem Mk.skip {w0 w : World} {n : Nat} {D : DataW Unit} (h : Mk w0 w n D) {b : Bool} (hb : b = false) (k : Lit) (v : Int) : Mk w0 w (n + 1) (putIf b k v D) := by
  rw [putIf_f hb]; exact ⟨h.1.mono (by omega), h.2⟩
theorem Mk.put {w0 w w1 : World} {n : Nat} {D : DataW Unit} (h : Mk w0 w n D) {b : Bool} (hb : b = true) {k : Lit} {v : Int}
    (h1 : w1.ownsMap Ybaf.prog 9 (plainElem (H := Unit) Ybaf.prog 2) w0.heap.size (n + 1) (D.put k (.lit (.int .i64 v)))) (hg : w.grownBy w1 (some w0.heap.size)) : Mk w0 w1 (n + 1) (putIf b k v D) := by
  rw [putIf_t hb]; exact ⟨h1, h.2.grown hg h.2.size (fun j hj => by cases hj; exact Nat.le_refl _)⟩

set_option maxRecDepth 100000 in
set_option maxHeartbeats 1000000 in
theorem map5 (q : In) (hq : q.Wf) (w : World) :
    Calls Ybaf.prog 5 #[.bool q.pg, .bool q.pc, .bool q.pr, .bool q.pm, .bool q.pw, .int .i64 q.ag, .int .i64 q.ac, .int .i64 q.ar, .int .i64 q.am, .int .i64 q.aw] w fun e w' =>
      e = .returned (.map (some w.heap.size)) ∧ Dev w' w.heap.size q ∧ Below w.heap.size w w' := by
  have hmm := @run_makeMap Ybaf.prog
  go_enter Ybaf.func5, Ybaf.ntmps5
  go_upto_if 23 with fail
  have hk0 : Mk w (w.alloc (.map #[] 0)) 0 (.map []) := ⟨World.ownsMap_made _ _ _ _, bel1⟩
  go_cut [] (fun wx => Mk w wx 1 (D1 q))
  case first =>
    go_wp2_with (first | (at_mapUpdate; refine wpList_mapUpdate_own _ rfl _ _ _ 22 rfl 9 2 law Ybaf.underlying22 _ w.heap.size 0 _ rfl hk0.1 (by decide) _ _ _ rfl rfl keyG _ [] (plainElem_int Ybaf.underlying2 hq.g) ?_; intro w1 ho hg))
    · go_meet
      case rel => exact hk0.put (by assumption) ho hg
    · go_meet
      case rel => exact hk0.skip (by assumption) _ _
  case rest =>
  have hk1 := hcut
  clear hcut hk0
  go_upto_if 26 with fail
  go_cut [] (fun wx => Mk w wx 2 (D2 q))
  case first =>
    go_wp2_with (first | (at_mapUpdate; refine wpList_mapUpdate_own _ rfl _ _ _ 22 rfl 9 2 law Ybaf.underlying22 _ w.heap.size 1 _ rfl hk1.1 (by decide) _ _ _ rfl rfl keyC _ [] (plainElem_int Ybaf.underlying2 hq.c) ?_; intro w1 ho hg))
    · go_meet
      case rel => exact hk1.put (by assumption) ho hg
    · go_meet
      case rel => exact hk1.skip (by assumption) _ _
  case rest =>
  have hk2 := hcut
  clear hcut hk1
  go_upto_if 29 with fail
  go_cut [] (fun wx => Mk w wx 3 (D3 q))
  case first =>
    go_wp2_with (first | (at_mapUpdate; refine wpList_mapUpdate_own _ rfl _ _ _ 22 rfl 9 2 law Ybaf.underlying22 _ w.heap.size 2 _ rfl hk2.1 (by decide) _ _ _ rfl rfl keyR _ [] (plainElem_int Ybaf.underlying2 hq.r) ?_; intro w1 ho hg))
    · go_meet
      case rel => exact hk2.put (by assumption) ho hg
    · go_meet
      case rel => exact hk2.skip (by assumption) _ _
  case rest =>
  have hk3 := hcut
  clear hcut hk2
  go_upto_if 32 with fail
  go_cut [] (fun wx => Mk w wx 4 (D4 q))
  case first =>
    go_wp2_with (first | (at_mapUpdate; refine wpList_mapUpdate_own _ rfl _ _ _ 22 rfl 9 2 law Ybaf.underlying22 _ w.heap.size 3 _ rfl hk3.1 (by decide) _ _ _ rfl rfl keyM _ [] (plainElem_int Ybaf.underlying2 hq.m) ?_; intro w1 ho hg))
    · go_meet
      case rel => exact hk3.put (by assumption) ho hg
    · go_meet
      case rel => exact hk3.skip (by assumption) _ _
  case rest =>
  have hk4 := hcut
  clear hcut hk3
  go_upto_if 35 with fail
  go_cut [] (fun wx => Mk w wx 5 (D5 q))
  case first =>
    go_wp2_with (first | (at_mapUpdate; refine wpList_mapUpdate_own _ rfl _ _ _ 22 rfl 9 2 law Ybaf.underlying22 _ w.heap.size 4 _ rfl hk4.1 (by decide) _ _ _ rfl rfl keyW _ [] (plainElem_int Ybaf.underlying2 hq.w) ?_; intro w1 ho hg))
    · go_meet
      case rel => exact hk4.put (by assumption) ho hg
    · go_meet
      case rel => exact hk4.skip (by assumption) _ _
  case rest =>
  have hk5 := hcut
  clear hcut hk4
  go_wp2
  go_ret
  exact ⟨rfl, hk5.1, hk5.2⟩
end Go.Proofs.YbulkabnaFmt
