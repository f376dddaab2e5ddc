import Derived.Test.YbulkabnaFmtMap
import Derived.Deep.LoopGhost
namespace Go.Proofs.YbulkabnaFmt
open Go.RowKit Go.Maps Go.WideMaps

/-- The five forms, in the order of gpuForms. -/
def fm : Nat → ByteArray
  | 0 => gB | 1 => cB | 2 => rB | 3 => mB | _ => wB
def pres (q : In) : Nat → Bool
  | 0 => q.pg | 1 => q.pc | 2 => q.pr | 3 => q.pm | _ => q.pw
def valOf (q : In) : Nat → Int
  | 0 => amt q.pg q.ag | 1 => amt q.pc q.ac | 2 => amt q.pr q.ar | 3 => amt q.pm q.am | _ => amt q.pw q.aw
def sel (q : In) (k : Nat) : List Nat := (List.range k).filter (pres q)
theorem sel_t (q : In) (k : Nat) (h : pres q k = true) : sel q (k + 1) = sel q k ++ [k] := by simp [sel, List.range_succ, List.filter_append, h]
theorem sel_f (q : In) (k : Nat) (h : pres q k = false) : sel q (k + 1) = sel q k := by simp [sel, List.range_succ, List.filter_append, h]
theorem sel_len (q : In) (k : Nat) : (sel q k).length ≤ k := by
  have := List.length_filter_le (pres q) (List.range k); simpa [sel] using this

theorem Dev.at_ {w : World} {B : Nat} {q : In} (h : Dev w B q) (k : Nat) :
    (Instr.lookup 22 (.map (some B)) (.string (fm k)) true).run Ybaf.prog w = .ok (.tuple #[.int .i64 (valOf q k), .bool (pres q k)]) w ∧ (Instr.lookup 22 (.map (some B)) (.string (fm k)) false).run Ybaf.prog w = .ok (.int .i64 (valOf q k)) w := by
  match k with
  | 0 => exact h.look keyG (atG q)
  | 1 => exact h.look keyC (atC q)
  | 2 => exact h.look keyR (atR q)
  | 3 => exact h.look keyM (atM q)
  | k + 4 => exact h.look keyW (atW q)

/-- The map lies where it lay. -/
theorem Dev.keep {w w' : World} {B : Nat} {q : In} (h : Dev w B q) (hb : w'.heap[B]? = w.heap[B]?) : Dev w' B q := by
  unfold Dev World.ownsMap at *
  rw [hb]; exact h

theorem info42 : (Ybaf.prog.info? 42).map (fun i => (i.zero, i.size, i.bytes)) = some (some (.string ⟨#[]⟩), 1, 16) := by kernel_rfl

abbrev vZ0 : Array Value := #[.string ⟨#[]⟩, .int .i64 0, .bool false, .int .i64 0, .int .i64 0, .int .i64 0, .bool false]
abbrev vR (B : Nat) : Array Value := #[.string ⟨#[]⟩, .int .i64 0, .int .i64 0, .int .i64 0, .string ⟨#[]⟩, .string ⟨#[]⟩, .map (some B)]

/-- The world behind the function's first region. -/
def w2Of (w : World) (B : Nat) : World := (w.alloc (.cells (vR B) 27)).alloc (.cells vZ0 29)
theorem w2_size (w : World) (B : Nat) : (w2Of w B).heap.size = w.heap.size + 2 := by simp [w2Of]
theorem w2_bel (w : World) (B : Nat) : Below w.heap.size w (w2Of w B) := bel1.al _

/-- What the function leans on in every world that it passes through. -/
structure Base (w : World) (B fb fo : Nat) (q : In) (wr : World) : Prop where
  bel : Below (w.heap.size + 2) (w2Of w B) wr
  dev : Dev wr B q
  forms : ∀ k, k < 5 → wr.cell? ⟨fb, fo + k, none⟩ = some (.string (fm k))

theorem Base.size {w wr : World} {B fb fo : Nat} {q : In} (h : Base w B fb fo q wr) : w.heap.size + 2 ≤ wr.heap.size := by
  have := h.bel.size; rw [w2_size] at this; exact this
theorem Base.keep {w wr w1 : World} {B fb fo : Nat} {q : In} (h : Base w B fb fo q wr) (hB : B < w.heap.size) (hfb : fb < w.heap.size) (hb : Below (w.heap.size + 2) wr w1) : Base w B fb fo q w1 :=
  ⟨h.bel.trans hb, h.dev.keep (hb.block B (by omega)), fun k hk => (hb.cell (p := ⟨fb, fo + k, none⟩) (by show fb < _; omega)).trans (h.forms k hk)⟩
theorem Base.start {w : World} {B fb fo : Nat} {q : In} (hdev : Dev w B q) (hB : B < w.heap.size) (hfb : fb < w.heap.size) (hf : ∀ k, k < 5 → w.cell? ⟨fb, fo + k, none⟩ = some (.string (fm k))) : Base w B fb fo q (w2Of w B) :=
  ⟨Below.refl _ _, hdev.keep ((w2_bel w B).block B hB), fun k hk => ((w2_bel w B).cell (p := ⟨fb, fo + k, none⟩) hfb).trans (hf k hk)⟩
theorem Base.r6 {w wr : World} {B fb fo : Nat} {q : In} (h : Base w B fb fo q wr) : wr.cell? ⟨w.heap.size, 6, none⟩ = some (.map (some B)) := by
  rw [h.bel.cell (p := ⟨w.heap.size, 6, none⟩) (by show w.heap.size < _; omega)]; simp [w2Of]

theorem sel_own_t {q : In} {k : Nat} (h : pres q k = true) : (sel q (k + 1)).map (fun x => Value.string (fm x)) = (sel q k).map (fun x => Value.string (fm x)) ++ [.string (fm k)] := by rw [sel_t q k h]; simp

theorem sel_lt (q : In) (k : Nat) {j : Nat} (hj : j < (sel q k).length) : (sel q k).getD j 0 < k := by
  have hm : (sel q k)[j] ∈ sel q k := List.getElem_mem hj
  have : (sel q k).getD j 0 = (sel q k)[j] := by simp [List.getD, hj]
  rw [this]
  exact List.mem_range.1 (List.mem_filter.1 hm).1

/-- What is known of the slice of the forms that were given. -/
theorem row_shape {wr : World} {base : Nat} {v : Value} {L : List Nat} (h : wr.ownsRow base 42 1 v L.length (L.map fun x => Value.string (fm x))) :
    (v = .slice none 0 0 ∧ L = []) ∨ ∃ g cap, v = .slice (some ⟨g, 0, none⟩) L.length cap ∧ base ≤ g ∧ g < wr.heap.size ∧ L.length ≤ cap ∧ ∀ j, j < L.length → wr.cell? ⟨g, j, none⟩ = some (.string (fm (L.getD j 0))) := by
  have hc := h
  obtain ⟨_, ⟨rfl, hn⟩ | ⟨g, cap, cur, rfl, hb, hh, hn, _⟩⟩ := h
  · exact .inl ⟨rfl, List.length_eq_zero_iff.1 hn⟩
  · refine .inr ⟨g, cap, rfl, hb, (hc.lt g rfl).2, hn, fun j hj => ?_⟩
    have := hc.cells (g := g) rfl j (.string (fm (L.getD j 0))) (by simp [List.getD, hj])
    simp only [Addr.add] at this
    by_cases h0 : j = 0
    · subst h0; simpa using this
    · simpa [h0] using this

/-- May form y stand beside form x, x first? -/
def okp (x y : Nat) : Bool := x == 1 && (y == 2 || y == 3)
def Good1 (L : List Nat) (a m : Nat) : Prop := ∀ y, a < y → y < m → okp (L.getD a 0) (L.getD y 0) = true
def Good (L : List Nat) (a : Nat) : Prop := ∀ x, x < a → Good1 L x L.length
theorem Good.step {L : List Nat} {a : Nat} (h : Good L a) (h1 : Good1 L a L.length) : Good L (a + 1) := fun x hx => by
  rcases Nat.lt_succ_iff_lt_or_eq.1 hx with h' | rfl
  · exact h x h'
  · exact h1
theorem Good1.step {L : List Nat} {a b : Nat} (h : Good1 L a (a + 1 + b)) (h1 : okp (L.getD a 0) (L.getD (a + 1 + b) 0) = true) : Good1 L a (a + 1 + (b + 1)) := fun y hy hy' => by
  by_cases e : y = a + 1 + b
  · subst e; exact h1
  · exact h y hy (by omega)

theorem fm_core (x : Nat) (h : x < 5) : ((fm x).toList == [103, 112, 117, 45, 99, 111, 114, 101]) = (x == 1) := by
  match x, h with
  | 0, _ => decide +kernel
  | 1, _ => decide +kernel
  | 2, _ => decide +kernel
  | 3, _ => decide +kernel
  | 4, _ => decide +kernel
theorem fm_ratio (x : Nat) (h : x < 5) : ((fm x).toList == [103, 112, 117, 45, 109, 101, 109, 111, 114, 121, 45, 114, 97, 116, 105, 111]) = (x == 2) := by
  match x, h with
  | 0, _ => decide +kernel
  | 1, _ => decide +kernel
  | 2, _ => decide +kernel
  | 3, _ => decide +kernel
  | 4, _ => decide +kernel
theorem fm_mem (x : Nat) (h : x < 5) : ((fm x).toList == [103, 112, 117, 45, 109, 101, 109, 111, 114, 121]) = (x == 3) := by
  match x, h with
  | 0, _ => decide +kernel
  | 1, _ => decide +kernel
  | 2, _ => decide +kernel
  | 3, _ => decide +kernel
  | 4, _ => decide +kernel
theorem fm_whole (x : Nat) (h : x < 5) : ((fm x).toList == [110, 118, 105, 100, 105, 97, 46, 99, 111, 109, 47, 103, 112, 117]) = (x == 4) := by
  match x, h with
  | 0, _ => decide +kernel
  | 1, _ => decide +kernel
  | 2, _ => decide +kernel
  | 3, _ => decide +kernel
  | 4, _ => decide +kernel
theorem fm_gpu (x : Nat) (h : x < 5) : ((fm x).toList == [103, 112, 117]) = (x == 0) := by
  match x, h with
  | 0, _ => decide +kernel
  | 1, _ => decide +kernel
  | 2, _ => decide +kernel
  | 3, _ => decide +kernel
  | 4, _ => decide +kernel
end Go.Proofs.YbulkabnaFmt
