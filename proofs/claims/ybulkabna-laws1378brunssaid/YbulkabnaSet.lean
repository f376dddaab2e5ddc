/-
  newSet: sorted, then merged.
-/
import Derived.Test.YbulkabnaSetPre
import Derived.OneCell
namespace Go.Proofs.Ybulkabna
open Go.RowKit

theorem info31 : (Yba.prog.info? 31).map (fun i => (i.zero, i.size, i.bytes)) = some (some (.agg #[.int .i64 0, .int .i64 0]), 2, 16) := by kernel_rfl

theorem grown_cell {w w' : World} {g : Nat} (h : w.grownBy w' (some g)) {a : Addr} (hb : a.block < w.heap.size) (hne : a.block ≠ g) : w'.cell? a = w.cell? a :=
  World.cell?_of_block (w := w) (h.block a.block hb (fun e => hne (by simpa using e)))
theorem grown_frozen {w w' : World} {g : Nat} (h : w.grownBy w' (some g)) {a : Addr} (hb : a.block < w.heap.size) (hne : a.block ≠ g) : w'.frozen? a = w.frozen? a :=
  World.frozen?_of_block (w := w) (h.block a.block hb (fun e => hne (by simpa using e)))
theorem RowIs.keep {w w' : World} {blk : Nat} {R : List (Int × Int)} (h : RowIs w blk R) (hb : ∀ o, w'.cell? ⟨blk, o, none⟩ = w.cell? ⟨blk, o, none⟩) : RowIs w' blk R := fun i hi => by
  rw [hb, hb]; exact h i hi

/-- Where newSet's loop stands behind j rounds. -/
structure St (w3 : World) (S : List Int) (j : Nat) (v : Value) (wr : World) : Prop where
  one : wr.heap[w3.heap.size]? = some (.cells #[v] 27 (0, 0))
  own : wr.ownsRow (w3.heap.size + 1) 31 2 v (merge (S.take j)).length (runCells (merge (S.take j)))
  bel : Below w3.heap.size w3 wr

theorem St.shape {w3 wr : World} {S : List Int} {j : Nat} {v : Value} (h : St w3 S j v wr) : ∃ ao cap, v = .slice ao (merge (S.take j)).length cap := by
  rcases h.own.2 with ⟨e, h0⟩ | ⟨g, cap, _, e, _⟩
  · exact ⟨none, 0, by rw [h0]; exact e⟩
  · exact ⟨_, cap, e⟩

theorem World_block_of_below {w W : World} {k : Nat} (h : Below w.heap.size w W) (hk : k < w.heap.size) : W.heap[k]? = w.heap[k]? := h.block k hk

/-- Behind an append: the variable still holds the old value, and may be written. -/
theorem St.mid {w3 wr W w1 : World} {S : List Int} {j : Nat} {v : Value} (h : St w3 S j v wr) (hW : Below wr.heap.size wr W) (hgrow : W.grownBy w1 v.ownBlock) :
    w1.heap[w3.heap.size]? = some (.cells #[v] 27 (0, 0)) ∧ Below w3.heap.size w3 w1 ∧ w3.heap.size < w1.heap.size := by
  have hM : w3.heap.size < wr.heap.size := lt_of_block h.one
  have hMW : w3.heap.size < W.heap.size := Nat.lt_of_lt_of_le hM hW.size
  have hne : some w3.heap.size ≠ v.ownBlock := fun e => by have := (h.own.lt _ e.symm).1; omega
  have h1 : w1.heap[w3.heap.size]? = some (.cells #[v] 27 (0, 0)) := by
    rw [hgrow.block _ hMW hne, hW.block _ hM]; exact h.one
  refine ⟨h1, ?_, lt_of_block h1⟩
  exact (h.bel.trans (hW.mono (by omega))).grown hgrow (by omega) (fun k hk => by have := (h.own.lt _ hk).1; omega)

theorem St.next {w3 w1 : World} {S : List Int} {j : Nat} {v v' : Value} (h1 : w1.heap[w3.heap.size]? = some (.cells #[v] 27 (0, 0))) (hb : Below w3.heap.size w3 w1)
    (hown : w1.ownsRow (w3.heap.size + 1) 31 2 v' (merge (S.take j)).length (runCells (merge (S.take j)))) : St w3 S j v' (w1.setCell ⟨w3.heap.size, 0, none⟩ v') :=
  ⟨one_setCell h1, ownsRow_setCell_below hown (by show w3.heap.size < _; omega) _, hb.setCell (Nat.le_refl _) _⟩

theorem St.alloc {w3 wr : World} {S : List Int} {j : Nat} {v : Value} (h : St w3 S j v wr) (o : Obj) : St w3 S j v (wr.alloc o) :=
  ⟨by rw [Below.heap_alloc _ _ _ (lt_of_block h.one)]; exact h.one, h.own.alloc o, h.bel.alloc (Nat.le_of_lt (lt_of_block h.one)) o⟩
theorem St.drew {w3 wr : World} {S : List Int} {j : Nat} {v : Value} (h : St w3 S j v wr) : St w3 S j v wr.drew := ⟨h.one, h.own, h.bel.drew⟩
theorem St.drewN {w3 wr : World} {S : List Int} {j : Nat} {v : Value} (h : St w3 S j v wr) (n : Nat) : St w3 S j v (wr.drewN n) := ⟨h.one, h.own, below_drewN h.bel n⟩
/-- The last run grows. -/
theorem St.grow {w3 wr : World} {S : List Int} {j g cap : Nat} {R0 : List (Int × Int)} {f l m : Int} (h : St w3 S j (.slice (some ⟨g, 0, none⟩) (merge (S.take j)).length cap) wr) (hR : merge (S.take j) = R0 ++ [(f, l)]) (hR' : merge (S.take (j + 1)) = R0 ++ [(f, m)]) :
    St w3 S (j + 1) (.slice (some ⟨g, 0, none⟩) (merge (S.take j)).length cap) (wr.setCell ⟨g, R0.length * 2 + 1, none⟩ (.int .i64 m)) := by
  obtain ⟨h1, h2, h3⟩ := h
  have hb := (h2.lt g rfl).1
  have hs := h2.stored (R0.length * 2 + 1) (.int .i64 m)
  have hl : (merge (S.take (j + 1))).length = (merge (S.take j)).length := by rw [hR, hR']; simp
  refine ⟨?_, ?_, h3.setCell (by show w3.heap.size ≤ g; omega) _⟩
  · rw [Below.heap_setCell _ _ _ _ (by show w3.heap.size ≠ g; omega)]; exact h1
  · rw [hl]
    have := hs.1
    rw [show runCells (merge (S.take j)) = runCells (R0 ++ [(f, l)]) by rw [hR], runCells_set, ← hR'] at this
    exact this
theorem owns_base {w : World} {base base' e size n : Nat} {v : Value} {xs : List Value} (h : w.ownsRow base e size v n xs) (hb : base' ≤ base) : w.ownsRow base' e size v n xs := by
  obtain ⟨h1, h2⟩ := h
  refine ⟨h1, ?_⟩
  rcases h2 with h2 | ⟨g, cap, cur, hv, hg, r⟩
  · exact .inl h2
  · exact .inr ⟨g, cap, cur, hv, by omega, r⟩
theorem step_len (R : List (Int × Int)) (x : Int) : (step R x).length ≤ R.length + 1 := by
  unfold step
  split
  · simp
  · split
    · simp
    · simp
theorem fold_len : ∀ (S : List Int) (R : List (Int × Int)), (S.foldl step R).length ≤ R.length + S.length
  | [], R => by simp
  | x :: S, R => by
    have h1 := fold_len S (step R x)
    have h2 := step_len R x
    simp only [List.foldl_cons, List.length_cons]
    omega
theorem merge_len (S : List Int) : (merge S).length ≤ S.length := by simpa [merge] using fold_len S []
theorem bel_ada {wr : World} (o1 o2 : Obj) (nq : Nat) : Below wr.heap.size wr (((wr.alloc o1).drewN nq).alloc o2) :=
  (below_drewN ((Below.refl _ _).alloc (Nat.le_refl _) _) nq).alloc (by simp) _
theorem two_new (wr : World) (o1 : Obj) (a b : Value) (nq : Nat) (j : Nat) (u : Value) (h : [a, b][j]? = some u) :
    (((wr.alloc o1).drewN nq).alloc (.cells #[a, b] 31)).cell? ((⟨wr.heap.size + 1, 0, none⟩ : Addr).add j) = some u := by
  have e : ((wr.alloc o1).drewN nq).heap.size = wr.heap.size + 1 := by show (wr.heap.push o1).size = _; simp
  have := cell_two_new ((wr.alloc o1).drewN nq) a b 31 j u h
  rwa [e] at this
theorem slice_shape {w1 : World} {base n : Nat} {v : Value} {xs : List Value} (h : w1.ownsRow base 31 2 v n xs) (hn : 0 < n) : ∃ g cap, v = .slice (some ⟨g, 0, none⟩) n cap := by
  rcases h.2 with ⟨_, h0⟩ | ⟨g, cap, _, e, _⟩
  · omega
  · exact ⟨g, cap, e⟩

set_option maxRecDepth 100000 in
set_option maxHeartbeats 1000000 in
theorem newSet9 (xs : List Int) (blk : Nat) (w : World) (hn : xs.length ≤ 1024) (hv : ∀ x ∈ xs, -32768 ≤ x ∧ x ≤ 32767) (hrow : RowIs w blk (pairs xs)) (hfz : ∀ j, w.frozen? ⟨blk, j, none⟩ = false) (hblk : blk < w.heap.size) :
    Calls Yba.prog 9 #[.slice (some ⟨blk, 0, none⟩) xs.length xs.length] w fun e w' =>
      ∃ S v, S.Perm xs ∧ Asc S ∧ e = .returned (.agg #[v]) ∧ w'.ownsRow w.heap.size 31 2 v (merge S).length (runCells (merge S)) ∧ Below blk w w' := by
  obtain ⟨i0, hi, hz0, hz1, hz2⟩ := info_parts info31
  obtain ⟨n, hxn⟩ : ∃ n, n = xs.length := ⟨_, rfl⟩
  rw [← hxn] at hn ⊢
  have HN : Hid (n = xs.length) := hxn
  have HR : Hid (RowIs w blk (pairs xs) ∧ ∀ j, w.frozen? ⟨blk, j, none⟩ = false) := ⟨hrow, hfz⟩
  have HV : Hid (∀ x ∈ xs, -32768 ≤ x ∧ x ≤ 32767) := hv
  clear hrow hfz hv hxn
  go_enter Yba.func9, Yba.ntmps9
  go_wp2_with fail
  obtain ⟨W2, hW2⟩ : ∃ W2, W2 = (w.alloc (.cells #[.slice (some ⟨blk, 0, none⟩) n n] 25)).alloc (.cells #[.slice none 0 0] 27) := ⟨_, rfl⟩
  have hz2 : W2.heap.size = w.heap.size + 2 := by rw [hW2]; simp
  have hb2 : Below w.heap.size w W2 := by rw [hW2]; exact ((Below.refl _ _).alloc (Nat.le_refl _) _).alloc (by simp) _
  have c0 : W2.cell? ⟨w.heap.size, 0, none⟩ = some (.slice (some ⟨blk, 0, none⟩) n n) := by rw [hW2]; simp
  have c1 : W2.cell? ⟨w.heap.size + 1, 0, none⟩ = some (.slice none 0 0) := by rw [hW2]; simp
  have f1 : W2.frozen? ⟨w.heap.size + 1, 0, none⟩ = false := by rw [hW2]; simp
  rw [← hW2]
  clear hW2
  have hS := sorted13 xs blk n w.heap.size (by rw [← HN.out]; exact hn) W2 (HR.out.1.keep fun o => hb2.cell (p := ⟨blk, o, none⟩) hblk) (fun o => (hb2.frozen (p := ⟨blk, o, none⟩) hblk).trans (HR.out.2 o)) (by omega) (by rw [← HN.out]; exact c0) (by omega) (by omega)
  rw [← HN.out] at hS
  refine hS.mono ?_
  clear hS
  rintro e w3 ⟨rfl, S, hperm, hasc, hrow3, hgr⟩
  have d0 : w3.cell? ⟨w.heap.size, 0, none⟩ = some (.slice (some ⟨blk, 0, none⟩) n n) := (grown_cell hgr (by show w.heap.size < _; omega) (by show w.heap.size ≠ _; omega)).trans c0
  have d1 : w3.cell? ⟨w.heap.size + 1, 0, none⟩ = some (.slice none 0 0) := (grown_cell hgr (by show w.heap.size + 1 < _; omega) (by show w.heap.size + 1 ≠ _; omega)).trans c1
  have d2 : w3.frozen? ⟨w.heap.size + 1, 0, none⟩ = false := (grown_frozen hgr (by show w.heap.size + 1 < _; omega) (by show w.heap.size + 1 ≠ _; omega)).trans f1
  have hz3 : w.heap.size + 2 ≤ w3.heap.size := by have := hgr.size; omega
  have hb3 : Below blk w w3 := (hb2.mono (by omega)).trans ((Below.refl _ _).grown hgr (by omega) (fun k hk => by cases hk; exact Nat.le_refl _))
  have HS : Hid (S.Perm xs ∧ Asc S ∧ RowIs w3 blk (pairs S)) := ⟨hperm, hasc, hrow3⟩
  have hlS : S.length = n := by rw [hperm.length_eq, ← HN.out]
  have HL : Hid (S.length = n) := hlS
  have h30 : w.heap.size < w3.heap.size := by omega
  have h31 : w.heap.size + 1 < w3.heap.size := by omega
  clear c0 c1 f1 hgr hperm hasc hrow3 hb2 hz2 HR hlS
  go_wp2
  go_loopg [13] n (fun k i wr => ∃ j v, j + k = n ∧ i = .int .i64 (j : Nat) ∧ St w3 S j v wr)
  case atStart =>
    refine ⟨0, .slice none 0 0, by omega, rfl, ?_, ?_, ?_⟩
    · show (w3.heap.push _)[w3.heap.size]? = _; simp
    · simpa [merge_nil, runCells] using World.ownsRow_nil _ _ _ _
    · exact (Below.refl _ _).alloc (Nat.le_refl _) _
  case round =>
    obtain ⟨j, v, hj, rfl, hst⟩ := hrel
    obtain ⟨ao, cap, rfl⟩ := hst.shape
    have hM := hst.one
    have cM := cell_of_one hM
    have fM := free_of_one hM
    have hzr : w3.heap.size < wr.heap.size := lt_of_block hM
    have HST : Hid (St w3 S j (.slice ao (merge (S.take j)).length cap) wr) := hst
    have cR : wr.cell? ⟨w.heap.size + 1, 0, none⟩ = some (.slice none 0 0) := (hst.bel.cell (p := ⟨w.heap.size + 1, 0, none⟩) h31).trans d1
    have fR : wr.frozen? ⟨w.heap.size + 1, 0, none⟩ = false := (hst.bel.frozen (p := ⟨w.heap.size + 1, 0, none⟩) h31).trans d2
    obtain ⟨m, hm⟩ : ∃ m, m = (merge (S.take j)).length := ⟨_, rfl⟩
    rw [← hm] at cM HST
    have HM : Hid (m = (merge (S.take j)).length) := hm
    clear hst hM hm
    by_cases hlt : j < n
    · obtain ⟨x, hx⟩ : ∃ x, x = S.getD j 0 := ⟨_, rfl⟩
      have hjS : j < S.length := by rw [HL.out]; exact hlt
      have hpl : (pairs S).length = S.length := by simp [pairs]
      have hpg : (pairs S).getD j (0, 0) = (x, x) := by rw [hx]; simp [pairs, List.getD, hjS]
      have cx1 : wr.cell? ⟨blk, j * 2, none⟩ = some (.int .i64 x) := by
        rw [HST.out.bel.cell (p := ⟨blk, j * 2, none⟩) (by show blk < _; omega), (HS.out.2.2 j (by rw [hpl]; exact hjS)).1, hpg]
      have cx2 : wr.cell? ⟨blk, j * 2 + 1, none⟩ = some (.int .i64 x) := by
        rw [HST.out.bel.cell (p := ⟨blk, j * 2 + 1, none⟩) (by show blk < _; omega), (HS.out.2.2 j (by rw [hpl]; exact hjS)).2, hpg]
      have hxv : -32768 ≤ x ∧ x ≤ 32767 := HV.out x (HS.out.1.mem_iff.1 (by rw [hx]; simp [List.getD, hjS]))
      obtain ⟨hx1, hx2⟩ := hxv
      have HX : Hid (x = S.getD j 0) := hx
      have HJ : Hid (j < S.length) := hjS
      clear hx hpl hpg hjS cR fR
      by_cases hR : m = 0
      · subst hR
        have hs1 : w3.heap.size < wr.heap.size + 1 := by omega
        have hs2 : w3.heap.size < wr.heap.size + 1 + 1 := by omega
        have hR0 : merge (S.take j) = [] := List.length_eq_zero_iff.1 HM.out.symm
        have hnx : merge (S.take (j + 1)) = merge (S.take j) ++ [(x, x)] := by rw [merge_take HJ.out, hR0, ← HX.out]; rfl
        have HNX : Hid (merge (S.take (j + 1)) = merge (S.take j) ++ [(x, x)]) := hnx
        clear hR0 hnx
        have hoo : ∀ o1 o2 nq, (((wr.alloc o1).alloc o2).drewN nq).ownsRow (w3.heap.size + 1) 31 2 (.slice ao 0 cap) 0 (runCells (merge (S.take j))) := fun o1 o2 nq => by
          have := (HST.out.own.alloc o1).alloc o2
          rw [← HM.out] at this
          exact this
        go_upto_region 7 with fail
        go_quiet (fail)
        go_wp2_with (at_builtin; go_must (refine wpList_append_own _ rfl _ _ 25 rfl (w3.heap.size + 1) 31 i0 (.agg #[.int .i64 0, .int .i64 0]) 2 16 Yba.underlying25 hi hz0 hz1 hz2 rfl (by decide) _ 0 (runCells (merge (S.take j))) rfl (hoo _ _ _) ⟨wr.heap.size + 1, 0, none⟩ 1 1 [.int .i64 x, .int .i64 x] rfl rfl ?c1 ?c2 ?c3 ?c4 ?c5 ?_))
        case c1 => exact two_new _ _ _ _ _
        case c2 => intro u hu; simp at hu; subst hu; rfl
        case c3 => decide
        case c4 => decide
        case c5 => simp; omega
        intro v' w1 hown' hgrow _
        obtain ⟨hm1, hb1, hz1'⟩ := HST.out.mid (bel_ada _ _ nq) hgrow
        obtain ⟨g', cap', hv'⟩ := slice_shape hown' (by omega)
        have hown2 : w1.ownsRow (w3.heap.size + 1) 31 2 v' (merge (S.take (j + 1))).length (runCells (merge (S.take (j + 1)))) := by
          rw [HNX.out, runCells_app, List.length_append, ← HM.out]; exact hown'
        have hst2 := St.next hm1 hb1 hown2
        rw [hv'] at hst2
        have HS2 : Hid (St w3 S (j + 1) (.slice (some ⟨g', 0, none⟩) 1 cap') (w1.setCell ⟨w3.heap.size, 0, none⟩ (.slice (some ⟨g', 0, none⟩) 1 cap'))) := hst2
        have cM1 := cell_of_one hm1
        have fM1 := free_of_one hm1
        rw [hv']
        clear hown' hgrow hown2 hst2 hv' hm1 hb1 HST hoo hi hz0 hz1 hz2
        go_wp2
        go_roundg (n - (j + 1))
        case rel => exact ⟨j + 1, _, by omega, by go_num, HS2.out⟩
        case measure => omega
      · obtain ⟨R0, f, l, hRe, hlm⟩ : ∃ R0 f l, merge (S.take j) = R0 ++ [(f, l)] ∧ l ∈ S.take j := by
          rcases (inv_take HS.out.2.1 j (by rw [HL.out]; omega)).shape with ⟨_, h0⟩ | ⟨R0, f, l, h0, h1, _⟩
          · exact absurd (by rw [HM.out, h0]; rfl) hR
          · exact ⟨R0, f, l, h0, h1⟩
        have hlb : -32768 ≤ l ∧ l ≤ 32767 := HV.out l (HS.out.1.mem_iff.1 (List.mem_of_mem_take hlm))
        have hlx : l ≤ x := by
          obtain ⟨i, h1, h2, h3⟩ := mem_take hlm
          rw [← h3, HX.out]; exact HS.out.2.1 i j h1 HJ.out
        clear hlm
        have hml : m = R0.length + 1 := by rw [HM.out, hRe]; simp
        have hmj : m ≤ j := by
          have := merge_len (S.take j)
          rw [HM.out]
          simp at this; omega
        obtain ⟨g, cap2, hvs⟩ := slice_shape (by have := HST.out.own; rw [← HM.out] at this; exact this) (by omega)
        simp only [Value.slice.injEq] at hvs
        obtain ⟨rfl, _, rfl⟩ := hvs
        obtain ⟨hl1, hl2⟩ := hlb
        have hown := HST.out.own
        have hRow : RowIs wr g (merge (S.take j)) := RowIs.of_owns (by have := hown; rw [HM.out] at this; exact this)
        have cl := (hRow R0.length (by rw [hRe]; simp)).2
        rw [show ((merge (S.take j)).getD R0.length (0, 0)).2 = l by rw [hRe]; simp] at cl
        have fl : wr.frozen? ⟨g, R0.length * 2 + 1, none⟩ = false := by
          have := hown; rw [HM.out] at this; exact this.frozenAt _
        have hg := (hown.lt g rfl).2
        have hgb := (hown.lt g rfl).1
        have HRE : Hid (merge (S.take j) = R0 ++ [(f, l)]) := hRe
        clear hRow hRe hown
        obtain ⟨r, hr⟩ : ∃ r, r = R0.length := ⟨_, rfl⟩
        rw [← hr] at cl fl hml
        have HRL : Hid (r = R0.length) := hr
        clear hr
        subst hml
        have hs1 : w3.heap.size < wr.heap.size + 1 := by omega
        have hs2 : w3.heap.size < wr.heap.size + 1 + 1 := by omega
        have hg1 : g < wr.heap.size + 1 := by omega
        by_cases hin : x ≤ l + 1
        · go_upto_region 7 with fail
          go_quiet (fail)
          go_wp2
          clear hi hz0 hz1 hz2
          have hstep : merge (S.take (j + 1)) = R0 ++ [(f, max l x)] := by
            rw [merge_take HJ.out, HRE.out, ← HX.out, step_in _ _ _ _ hin]
          have HSG : Hid (∀ o q, St w3 S (j + 1) (.slice (some ⟨g, 0, none⟩) (r + 1) cap) (((wr.alloc o).drewN q).setCell ⟨g, r * 2 + 1, none⟩ (.int .i64 (max l x)))) := fun o q => by
            have hsg := St.grow (by have := (HST.out.alloc o).drewN q; rw [HM.out] at this; exact this) HRE.out hstep
            rw [← HM.out, ← HRL.out] at hsg
            exact hsg
          clear hstep
          go_region
          go_wp2
          go_roundg (n - (j + 1))
          case rel =>
            refine ⟨j + 1, .slice (some ⟨g, 0, none⟩) (r + 1) cap, by omega, by go_num, ?_⟩
            exact HSG.out _ _
          case measure => omega
        · have hnx : merge (S.take (j + 1)) = merge (S.take j) ++ [(x, x)] := by
            rw [merge_take HJ.out, ← HX.out, HRE.out, step_out _ _ _ _ hin]; simp
          have HNX : Hid (merge (S.take (j + 1)) = merge (S.take j) ++ [(x, x)]) := hnx
          clear hnx
          have hoo : ∀ o1 o2 nq, (((wr.alloc o1).alloc o2).drewN nq).ownsRow (w3.heap.size + 1) 31 2 (.slice (some ⟨g, 0, none⟩) (r + 1) cap) (r + 1) (runCells (merge (S.take j))) := fun o1 o2 nq => by
            have := (HST.out.own.alloc o1).alloc o2
            rw [← HM.out] at this
            exact this
          have hin' : l + 1 < x := by omega
          go_upto_region 7 with fail
          go_quiet (fail)
          go_wp2_with (at_builtin; refine wpList_append_own _ rfl _ _ 25 rfl (w3.heap.size + 1) 31 i0 (.agg #[.int .i64 0, .int .i64 0]) 2 16 Yba.underlying25 hi hz0 hz1 hz2 rfl (by decide) _ (r + 1) (runCells (merge (S.take j))) rfl (hoo _ _ _) ⟨wr.heap.size + 1, 0, none⟩ 1 1 [.int .i64 x, .int .i64 x] rfl rfl (two_new _ _ _ _ _) ?e2 ?e3 ?e4 ?e5 ?_)
          case e2 => first | rfl | (intro u hu; simp at hu; subst hu; rfl)
          case e3 => unfold maxLen; omega
          case e4 => omega
          case e5 => first | omega | (simp; omega)
          intro v' w1 hown' hgrow _
          obtain ⟨hm1, hb1, hz1'⟩ := HST.out.mid (bel_ada _ _ nq) hgrow
          obtain ⟨g', cap', hv'⟩ := slice_shape hown' (by omega)
          have hown2 : w1.ownsRow (w3.heap.size + 1) 31 2 v' (merge (S.take (j + 1))).length (runCells (merge (S.take (j + 1)))) := by
            rw [HNX.out, runCells_app, List.length_append, ← HM.out]; exact hown'
          have hst2 := St.next hm1 hb1 hown2
          rw [hv'] at hst2
          have HS2 : Hid (St w3 S (j + 1) (.slice (some ⟨g', 0, none⟩) (r + 1 + 1) cap') (w1.setCell ⟨w3.heap.size, 0, none⟩ (.slice (some ⟨g', 0, none⟩) (r + 1 + 1) cap'))) := hst2
          have cM1 := cell_of_one hm1
          have fM1 := free_of_one hm1
          rw [hv']
          clear hown' hgrow hown2 hst2 hv' hm1 hb1 HST hoo hi hz0 hz1 hz2
          go_wp2
          go_roundg (n - (j + 1))
          case rel => exact ⟨j + 1, _, by omega, by go_num, HS2.out⟩
          case measure => omega
    · obtain rfl : j = n := by omega
      go_wp2
      refine bodyPost_ret (v := .agg #[.slice ao m cap]) (by simp [results, Yba.results9, go_sem, cR]) rfl ⟨S, _, HS.out.1, HS.out.2.1, rfl, ?_, ?_⟩
      · have ho := HST.out.own
        have e : S.take j = S := by rw [← HL.out]; simp
        rw [← HM.out] at ho
        have hm' := HM.out
        rw [e] at ho hm'
        rw [← hm']
        exact owns_base (ownsRow_setCell_below ho (by show w.heap.size + 1 < _; omega) _) (by omega)
      · exact (hb3.trans (HST.out.bel.mono (by omega))).setCell (by show blk ≤ w.heap.size + 1; omega) _
end Go.Proofs.Ybulkabna
