/-
  LawS1378BMembers: the walk.
-/
import Derived.Test.YbulkabnaSetOf
import Derived.Test.YbulkabnaLayC
namespace Go.Proofs.Ybulkabna
open Go.RowKit

theorem bcell {W w1 : World} (hb : Below W.heap.size W w1) : (∀ b o, b < W.heap.size → w1.cell? ⟨b, o, none⟩ = W.cell? ⟨b, o, none⟩) :=
  fun b o h => hb.cell (p := ⟨b, o, none⟩) h

theorem ints_nil : ints [] = [] := rfl

set_option maxRecDepth 100000 in
set_option maxHeartbeats 400000 in
theorem law4_zero (a : Option Addr) (cap : Nat) (w : World) : Calls Yba.prog 4 #[.slice a 0 cap] w fun e w' => e = .returned (.bool true) ∧ Below w.heap.size w w' := by
  go_enter Yba.func4, Yba.ntmps4
  go_wp2_with fail
  refine (ints5_none a cap _).mono ?_
  rintro e w1 ⟨rfl, hown, hb1⟩
  have hz1 := (hown.lt _ rfl).2
  clear hown
  go_wp2_with fail
  refine (setOf6 [] w.heap.size _ (by decide) (by simp) hz1 (fun j hj => absurd hj (by simp))).mono ?_
  rintro e w2 ⟨S, v, hp, ha, rfl, hown2, hb2⟩
  obtain rfl : S = [] := List.Perm.eq_nil hp
  obtain ⟨ao, c2, hv⟩ : ∃ ao c2, v = .slice ao 0 c2 := by
    rcases hown2.2 with ⟨e, _⟩ | ⟨g, c2, _, e, _⟩
    · exact ⟨none, 0, e⟩
    · exact ⟨_, c2, e⟩
  rw [hv]
  have hbw : Below w.heap.size w w2 := hb1.trans (hb2.mono hb1.size)
  clear hown2 hp ha hv hb1 hb2
  go_wp2
  refine wp_loop_rounds 1 ?_
  rw [rounds_succ]
  go_wp2
  refine wp_loop_rounds 1 ?_
  rw [rounds_succ]
  go_wp2
  refine wp_loop_rounds 1 ?_
  rw [rounds_succ]
  go_wp2
  go_ret
  exact ⟨rfl, hbw.alloc hbw.size _⟩

theorem size_nonneg {R : List (Int × Int)} (h : ∀ p ∈ R, p.1 ≤ p.2) : 0 ≤ size R := by
  induction R with
  | nil => simp [size]
  | cons p R ih =>
    have h1 := ih (fun q hq => h q (by simp [hq]))
    have h2 := h p (by simp)
    have e : size (p :: R) = p.2 - p.1 + 1 + size R := by simp [size]
    omega
/-- How many numbers the first i runs hold. -/
def sizeTo (R : List (Int × Int)) (i : Nat) : Int := size (R.take i)

theorem sizeTo_succ {R : List (Int × Int)} {i : Nat} (h : i < R.length) : sizeTo R (i + 1) = sizeTo R i + ((R.getD i (0, 0)).2 - (R.getD i (0, 0)).1 + 1) := by
  unfold sizeTo
  rw [List.take_succ_eq_append_getElem h, size_app, size_one]
  simp [List.getD, h]
theorem sizeTo_le {R : List (Int × Int)} (hw : ∀ p ∈ R, p.1 ≤ p.2) (i : Nat) : 0 ≤ sizeTo R i ∧ sizeTo R i ≤ size R := by
  have h1 : size R = size (R.take i) + size (R.drop i) := by rw [← size_app, List.take_append_drop]
  have h2 := size_nonneg (R := R.take i) (fun p hp => hw p (List.mem_of_mem_take hp))
  have h3 := size_nonneg (R := R.drop i) (fun p hp => hw p (List.mem_of_mem_drop hp))
  unfold sizeTo
  omega
def hit (R : List (Int × Int)) (c : Int) (t : Nat) : Bool := (R.take t).any fun p => decide (p.1 ≤ c) && decide (c ≤ p.2)
theorem hit_zero (R : List (Int × Int)) (c : Int) : hit R c 0 = false := by simp [hit]
theorem hit_succ {R : List (Int × Int)} {c : Int} {t : Nat} (h : t < R.length) : hit R c (t + 1) = (hit R c t || (decide ((R.getD t (0, 0)).1 ≤ c) && decide (c ≤ (R.getD t (0, 0)).2))) := by
  unfold hit
  rw [List.take_succ_eq_append_getElem h, List.any_append]
  simp [List.getD, h]
theorem hit_all {R : List (Int × Int)} {c : Int} (h : ∃ p ∈ R, p.1 ≤ c ∧ c ≤ p.2) : hit R c R.length = true := by
  unfold hit
  rw [List.take_length, List.any_eq_true]
  obtain ⟨p, hp, h1, h2⟩ := h
  exact ⟨p, hp, by simp [h1, h2]⟩

theorem contains8 (xs : List Int) (cb n : Nat) (y : Int) (W : World) (hn : n = xs.length) (h1024 : n ≤ 1024) (hy : y ∈ xs) (hc : ∀ j, j < n → W.cell? ⟨cb, j, none⟩ = some (.int .i64 (xs.getD j 0))) :
    Calls Yba.prog 8 #[.slice (some ⟨cb, 0, none⟩) n n, .int .i64 y] W fun e w' => e = .returned (.bool true) ∧ W = w' :=
  (Yba.slices_Contains_int cb 0 n n xs y W (by omega) (by omega) (fun j hj => by simpa using hc j (by omega))).mono fun e w' hh => by
    obtain ⟨rfl, rfl⟩ := hh
    refine ⟨?_, rfl⟩
    rw [hn, List.take_length]
    simp [hy]

set_option maxRecDepth 100000 in
set_option maxHeartbeats 2000000 in
theorem law4_core (xs : List Int) (cap b off : Nat) (w : World) (hn : xs.length ≤ 1024) (hpos : 0 < xs.length) (hb : b < w.heap.size)
    (hc : ∀ j, j < xs.length → w.cell? ⟨b, off + j, none⟩ = some (.int .i16 (xs.getD j 0))) (hv : ∀ j, j < xs.length → -32768 ≤ xs.getD j 0 ∧ xs.getD j 0 ≤ 32767) :
    Calls Yba.prog 4 #[.slice (some ⟨b, off, none⟩) xs.length cap] w fun e w' => e = .returned (.bool true) ∧ Below w.heap.size w w' := by
  obtain ⟨n, hxn⟩ : ∃ n, n = xs.length := ⟨_, rfl⟩
  have HI := ints5 xs cap b off w hn hpos hb hc hv
  have hvm : ∀ x ∈ xs, -32768 ≤ x ∧ x ≤ 32767 := fun x hx => by
    obtain ⟨i, hi, rfl⟩ := List.mem_iff_getElem.1 hx
    have := hv i hi
    simpa [List.getD, hi] using this
  rw [← hxn] at hn hpos HI ⊢
  have HN : Hid (n = xs.length) := hxn
  have HV : Hid (∀ x ∈ xs, -32768 ≤ x ∧ x ≤ 32767) := hvm
  have HII : Hid (Calls Yba.prog 5 #[.slice (some ⟨b, off, none⟩) n cap] w fun e w' =>
      e = .returned (.slice (some ⟨w.heap.size, 0, none⟩) n n) ∧ w'.ownsRow w.heap.size 3 1 (.slice (some ⟨w.heap.size, 0, none⟩) n n) n (ints xs) ∧ Below w.heap.size w w') := HI
  clear HI hxn hc hv hvm
  have h18 : decide ((1024 : Int) < (n : Int)) = false := by simp; omega
  go_enter Yba.func4, Yba.ntmps4
  go_wp2_with fail
  refine HII.out.mono ?_
  clear HII
  rintro e w1 ⟨rfl, hown, hb1⟩
  have hz1 := (hown.lt _ rfl).2
  have hcI : ∀ j, j < xs.length → w1.cell? ⟨w.heap.size, j, none⟩ = some (.int .i64 (xs.getD j 0)) := fun j hj => by
    rw [hown.cellAt j (by rw [HN.out]; omega)]; exact ints_at hj
  have HS := setOf6 xs w.heap.size w1 (by rw [← HN.out]; exact hn) HV.out hz1 hcI
  rw [← HN.out] at HS
  have HSS : Hid (Calls Yba.prog 6 #[.slice (some ⟨w.heap.size, 0, none⟩) n n] w1 fun e w' =>
      ∃ S v, S.Perm xs ∧ Asc S ∧ e = .returned (.agg #[v]) ∧ w'.ownsRow w1.heap.size 31 2 v (merge S).length (runCells (merge S)) ∧ Below w1.heap.size w1 w') := HS
  have HCI : Hid (∀ j, j < xs.length → w1.cell? ⟨w.heap.size, j, none⟩ = some (.int .i64 (xs.getD j 0))) := hcI
  clear HS hown hcI
  go_wp2_with fail
  refine HSS.out.mono ?_
  clear HSS
  rintro e w2 ⟨S, v, hp, ha, rfl, hown2, hb2⟩
  have hinv := inv_all ha
  obtain ⟨R, hR⟩ : ∃ R, R = merge S := ⟨_, rfl⟩
  rw [← hR] at hinv hown2
  have hL : 0 < R.length := by
    rcases hinv.shape with ⟨h0, _⟩ | ⟨R0, f, l, h0, _⟩
    · have := hp.length_eq; rw [h0, ← HN.out] at this; simp at this; omega
    · rw [h0]; simp
  have hLn : R.length ≤ n := by rw [hR, HN.out, ← hp.length_eq]; exact merge_len S
  obtain ⟨g, c2, hvs⟩ := slice_shape hown2 hL
  have hgl := hown2.lt
  rw [hvs] at hown2 hgl
  have hgw := (hgl g rfl)
  rw [hvs]
  have hrow : RowIs w2 g R := RowIs.of_owns hown2
  have hbw : Below w.heap.size w w2 := hb1.trans (hb2.mono hb1.size)
  have hz2 : w.heap.size < w2.heap.size := Nat.lt_of_lt_of_le hz1 hb2.size
  have hcI2 : ∀ j, j < xs.length → w2.cell? ⟨w.heap.size, j, none⟩ = some (.int .i64 (xs.getD j 0)) := fun j hj => (hb2.cell (p := ⟨w.heap.size, j, none⟩) hz1).trans (HCI.out j hj)
  have hcov : ∀ x ∈ xs, ∃ p ∈ R, p.1 ≤ x ∧ x ≤ p.2 := fun x hx => hinv.cov x (hp.mem_iff.2 hx)
  have hmem : ∀ p ∈ R, ∀ y, p.1 ≤ y → y ≤ p.2 → y ∈ xs := fun p hp' y h1 h2 => hp.mem_iff.1 (hinv.mem p hp' y h1 h2)
  have hcnt : size R ≤ n := by have := hinv.cnt; rw [hp.length_eq, ← HN.out] at this; exact this
  have FACT : Hid (RowIs w2 g R ∧ (∀ j, j < xs.length → w2.cell? ⟨w.heap.size, j, none⟩ = some (.int .i64 (xs.getD j 0))) ∧ (∀ x ∈ xs, ∃ p ∈ R, p.1 ≤ x ∧ x ≤ p.2) ∧ (∀ p ∈ R, ∀ y, p.1 ≤ y → y ≤ p.2 → y ∈ xs) ∧ size R ≤ n ∧ (∀ p ∈ R, p.1 ≤ p.2) ∧ (R.Pairwise fun p q => p.2 + 1 < q.1)) :=
    ⟨hrow, hcI2, hcov, hmem, hcnt, hinv.wf, hinv.sep⟩
  clear hrow hcI2 hcov hmem hcnt hinv hR hp ha hown2 hgl hvs HCI
  obtain ⟨m, hm⟩ : ∃ m, m = R.length := ⟨_, rfl⟩
  rw [← hm] at hL hLn ⊢
  have HM : Hid (m = R.length) := hm
  clear hm
  obtain ⟨W0, hW0⟩ : ∃ W0, W0 = w2.alloc (.cells #[.slice (some ⟨g, 0, none⟩) m c2] 27) := ⟨_, rfl⟩
  have hWz : W0.heap.size = w2.heap.size + 1 := by rw [hW0]; simp
  have hWb : Below w2.heap.size w2 W0 := by rw [hW0]; exact (Below.refl _ _).alloc (Nat.le_refl _) _
  have FACT2 : Hid (W0.cell? ⟨w2.heap.size, 0, none⟩ = some (.slice (some ⟨g, 0, none⟩) m c2) ∧ RowIs W0 g R ∧ (∀ j, j < xs.length → W0.cell? ⟨w.heap.size, j, none⟩ = some (.int .i64 (xs.getD j 0))) ∧ Below w.heap.size w W0 ∧ W0.heap.size = w2.heap.size + 1) :=
    ⟨by rw [hW0]; simp, FACT.out.1.keep fun o => hWb.cell (p := ⟨g, o, none⟩) hgw.2, fun j hj => (hWb.cell (p := ⟨w.heap.size, j, none⟩) hz2).trans (FACT.out.2.1 j hj), hbw.trans (hWb.mono hbw.size), hWz⟩
  have HW0 : Hid (W0 = w2.alloc (.cells #[.slice (some ⟨g, 0, none⟩) m c2] 27)) := hW0
  have hw2z : w2.heap.size < W0.heap.size := by omega
  have hgz : g < W0.heap.size := by omega
  have hcz : w.heap.size < W0.heap.size := by omega
  clear hW0 hWb hWz hbw hb1 hb2 hz1 hgw
  have KEEP : Hid (∀ wr, Below W0.heap.size W0 wr → wr.cell? ⟨w2.heap.size, 0, none⟩ = some (.slice (some ⟨g, 0, none⟩) m c2) ∧ (∀ i, i < m → wr.cell? ⟨g, i * 2, none⟩ = some (.int .i64 (R.getD i (0, 0)).1) ∧ wr.cell? ⟨g, i * 2 + 1, none⟩ = some (.int .i64 (R.getD i (0, 0)).2)) ∧ (∀ j, j < n → wr.cell? ⟨w.heap.size, j, none⟩ = some (.int .i64 (xs.getD j 0))) ∧ Below w.heap.size w wr) := fun wr hb => by
    refine ⟨(hb.cell (p := ⟨w2.heap.size, 0, none⟩) hw2z).trans FACT2.out.1, fun i hi => ?_, fun j hj => (hb.cell (p := ⟨w.heap.size, j, none⟩) hcz).trans (FACT2.out.2.2.1 j (by rw [← HN.out]; exact hj)), FACT2.out.2.2.2.1.trans (hb.mono FACT2.out.2.2.2.1.size)⟩
    exact (FACT2.out.2.1.keep fun o => hb.cell (p := ⟨g, o, none⟩) hgz) i (by rw [← HM.out]; exact hi)
  clear FACT2
  go_wp2
  go_loopg [26] m (fun k i wr => ∃ j : Nat, j + k = m ∧ i = .int .i64 j ∧ Below W0.heap.size W0 wr)
  case atStart => exact ⟨0, by omega, rfl, by rw [HW0.out]; exact Below.refl _ _⟩
  case round =>
    obtain ⟨j, hj, rfl, hbr⟩ := hrel
    obtain ⟨cS, cRow, cCpu, hbwr⟩ := KEEP.out wr hbr
    have hzr := hbr.size
    have hq1 : w2.heap.size < wr.heap.size := by omega
    have hq2 : g < wr.heap.size := by omega
    by_cases hlt : j < m
    · have hjR : j < R.length := by rw [← HM.out]; exact hlt
      obtain ⟨f, hf⟩ : ∃ f, f = (R.getD j (0, 0)).1 := ⟨_, rfl⟩
      obtain ⟨l, hl⟩ : ∃ l, l = (R.getD j (0, 0)).2 := ⟨_, rfl⟩
      obtain ⟨cf, cl⟩ := cRow j hlt
      rw [← hf] at cf
      rw [← hl] at cl
      have hpm : (f, l) ∈ R := by
        have e : R.getD j (0, 0) = R[j] := by simp [List.getD, hjR]
        rw [hf, hl, e]; exact List.getElem_mem hjR
      have hfl : f ≤ l := FACT.out.2.2.2.2.2.1 (f, l) hpm
      have hbd := FACT.out.2.2.2.1 (f, l) hpm
      have hfb : -32768 ≤ f ∧ f ≤ 32767 := HV.out f (hbd f (by simp) (by simpa using hfl))
      have hlb : -32768 ≤ l ∧ l ≤ 32767 := HV.out l (hbd l (by simpa using hfl) (by simp))
      obtain ⟨hfb1, hfb2⟩ := hfb
      obtain ⟨hlb1, hlb2⟩ := hlb
      by_cases hj0 : j = 0
      · subst hj0
        clear hf hl hpm hbd cRow cCpu
        go_upto_region 10 with fail
        go_quiet (fail)
        go_wp2
        go_roundg (m - 1)
        case rel => exact ⟨1, by omega, by go_num, below_drewN (hbr.alloc hzr _) nq⟩
        case measure => omega
      · obtain ⟨i, rfl⟩ : ∃ i, j = i + 1 := ⟨j - 1, by omega⟩
        obtain ⟨l', hl'⟩ : ∃ l', l' = (R.getD i (0, 0)).2 := ⟨_, rfl⟩
        have cl' := (cRow i (by omega)).2
        rw [← hl'] at cl'
        have hsep : l' + 1 < f := by
          have := List.pairwise_iff_getElem.1 FACT.out.2.2.2.2.2.2 i (i + 1) (by omega) (by omega) (by omega)
          rw [hl', hf]; simpa [List.getD, hjR, show i < R.length by omega] using this
        have hlb' : -32768 ≤ l' ∧ l' ≤ 32767 := by
          have hpm' : (R.getD i (0, 0)) ∈ R := by simp [List.getD, show i < R.length by omega]
          have h1 := FACT.out.2.2.2.2.2.1 _ hpm'
          rw [hl']; exact HV.out _ (FACT.out.2.2.2.1 _ hpm' _ h1 (Int.le_refl _))
        obtain ⟨hlb1', hlb2'⟩ := hlb'
        clear hf hl hpm hbd cRow cCpu hl'
        go_upto_region 10 with fail
        go_quiet (fail)
        go_wp2
        go_roundg (m - (i + 1 + 1))
        case rel => exact ⟨i + 1 + 1, by omega, by go_num, below_drewN (hbr.alloc hzr _) nq⟩
        case measure => omega
    · obtain rfl : j = m := by omega
      clear hj hlt cRow cCpu hbwr
      go_wp2
      go_loopg [7, 55] j (fun k c i wx => ∃ t : Nat, t + k = j ∧ i = .int .i64 t ∧ c = .int .i64 (sizeTo R t) ∧ Below W0.heap.size W0 wx)
      case atStart => exact ⟨0, by omega, rfl, by simp [sizeTo, size], hbr⟩
      case round =>
        clear cS hzr hq1 hq2 hbr
        obtain ⟨t, ht, rfl, rfl, hbr⟩ := hrel
        obtain ⟨cS, cRow, cCpu, hbwr⟩ := KEEP.out wr hbr
        have hzr := hbr.size
        have hq1 : w2.heap.size < wr.heap.size := by omega
        have hq2 : g < wr.heap.size := by omega
        have hq3 : w.heap.size < wr.heap.size := by omega
        have hsl := sizeTo_le FACT.out.2.2.2.2.2.1 t
        have hsn := FACT.out.2.2.2.2.1
        by_cases hlt : t < j
        · have htR : t < R.length := by rw [← HM.out]; exact hlt
          have hsu := sizeTo_succ htR
          have hsl2 := sizeTo_le FACT.out.2.2.2.2.2.1 (t + 1)
          obtain ⟨f, hf⟩ : ∃ f, f = (R.getD t (0, 0)).1 := ⟨_, rfl⟩
          obtain ⟨l, hl⟩ : ∃ l, l = (R.getD t (0, 0)).2 := ⟨_, rfl⟩
          obtain ⟨cf, cl⟩ := cRow t hlt
          rw [← hf] at cf hsu
          rw [← hl] at cl hsu
          have hpm : (f, l) ∈ R := by
            have e : R.getD t (0, 0) = R[t] := by simp [List.getD, htR]
            rw [hf, hl, e]; exact List.getElem_mem htR
          have hfl : f ≤ l := FACT.out.2.2.2.2.2.1 (f, l) hpm
          have hbd := FACT.out.2.2.2.1 (f, l) hpm
          have hfb : -32768 ≤ f ∧ f ≤ 32767 := HV.out f (hbd f (by simp) (by simpa using hfl))
          have hlb : -32768 ≤ l ∧ l ≤ 32767 := HV.out l (hbd l (by simpa using hfl) (by simp))
          obtain ⟨hfb1, hfb2⟩ := hfb
          obtain ⟨hlb1, hlb2⟩ := hlb
          obtain ⟨c0, hc0⟩ : ∃ c0, c0 = sizeTo R t := ⟨_, rfl⟩
          rw [← hc0] at hsu hsl ⊢
          have hc1 : 0 ≤ c0 := hsl.1
          have hc2 : c0 + (l - f + 1) ≤ n := by omega
          have HSU : Hid (sizeTo R (t + 1) = c0 + (l - f + 1)) := hsu
          have HBD : Hid (∀ y, f ≤ y → y ≤ l → y ∈ xs) := hbd
          have HCP : Hid (∀ j, j < n → wr.cell? ⟨w.heap.size, j, none⟩ = some (.int .i64 (xs.getD j 0))) := cCpu
          clear hf hl hpm hbd cRow cCpu hsl hsn hsl2 hsu hc0 htR
          rename World => Wo
          go_wp2
          go_loopg [7, 10] (l + 1 - f).toNat (fun k c x wx => Wo.alloc (.cells #[.int .i64 f, .int .i64 l] 31) = wx ∧ ∃ y : Int, f ≤ y ∧ y + k = l + 1 ∧ x = .int .i64 y ∧ c = .int .i64 (c0 + (y - f)))
          case atStart => exact ⟨rfl, f, by omega, by omega, rfl, by simp⟩
          case round =>
            obtain ⟨rfl, y, hy1, hy2, rfl, rfl⟩ := hrel
            have hy3 : y ≤ l + 1 := by omega
            by_cases hyl : y ≤ l
            · have HY : Hid (y ∈ xs) := HBD.out y hy1 hyl
              have hcnt : c0 + (y - f) + 1 ≤ n := by omega
              go_wp2_with fail
              refine (contains8 xs w.heap.size n y _ HN.out hn HY.out (fun i hi => ((Below.refl Wo.heap.size Wo).alloc (Nat.le_refl _) _).cell (p := ⟨w.heap.size, i, none⟩) hq3 |>.trans (HCP.out i hi))).mono ?_
              rintro e w' ⟨rfl, rfl⟩
              go_wp2
              go_roundg (l - y).toNat
              case rel => exact ⟨rfl, y + 1, by omega, by omega, by go_num, by go_num⟩
              case measure => omega
            · obtain rfl : y = l + 1 := by omega
              go_wp2
              go_roundg (j - (t + 1))
              case rel => exact ⟨t + 1, by omega, by go_num, by rw [HSU.out]; go_num, hbr.alloc hzr _⟩
              case measure => omega
        · obtain rfl : t = j := by omega
          clear hsl hsn ht hlt cRow cCpu hbwr cS hq1 hq2 hq3 hzr
          go_wp2
          go_loopg [82] n (fun k i wx => ∃ u : Nat, u + k = n ∧ i = .int .i64 u ∧ Below W0.heap.size W0 wx)
          case atStart => exact ⟨0, by omega, rfl, hbr⟩
          case round =>
            clear hbr
            obtain ⟨u, hu, rfl, hbr⟩ := hrel
            obtain ⟨cS, cRow, cCpu, hbwr⟩ := KEEP.out wr hbr
            have hzr := hbr.size
            have hq1 : w2.heap.size < wr.heap.size := by omega
            have hq3 : w.heap.size < wr.heap.size := by omega
            by_cases hlt : u < n
            · have hux : u < xs.length := by rw [← HN.out]; exact hlt
              have cc := cCpu u hlt
              obtain ⟨c, hc⟩ : ∃ c, c = xs.getD u 0 := ⟨_, rfl⟩
              rw [← hc] at cc
              have hcm : c ∈ xs := by
                have e : xs.getD u 0 = xs[u] := by simp [List.getD, hux]
                rw [hc, e]; exact List.getElem_mem hux
              obtain ⟨hcb1, hcb2⟩ := HV.out c hcm
              have HH : Hid (hit R c R.length = true) := hit_all (FACT.out.2.2.1 c hcm)
              clear hc hcm cRow cCpu hux
              go_wp2
              go_loopg [13, 89] t (fun k b i wx => ∃ s : Nat, s + k = t ∧ i = .int .i64 s ∧ b = .bool (hit R c s) ∧ Below W0.heap.size W0 wx)
              case atStart => exact ⟨0, by omega, rfl, by rw [hit_zero], hbr⟩
              case round =>
                clear hbr cS hzr hq1 hq3 hbwr cc
                obtain ⟨s, hs, rfl, rfl, hbr⟩ := hrel
                obtain ⟨cS, cRow, cCpu, hbwr⟩ := KEEP.out wr hbr
                have hzr := hbr.size
                have hq2 : g < wr.heap.size := by omega
                by_cases hls : s < t
                · have hsR : s < R.length := by rw [← HM.out]; exact hls
                  have hsu := hit_succ (c := c) hsR
                  obtain ⟨f, hf⟩ : ∃ f, f = (R.getD s (0, 0)).1 := ⟨_, rfl⟩
                  obtain ⟨l, hl⟩ : ∃ l, l = (R.getD s (0, 0)).2 := ⟨_, rfl⟩
                  obtain ⟨cf, cl⟩ := cRow s hls
                  rw [← hf] at cf hsu
                  rw [← hl] at cl hsu
                  have HSU : Hid (hit R c (s + 1) = (hit R c s || (decide (f ≤ c) && decide (c ≤ l)))) := hsu
                  obtain ⟨h0, hh0⟩ : ∃ h0, h0 = hit R c s := ⟨_, rfl⟩
                  rw [← hh0] at HSU ⊢
                  clear hsu hf hl cRow cCpu hsR hh0 cS hbwr
                  by_cases h1 : f ≤ c
                  · by_cases h2 : c ≤ l
                    · go_wp2
                      go_roundg (t - (s + 1))
                      case rel => exact ⟨s + 1, by omega, by go_num, by rw [HSU.out]; simp [h1, h2], hbr.alloc hzr _⟩
                      case measure => omega
                    · go_wp2
                      go_roundg (t - (s + 1))
                      case rel => exact ⟨s + 1, by omega, by go_num, by rw [HSU.out]; simp [show ¬ c ≤ l by omega], hbr.alloc hzr _⟩
                      case measure => omega
                  · go_wp2
                    go_roundg (t - (s + 1))
                    case rel => exact ⟨s + 1, by omega, by go_num, by rw [HSU.out]; simp [show ¬ f ≤ c by omega], hbr.alloc hzr _⟩
                    case measure => omega
                · obtain rfl : s = t := by omega
                  rw [show hit R c s = true by rw [HM.out]; exact HH.out]
                  go_wp2
                  go_roundg (n - (u + 1))
                  case rel => exact ⟨u + 1, by omega, by go_num, hbr⟩
                  case measure => omega
            · obtain rfl : u = n := by omega
              go_wp2
              go_ret
              exact ⟨rfl, hbwr⟩
end Go.Proofs.Ybulkabna
