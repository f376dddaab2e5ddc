/-
  The law of the script: function 5.
-/
import Derived.Test.YbulkabnoKept
namespace Go.Proofs.Ybulkabno
open Go.RowKit Go.Shelf Go.Maps Go.WideMaps
set_option linter.unusedVariables false
set_option linter.unusedSimpArgs false

theorem key22 (per : Int) (h0 : 0 ≤ per) (h1 : per < 9223372036854775808) : keyOf Yba.prog 22 (.int .u64 per) = some (.int .u64 per) :=
  keyOf_int_mk Yba.underlying22 (by simp [Lit.wf, IntKind.min, IntKind.max, IntKind.signed, IntKind.bits]; omega)

/-- What the law reads out of a side's map. -/
theorem side_look {w : World} {per : Int} {base k : Nat} {m : Value} {r : Int} (h : Side w per base k m r) (h0 : 0 ≤ per) (h1 : per < 9223372036854775808) :
    (Instr.lookup 23 m (.int .u64 per) false).run Yba.prog w = .ok (.int .u64 r) w := by
  rcases h with ⟨rfl, rfl⟩ | ⟨_, B, t, rfl, hO, _, _⟩
  · have := Maps.look_nil (w := w) false law22 Yba.underlying23 (zero22 w) (key22 per h0 h1)
    simpa using this
  · obtain ⟨c, hrun, hat, _⟩ := World.ownsMap.lookup_int hO law22 Yba.underlying23 Yba.underlying22 (zero22 w) (key22 per h0 h1)
    rw [at_one hat]
    exact hrun

/-- What the law reckons at its end. -/
theorem sum_word (l per r s : Int) (k : Nat) (hk : k ≤ 1024) (l0 : 0 ≤ l) (p0 : 1 ≤ per) (r0 : 0 ≤ r) (e : l * per + r = s) (s1 : s ≤ k * 2199023255552) : IntKind.u64.wrap (l * per) = l * per ∧ IntKind.u64.wrap (l * per + r) = s ∧ 0 ≤ s := by
  have h0 : 0 ≤ l * per := Int.mul_nonneg l0 (by omega)
  rw [IntKind.wrap_u64, IntKind.wrap_u64]
  omega

/-- What a round reckons. -/
theorem round_word (n x s c : Int) (i : Nat) (hi : i ≤ 1024) (n0 : 0 ≤ n) (n1 : n < 1048576) (x0 : 0 ≤ x) (x1 : x < 2097152) (s0 : 0 ≤ s) (s1 : s ≤ i * 2199023255552) (c0 : 0 ≤ c) (c1 : c ≤ i * 1048576) :
    IntKind.i64.wrap x = x ∧ IntKind.u64.wrap x = x ∧ IntKind.u64.wrap n = n ∧ IntKind.u64.wrap (n * x) = n * x ∧ IntKind.u64.wrap (s + n * x) = s + n * x ∧ wrap64 (c + n) = c + n := by
  obtain ⟨P0, P1⟩ := prod_small n x n0 n1 x0 x1
  simp only [IntKind.wrap_u64, IntKind.wrap_i64, wrap64]
  omega

set_option maxRecDepth 100000 in
set_option maxHeartbeats 2000000 in
theorem law5_core (q : Int) (N R : Nat → Int) (len cap b off : Nat) (w : World) (hn : len ≤ 1024) (hb : b < w.heap.size)
    (hc : ∀ j, j < len → w.cell? ⟨b, off + j * 2, none⟩ = some (.int .i64 (N j)) ∧ w.cell? ⟨b, off + j * 2 + 1, none⟩ = some (.int .i64 (R j))) :
    Calls Yba.prog 5 #[.int .i64 q, .slice (some ⟨b, off, none⟩) len cap] w fun e w' => e = .returned (.bool true) ∧ Below w.heap.size w w' := by
  have HC : Hid (∀ j, j < len → w.cell? ⟨b, off + j * 2, none⟩ = some (.int .i64 (N j)) ∧ w.cell? ⟨b, off + j * 2 + 1, none⟩ = some (.int .i64 (R j))) := hc
  clear hc
  have h18 : decide ((1024 : Int) < (len : Int)) = false := by simp; omega
  go_enter Yba.func5, Yba.ntmps5
  go_wp2_with fail
  refine (map10 q 2097152 (by decide) (by decide) _).mono ?_
  rintro e w1 ⟨⟨y, ⟨y0, y1⟩, rfl⟩, hw⟩
  rw [hw]
  clear hw w1
  have hy : IntKind.i64.wrap (y - 1048576) = y - 1048576 := by rw [IntKind.wrap_i64]; omega
  obtain ⟨required, hreq⟩ : ∃ required, y - 1048576 = required := ⟨_, rfl⟩
  rw [hreq] at hy
  have k0 : -1048576 ≤ required := by omega
  have k1 : required < 1048576 := by omega
  clear y0 y1
  by_cases hp : 1 < required
  · have hwr : IntKind.u64.wrap required = required := by rw [IntKind.wrap_u64]; omega
    go_upto_region 11 with fail
    clear hy hreq
    go_loopg [8, 9, 10, 11, 12] len (fun k su so cu co iv wr => ∃ (sU sO cU cO : Int) (i : Nat), su = .int .u64 sU ∧ so = .int .u64 sO ∧ cu = .int .i64 cU ∧ co = .int .i64 cO ∧ iv = .int .i64 i ∧ i ≤ len ∧ k = len - i ∧ Kept w wr required i sU sO cU cO)
    case atStart => exact ⟨0, 0, 0, 0, 0, rfl, rfl, rfl, rfl, rfl, by omega, rfl, kept_new w required (by omega) _ rfl⟩
    case round =>
      obtain ⟨sU, sO, cU, cO, i, rfl, rfl, rfl, rfl, rfl, hi, rfl, HK⟩ := hrel
      have HK' : Hid (Kept w wr required i sU sO cU cO) := HK
      clear HK
      by_cases g : i < len
      · have hbr : b < wr.heap.size := Nat.lt_of_lt_of_le hb HK'.out.bel.size
        have c0 : wr.cell? ⟨b, off + i * 2, none⟩ = some (.int .i64 (N i)) := (HK'.out.bel.cell (p := ⟨b, off + i * 2, none⟩) hb).trans (HC.out i g).1
        have c1 : wr.cell? ⟨b, off + i * 2 + 1, none⟩ = some (.int .i64 (R i)) := (HK'.out.bel.cell (p := ⟨b, off + i * 2 + 1, none⟩) hb).trans (HC.out i g).2
        obtain ⟨x0, hx0⟩ : ∃ x0, N i = x0 := ⟨_, rfl⟩
        obtain ⟨x1, hx1⟩ : ∃ x1, R i = x1 := ⟨_, rfl⟩
        rw [hx0] at c0
        rw [hx1] at c1
        clear hx0 hx1
        go_wp2_with fail
        refine (map10 x0 1048576 (by decide) (by decide) _).mono ?_
        rintro e w1 ⟨⟨n, ⟨n0, n1⟩, rfl⟩, hw⟩
        rw [hw]
        clear hw w1
        go_wp2_with fail
        refine (map10 x1 2097152 (by decide) (by decide) _).mono ?_
        rintro e w1 ⟨⟨z, ⟨z0, z1⟩, rfl⟩, hw⟩
        rw [hw]
        clear hw w1
        have hz : IntKind.i64.wrap (z - 1048576) = z - 1048576 := by rw [IntKind.wrap_i64]; omega
        obtain ⟨ready, hrd⟩ : ∃ ready, z - 1048576 = ready := ⟨_, rfl⟩
        rw [hrd] at hz
        have j0 : -1048576 ≤ ready := by omega
        have j1 : ready < 1048576 := by omega
        clear z0 z1
        go_wp2_with fail
        clear hz hrd c0 c1
        by_cases hlt : ready < required
        · have HX := kept_under HK'.out (by omega) (by omega) k0 k1 j0 j1 hlt n0 n1
          obtain ⟨e1, e2, e3, e4, e5, e6⟩ := round_word n (required - ready) sU cU i (by omega) n0 n1 (by omega) (by omega) HK'.out.sums.1.1 HK'.out.sums.1.2 HK'.out.sums.2.2.1.1 HK'.out.sums.2.2.1.2
          obtain ⟨D, hD⟩ : ∃ D, required - ready = D := ⟨_, rfl⟩
          have f1 : IntKind.i64.wrap (required - ready) = D := e1.trans hD
          rw [hD] at HX e2 e4 e5
          obtain ⟨P, hP⟩ : ∃ P, n * D = P := ⟨_, rfl⟩
          have f4 : IntKind.u64.wrap (n * D) = P := e4.trans hP
          rw [hP] at HX e5
          obtain ⟨S', hS'⟩ : ∃ S', sU + P = S' := ⟨_, rfl⟩
          have f5 : IntKind.u64.wrap (sU + P) = S' := e5.trans hS'
          rw [hS'] at HX
          obtain ⟨C', hC'⟩ : ∃ C', cU + n = C' := ⟨_, rfl⟩
          have f6 : wrap64 (cU + n) = C' := e6.trans hC'
          rw [hC'] at HX
          clear hC' hS' hP hD e1 e4 e5 e6
          refine HX.mono ?_
          rintro e w1 ⟨rfl, hk⟩
          have HK2 : Hid (Kept w w1 required (i + 1) S' sO C' cO) := hk
          clear hk HX HK'
          go_wp2
          go_roundg (len - (i + 1))
          case rel => exact ⟨S', sO, C', cO, i + 1, rfl, rfl, by first | rfl | rw [f6], rfl, by go_num, by omega, rfl, HK2.out⟩
          case measure => omega
        · by_cases hgt : required < ready
          · have hlt := hgt
            have HX := kept_over HK'.out (by omega) (by omega) k0 k1 j0 j1 hlt n0 n1
            obtain ⟨e1, e2, e3, e4, e5, e6⟩ := round_word n (ready - required) sO cO i (by omega) n0 n1 (by omega) (by omega) HK'.out.sums.2.1.1 HK'.out.sums.2.1.2 HK'.out.sums.2.2.2.1 HK'.out.sums.2.2.2.2
            obtain ⟨D, hD⟩ : ∃ D, ready - required = D := ⟨_, rfl⟩
            have f1 : IntKind.i64.wrap (ready - required) = D := e1.trans hD
            rw [hD] at HX e2 e4 e5
            obtain ⟨P, hP⟩ : ∃ P, n * D = P := ⟨_, rfl⟩
            have f4 : IntKind.u64.wrap (n * D) = P := e4.trans hP
            rw [hP] at HX e5
            obtain ⟨S', hS'⟩ : ∃ S', sO + P = S' := ⟨_, rfl⟩
            have f5 : IntKind.u64.wrap (sO + P) = S' := e5.trans hS'
            rw [hS'] at HX
            obtain ⟨C', hC'⟩ : ∃ C', cO + n = C' := ⟨_, rfl⟩
            have f6 : wrap64 (cO + n) = C' := e6.trans hC'
            rw [hC'] at HX
            clear hC' hS' hP hD e1 e4 e5 e6
            refine HX.mono ?_
            rintro e w1 ⟨rfl, hk⟩
            have HK2 : Hid (Kept w w1 required (i + 1) sU S' cU C') := hk
            clear hk HX HK'
            go_wp2
            go_roundg (len - (i + 1))
            case rel => exact ⟨sU, S', cU, C', i + 1, rfl, rfl, rfl, by first | rfl | rw [f6], by go_num, by omega, rfl, HK2.out⟩
            case measure => omega
          · obtain rfl : required = ready := by omega
            refine (kept_same HK'.out).mono ?_
            rintro e w1 ⟨rfl, hk⟩
            have HK2 : Hid (Kept w w1 required (i + 1) sU sO cU cO) := hk
            clear hk HK'
            go_wp2
            go_roundg (len - (i + 1))
            case rel => exact ⟨sU, sO, cU, cO, i + 1, rfl, rfl, rfl, rfl, by go_num, by omega, rfl, HK2.out⟩
            case measure => omega
      · obtain rfl : i = len := by omega
        obtain ⟨bel, ⟨ul, um, ur, ol, om, orr, hT, hU, hO, hap, hur, hor, hul, hol, eU, eO⟩, s1, s2, s3, s4⟩ := HK'.out
        clear HK'
        have lkU := side_look hU (by omega) (by omega)
        have lkO := side_look hO (by omega) (by omega)
        obtain ⟨wU, wU', _⟩ := sum_word ul (required) ur sU i hn hul.1 (by omega) hur.1 eU s1.2
        obtain ⟨wO, wO', _⟩ := sum_word ol (required) orr sO i hn hol.1 (by omega) hor.1 eO s2.2
        have g0 : wr.cell? ⟨w.heap.size, 0, none⟩ = some (.int .u64 0) := by rw [cell_of_row _ _ _ _ _ _ hT]; rfl
        have g1 : wr.cell? ⟨w.heap.size, 1, none⟩ = some (.int .u64 ul) := by rw [cell_of_row _ _ _ _ _ _ hT]; rfl
        have g2 : wr.cell? ⟨w.heap.size, 2, none⟩ = some um := by rw [cell_of_row _ _ _ _ _ _ hT]; rfl
        have g3 : wr.cell? ⟨w.heap.size, 3, none⟩ = some (.int .u64 0) := by rw [cell_of_row _ _ _ _ _ _ hT]; rfl
        have g4 : wr.cell? ⟨w.heap.size, 4, none⟩ = some (.int .u64 ol) := by rw [cell_of_row _ _ _ _ _ _ hT]; rfl
        have g5 : wr.cell? ⟨w.heap.size, 5, none⟩ = some om := by rw [cell_of_row _ _ _ _ _ _ hT]; rfl
        have g6 : wr.cell? ⟨w.heap.size, 6, none⟩ = some (.int .i64 cU) := by rw [cell_of_row _ _ _ _ _ _ hT]; rfl
        have g7 : wr.cell? ⟨w.heap.size, 7, none⟩ = some (.int .i64 cO) := by rw [cell_of_row _ _ _ _ _ _ hT]; rfl
        have HB : Hid (Below w.heap.size w wr) := bel
        have nu : ¬ required ≤ ur := by omega
        have no : ¬ required ≤ orr := by omega
        obtain ⟨A, hA⟩ : ∃ A, ul * required = A := ⟨_, rfl⟩; obtain ⟨B, hB⟩ : ∃ B, ol * required = B := ⟨_, rfl⟩; rw [hA] at wU'; rw [hB] at wO'; have vU : IntKind.u64.wrap (ul * required) = A := wU.trans hA; have vO : IntKind.u64.wrap (ol * required) = B := wO.trans hB; clear hwr hA hB wU wO
        clear bel hT hU hO hap hur hor hul hol eU eO s1 s2 s3 s4
        go_wp2
        go_ret
        exact ⟨rfl, HB.out⟩
  · go_upto_region 11 with fail
    clear hy hreq
    go_loopg [8, 9, 10, 11, 12] len (fun k su so cu co iv wr => ∃ (sU sO cU cO : Int) (i : Nat), su = .int .u64 sU ∧ so = .int .u64 sO ∧ cu = .int .i64 cU ∧ co = .int .i64 cO ∧ iv = .int .i64 i ∧ i ≤ len ∧ k = len - i ∧ Kept w wr 1 i sU sO cU cO)
    case atStart => exact ⟨0, 0, 0, 0, 0, rfl, rfl, rfl, rfl, rfl, by omega, rfl, kept_new w 1 (by omega) _ rfl⟩
    case round =>
      obtain ⟨sU, sO, cU, cO, i, rfl, rfl, rfl, rfl, rfl, hi, rfl, HK⟩ := hrel
      have HK' : Hid (Kept w wr 1 i sU sO cU cO) := HK
      clear HK
      by_cases g : i < len
      · have hbr : b < wr.heap.size := Nat.lt_of_lt_of_le hb HK'.out.bel.size
        have c0 : wr.cell? ⟨b, off + i * 2, none⟩ = some (.int .i64 (N i)) := (HK'.out.bel.cell (p := ⟨b, off + i * 2, none⟩) hb).trans (HC.out i g).1
        have c1 : wr.cell? ⟨b, off + i * 2 + 1, none⟩ = some (.int .i64 (R i)) := (HK'.out.bel.cell (p := ⟨b, off + i * 2 + 1, none⟩) hb).trans (HC.out i g).2
        obtain ⟨x0, hx0⟩ : ∃ x0, N i = x0 := ⟨_, rfl⟩
        obtain ⟨x1, hx1⟩ : ∃ x1, R i = x1 := ⟨_, rfl⟩
        rw [hx0] at c0
        rw [hx1] at c1
        clear hx0 hx1
        go_wp2_with fail
        refine (map10 x0 1048576 (by decide) (by decide) _).mono ?_
        rintro e w1 ⟨⟨n, ⟨n0, n1⟩, rfl⟩, hw⟩
        rw [hw]
        clear hw w1
        go_wp2_with fail
        refine (map10 x1 2097152 (by decide) (by decide) _).mono ?_
        rintro e w1 ⟨⟨z, ⟨z0, z1⟩, rfl⟩, hw⟩
        rw [hw]
        clear hw w1
        have hz : IntKind.i64.wrap (z - 1048576) = z - 1048576 := by rw [IntKind.wrap_i64]; omega
        obtain ⟨ready, hrd⟩ : ∃ ready, z - 1048576 = ready := ⟨_, rfl⟩
        rw [hrd] at hz
        have j0 : -1048576 ≤ ready := by omega
        have j1 : ready < 1048576 := by omega
        clear z0 z1
        go_wp2_with fail
        clear hz hrd c0 c1
        by_cases hlt : ready < required
        · have HX := kept_under HK'.out (by omega) (by omega) k0 k1 j0 j1 hlt n0 n1
          obtain ⟨e1, e2, e3, e4, e5, e6⟩ := round_word n (required - ready) sU cU i (by omega) n0 n1 (by omega) (by omega) HK'.out.sums.1.1 HK'.out.sums.1.2 HK'.out.sums.2.2.1.1 HK'.out.sums.2.2.1.2
          obtain ⟨D, hD⟩ : ∃ D, required - ready = D := ⟨_, rfl⟩
          have f1 : IntKind.i64.wrap (required - ready) = D := e1.trans hD
          rw [hD] at HX e2 e4 e5
          obtain ⟨P, hP⟩ : ∃ P, n * D = P := ⟨_, rfl⟩
          have f4 : IntKind.u64.wrap (n * D) = P := e4.trans hP
          rw [hP] at HX e5
          obtain ⟨S', hS'⟩ : ∃ S', sU + P = S' := ⟨_, rfl⟩
          have f5 : IntKind.u64.wrap (sU + P) = S' := e5.trans hS'
          rw [hS'] at HX
          obtain ⟨C', hC'⟩ : ∃ C', cU + n = C' := ⟨_, rfl⟩
          have f6 : wrap64 (cU + n) = C' := e6.trans hC'
          rw [hC'] at HX
          clear hC' hS' hP hD e1 e4 e5 e6
          refine HX.mono ?_
          rintro e w1 ⟨rfl, hk⟩
          have HK2 : Hid (Kept w w1 1 (i + 1) S' sO C' cO) := hk
          clear hk HX HK'
          go_wp2
          go_roundg (len - (i + 1))
          case rel => exact ⟨S', sO, C', cO, i + 1, rfl, rfl, by first | rfl | rw [f6], rfl, by go_num, by omega, rfl, HK2.out⟩
          case measure => omega
        · by_cases hgt : required < ready
          · have hlt := hgt
            have HX := kept_over HK'.out (by omega) (by omega) k0 k1 j0 j1 hlt n0 n1
            obtain ⟨e1, e2, e3, e4, e5, e6⟩ := round_word n (ready - required) sO cO i (by omega) n0 n1 (by omega) (by omega) HK'.out.sums.2.1.1 HK'.out.sums.2.1.2 HK'.out.sums.2.2.2.1 HK'.out.sums.2.2.2.2
            obtain ⟨D, hD⟩ : ∃ D, ready - required = D := ⟨_, rfl⟩
            have f1 : IntKind.i64.wrap (ready - required) = D := e1.trans hD
            rw [hD] at HX e2 e4 e5
            obtain ⟨P, hP⟩ : ∃ P, n * D = P := ⟨_, rfl⟩
            have f4 : IntKind.u64.wrap (n * D) = P := e4.trans hP
            rw [hP] at HX e5
            obtain ⟨S', hS'⟩ : ∃ S', sO + P = S' := ⟨_, rfl⟩
            have f5 : IntKind.u64.wrap (sO + P) = S' := e5.trans hS'
            rw [hS'] at HX
            obtain ⟨C', hC'⟩ : ∃ C', cO + n = C' := ⟨_, rfl⟩
            have f6 : wrap64 (cO + n) = C' := e6.trans hC'
            rw [hC'] at HX
            clear hC' hS' hP hD e1 e4 e5 e6
            refine HX.mono ?_
            rintro e w1 ⟨rfl, hk⟩
            have HK2 : Hid (Kept w w1 1 (i + 1) sU S' cU C') := hk
            clear hk HX HK'
            go_wp2
            go_roundg (len - (i + 1))
            case rel => exact ⟨sU, S', cU, C', i + 1, rfl, rfl, rfl, by first | rfl | rw [f6], by go_num, by omega, rfl, HK2.out⟩
            case measure => omega
          · obtain rfl : required = ready := by omega
            refine (kept_same HK'.out).mono ?_
            rintro e w1 ⟨rfl, hk⟩
            have HK2 : Hid (Kept w w1 1 (i + 1) sU sO cU cO) := hk
            clear hk HK'
            go_wp2
            go_roundg (len - (i + 1))
            case rel => exact ⟨sU, sO, cU, cO, i + 1, rfl, rfl, rfl, rfl, by go_num, by omega, rfl, HK2.out⟩
            case measure => omega
      · obtain rfl : i = len := by omega
        obtain ⟨bel, ⟨ul, um, ur, ol, om, orr, hT, hU, hO, hap, hur, hor, hul, hol, eU, eO⟩, s1, s2, s3, s4⟩ := HK'.out
        clear HK'
        have lkU := side_look hU (by omega) (by omega)
        have lkO := side_look hO (by omega) (by omega)
        obtain ⟨wU, wU', _⟩ := sum_word ul (1) ur sU i hn hul.1 (by omega) hur.1 eU s1.2
        obtain ⟨wO, wO', _⟩ := sum_word ol (1) orr sO i hn hol.1 (by omega) hor.1 eO s2.2
        have g0 : wr.cell? ⟨w.heap.size, 0, none⟩ = some (.int .u64 0) := by rw [cell_of_row _ _ _ _ _ _ hT]; rfl
        have g1 : wr.cell? ⟨w.heap.size, 1, none⟩ = some (.int .u64 ul) := by rw [cell_of_row _ _ _ _ _ _ hT]; rfl
        have g2 : wr.cell? ⟨w.heap.size, 2, none⟩ = some um := by rw [cell_of_row _ _ _ _ _ _ hT]; rfl
        have g3 : wr.cell? ⟨w.heap.size, 3, none⟩ = some (.int .u64 0) := by rw [cell_of_row _ _ _ _ _ _ hT]; rfl
        have g4 : wr.cell? ⟨w.heap.size, 4, none⟩ = some (.int .u64 ol) := by rw [cell_of_row _ _ _ _ _ _ hT]; rfl
        have g5 : wr.cell? ⟨w.heap.size, 5, none⟩ = some om := by rw [cell_of_row _ _ _ _ _ _ hT]; rfl
        have g6 : wr.cell? ⟨w.heap.size, 6, none⟩ = some (.int .i64 cU) := by rw [cell_of_row _ _ _ _ _ _ hT]; rfl
        have g7 : wr.cell? ⟨w.heap.size, 7, none⟩ = some (.int .i64 cO) := by rw [cell_of_row _ _ _ _ _ _ hT]; rfl
        have HB : Hid (Below w.heap.size w wr) := bel
        have nu : ¬ 1 ≤ ur := by omega
        have no : ¬ 1 ≤ orr := by omega
        rw [Int.mul_one] at wU wU' wO wO'
        clear bel hT hU hO hap hur hor hul hol eU eO s1 s2 s3 s4
        go_wp2
        go_ret
        exact ⟨rfl, HB.out⟩

set_option maxRecDepth 100000 in
theorem law5_big (q : Int) (a0 : Option Addr) (len cap : Nat) (w : World) (hn : 1024 < len) (hm : len ≤ maxLen) :
    Calls Yba.prog 5 #[.int .i64 q, .slice a0 len cap] w fun e w' => e = .returned (.bool true) ∧ Below w.heap.size w w' := by
  have h18 : decide ((1024 : Int) < (len : Int)) = true := by simp; omega
  go_enter Yba.func5, Yba.ntmps5
  go_wp2
  go_ret
  exact ⟨rfl, Below.refl _ _⟩

set_option maxRecDepth 100000 in
set_option maxHeartbeats 2000000 in
theorem law5_zero (q : Int) (a0 : Option Addr) (cap : Nat) (w : World) :
    Calls Yba.prog 5 #[.int .i64 q, .slice a0 0 cap] w fun e w' => e = .returned (.bool true) ∧ Below w.heap.size w w' := by
  go_enter Yba.func5, Yba.ntmps5
  go_wp2_with fail
  refine (map10 q 2097152 (by decide) (by decide) _).mono ?_
  rintro e w1 ⟨⟨y, ⟨y0, y1⟩, rfl⟩, hw⟩
  rw [hw]
  clear hw w1
  have hy : IntKind.i64.wrap (y - 1048576) = y - 1048576 := by rw [IntKind.wrap_i64]; omega
  obtain ⟨required, hreq⟩ : ∃ required, y - 1048576 = required := ⟨_, rfl⟩
  rw [hreq] at hy
  have k0 : -1048576 ≤ required := by omega
  have k1 : required < 1048576 := by omega
  clear y0 y1
  by_cases hp : 1 < required
  · have hwr : IntKind.u64.wrap required = required := by rw [IntKind.wrap_u64]; omega
    go_upto_region 11 with fail
    clear hy hreq
    go_loopg [8, 9, 10, 11, 12] 0 (fun k su so cu co iv wr => ∃ (sU sO cU cO : Int) (i : Nat), su = .int .u64 sU ∧ so = .int .u64 sO ∧ cu = .int .i64 cU ∧ co = .int .i64 cO ∧ iv = .int .i64 i ∧ i ≤ 0 ∧ k = 0 - i ∧ Kept w wr required i sU sO cU cO)
    case atStart => exact ⟨0, 0, 0, 0, 0, rfl, rfl, rfl, rfl, rfl, by omega, rfl, kept_new w required (by omega) _ rfl⟩
    case round =>
      obtain ⟨sU, sO, cU, cO, i, rfl, rfl, rfl, rfl, rfl, hi, rfl, HK⟩ := hrel
      have HK' : Hid (Kept w wr required i sU sO cU cO) := HK
      clear HK
      obtain rfl : i = 0 := by omega
      obtain ⟨bel, ⟨ul, um, ur, ol, om, orr, hT, hU, hO, hap, hur, hor, hul, hol, eU, eO⟩, s1, s2, s3, s4⟩ := HK'.out
      clear HK'
      have lkU := side_look hU (by omega) (by omega)
      have lkO := side_look hO (by omega) (by omega)
      obtain ⟨wU, wU', _⟩ := sum_word ul (required) ur sU 0 (by omega) hul.1 (by omega) hur.1 eU s1.2
      obtain ⟨wO, wO', _⟩ := sum_word ol (required) orr sO 0 (by omega) hol.1 (by omega) hor.1 eO s2.2
      have g0 : wr.cell? ⟨w.heap.size, 0, none⟩ = some (.int .u64 0) := by rw [cell_of_row _ _ _ _ _ _ hT]; rfl
      have g1 : wr.cell? ⟨w.heap.size, 1, none⟩ = some (.int .u64 ul) := by rw [cell_of_row _ _ _ _ _ _ hT]; rfl
      have g2 : wr.cell? ⟨w.heap.size, 2, none⟩ = some um := by rw [cell_of_row _ _ _ _ _ _ hT]; rfl
      have g3 : wr.cell? ⟨w.heap.size, 3, none⟩ = some (.int .u64 0) := by rw [cell_of_row _ _ _ _ _ _ hT]; rfl
      have g4 : wr.cell? ⟨w.heap.size, 4, none⟩ = some (.int .u64 ol) := by rw [cell_of_row _ _ _ _ _ _ hT]; rfl
      have g5 : wr.cell? ⟨w.heap.size, 5, none⟩ = some om := by rw [cell_of_row _ _ _ _ _ _ hT]; rfl
      have g6 : wr.cell? ⟨w.heap.size, 6, none⟩ = some (.int .i64 cU) := by rw [cell_of_row _ _ _ _ _ _ hT]; rfl
      have g7 : wr.cell? ⟨w.heap.size, 7, none⟩ = some (.int .i64 cO) := by rw [cell_of_row _ _ _ _ _ _ hT]; rfl
      have HB : Hid (Below w.heap.size w wr) := bel
      have nu : ¬ required ≤ ur := by omega
      have no : ¬ required ≤ orr := by omega
      obtain ⟨A, hA⟩ : ∃ A, ul * required = A := ⟨_, rfl⟩; obtain ⟨B, hB⟩ : ∃ B, ol * required = B := ⟨_, rfl⟩; rw [hA] at wU'; rw [hB] at wO'; have vU : IntKind.u64.wrap (ul * required) = A := wU.trans hA; have vO : IntKind.u64.wrap (ol * required) = B := wO.trans hB; clear hwr hA hB wU wO
      try clear bel hT hU hO hap hur hor hul hol eU eO s1 s2 s3 s4
      go_wp2
      go_ret
      exact ⟨rfl, HB.out⟩
  · go_upto_region 11 with fail
    clear hy hreq
    go_loopg [8, 9, 10, 11, 12] 0 (fun k su so cu co iv wr => ∃ (sU sO cU cO : Int) (i : Nat), su = .int .u64 sU ∧ so = .int .u64 sO ∧ cu = .int .i64 cU ∧ co = .int .i64 cO ∧ iv = .int .i64 i ∧ i ≤ 0 ∧ k = 0 - i ∧ Kept w wr 1 i sU sO cU cO)
    case atStart => exact ⟨0, 0, 0, 0, 0, rfl, rfl, rfl, rfl, rfl, by omega, rfl, kept_new w 1 (by omega) _ rfl⟩
    case round =>
      obtain ⟨sU, sO, cU, cO, i, rfl, rfl, rfl, rfl, rfl, hi, rfl, HK⟩ := hrel
      have HK' : Hid (Kept w wr 1 i sU sO cU cO) := HK
      clear HK
      obtain rfl : i = 0 := by omega
      obtain ⟨bel, ⟨ul, um, ur, ol, om, orr, hT, hU, hO, hap, hur, hor, hul, hol, eU, eO⟩, s1, s2, s3, s4⟩ := HK'.out
      clear HK'
      have lkU := side_look hU (by omega) (by omega)
      have lkO := side_look hO (by omega) (by omega)
      obtain ⟨wU, wU', _⟩ := sum_word ul (1) ur sU 0 (by omega) hul.1 (by omega) hur.1 eU s1.2
      obtain ⟨wO, wO', _⟩ := sum_word ol (1) orr sO 0 (by omega) hol.1 (by omega) hor.1 eO s2.2
      have g0 : wr.cell? ⟨w.heap.size, 0, none⟩ = some (.int .u64 0) := by rw [cell_of_row _ _ _ _ _ _ hT]; rfl
      have g1 : wr.cell? ⟨w.heap.size, 1, none⟩ = some (.int .u64 ul) := by rw [cell_of_row _ _ _ _ _ _ hT]; rfl
      have g2 : wr.cell? ⟨w.heap.size, 2, none⟩ = some um := by rw [cell_of_row _ _ _ _ _ _ hT]; rfl
      have g3 : wr.cell? ⟨w.heap.size, 3, none⟩ = some (.int .u64 0) := by rw [cell_of_row _ _ _ _ _ _ hT]; rfl
      have g4 : wr.cell? ⟨w.heap.size, 4, none⟩ = some (.int .u64 ol) := by rw [cell_of_row _ _ _ _ _ _ hT]; rfl
      have g5 : wr.cell? ⟨w.heap.size, 5, none⟩ = some om := by rw [cell_of_row _ _ _ _ _ _ hT]; rfl
      have g6 : wr.cell? ⟨w.heap.size, 6, none⟩ = some (.int .i64 cU) := by rw [cell_of_row _ _ _ _ _ _ hT]; rfl
      have g7 : wr.cell? ⟨w.heap.size, 7, none⟩ = some (.int .i64 cO) := by rw [cell_of_row _ _ _ _ _ _ hT]; rfl
      have HB : Hid (Below w.heap.size w wr) := bel
      have nu : ¬ 1 ≤ ur := by omega
      have no : ¬ 1 ≤ orr := by omega
      rw [Int.mul_one] at wU wU' wO wO'
      try clear bel hT hU hO hap hur hor hul hol eU eO s1 s2 s3 s4
      go_wp2
      go_ret
      exact ⟨rfl, HB.out⟩
end Go.Proofs.Ybulkabno
