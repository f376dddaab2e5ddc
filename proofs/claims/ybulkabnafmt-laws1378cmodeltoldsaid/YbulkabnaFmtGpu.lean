/-
  gpuDemand computes 'modelDm', whatever the ten inputs.
-/
import Derived.Test.YbulkabnaFmtGpuLaw
namespace Go.Proofs.YbulkabnaFmt
open Go.RowKit Go.Maps Go.WideMaps
set_option linter.unusedSimpArgs false
set_option linter.unusedVariables false

set_option maxRecDepth 100000 in
set_option maxHeartbeats 16000000 in
theorem gpu6 (q : In) (hq : q.Wf) (B fb fo fc : Nat) (w : World) (hdev : Dev w B q) (h0 : 0 < w.heap.size) (hfb : fb < w.heap.size) (hB : B < w.heap.size)
    (hg : w.cell? ⟨0, 0, none⟩ = some (.slice (some ⟨fb, fo, none⟩) 5 fc)) (hf : ∀ k, k < 5 → w.cell? ⟨fb, fo + k, none⟩ = some (.string (fm k)))
    (G : Dm × Bool) (HG : Hid (modelDm q = G)) :
    Calls Ybaf.prog 6 #[.agg (vR B)] w fun e w' => ∃ er, e = .returned (.tuple #[agg7 G.1, er]) ∧ ErrIs G.2 er ∧ Below w.heap.size w w' := by
  obtain ⟨i0, hi, hz0, hz1, hz2⟩ := info_parts info42
  have hst := Base.start hdev hB hfb hf
  clear hdev hf
  go_enter Ybaf.func6, Ybaf.ntmps6
  go_wp2
  go_loopw [4, 28] (fun v i wr => ∃ k : Nat, k ≤ 5 ∧ i = .int .i64 k ∧ wr.ownsRow (w.heap.size + 2) 42 1 v (sel q k).length ((sel q k).map fun x => Value.string (fm x)) ∧ Base w B fb fo q wr)
    (fun _ i _ => 5 - (intOf i).toNat)
  case atStart => exact ⟨0, by omega, rfl, World.ownsRow_nil _ _ _ _, hst⟩
  case round =>
    obtain ⟨k, hk, rfl, hown, hb⟩ := hrel
    clear hst
    have hsz := hb.size
    by_cases hlt : k < 5
    · have hcf := hb.forms k hlt
      have hr6 := hb.r6
      have hl := (hb.dev.at_ k).1
      have hsl := sel_len q k
      by_cases hp : pres q k = true
      · rw [hp] at hl
        go_wp2_with (first
          | (at_builtin; refine wpList_append_own _ rfl _ _ 41 rfl (w.heap.size + 2) 42 i0 (.string ⟨#[]⟩) 1 16 Ybaf.underlying41 hi hz0 hz1 hz2 rfl (by decide) _ _ _ rfl (hown.alloc _) ⟨wr.heap.size, 0, none⟩ 1 1 [.string (fm k)] rfl rfl (cell_one_new _ _ _) ?c2 ?c3 ?c4 ?c5 ?_))
        case c2 => intro u hu; simp at hu; subst hu; rfl
        case c3 => unfold maxLen; omega
        case c4 => omega
        case c5 => simp; omega
        intro v' w1 hown' hgrow _
        have hbel : Below (w.heap.size + 2) wr w1 := ((Below.refl _ _).alloc hsz _).grown hgrow (by simp; omega) (fun j hj => (hown.lt j hj).1)
        have hb1 := hb.keep hB hfb hbel
        rw [← sel_own_t hp] at hown'
        go_wp2
        go_roundw
        case rel => exact ⟨k + 1, by omega, by go_num, by rw [show (sel q (k + 1)).length = (sel q k).length + 1 from by rw [sel_t q k hp]; simp]; exact hown', hb1⟩
        case measure => simp [intOf]; omega
      · have hp' : pres q k = false := by simpa using hp
        rw [hp'] at hl
        go_wp2
        go_roundw
        case rel => exact ⟨k + 1, by omega, by go_num, by rw [sel_f q k hp']; exact hown, hb⟩
        case measure => simp [intOf]; omega
    · obtain rfl : k = 5 := by omega
      clear hlt hk
      rename World => W1
      obtain ⟨L, hL⟩ : ∃ L, L = sel q 5 := ⟨_, rfl⟩
      rw [← hL] at hown
      have hlen : L.length ≤ 5 := by rw [hL]; exact sel_len q 5
      have hmem : ∀ j, j < L.length → L.getD j 0 < 5 := fun j hj => by rw [hL] at hj ⊢; exact sel_lt q 5 hj
      have HL : Hid (L = sel q 5) := hL
      clear hL
      have hbw : Below w.heap.size w W1 := hb.bw
      have hs0 : w.heap.size + 1 < W1.heap.size := by omega
      have hs1 : w.heap.size + 1 < W1.heap.size + 1 := by omega
      have hs2 : w.heap.size + 1 < W1.heap.size + 1 + 1 := by omega
      have hr0 : w.heap.size < W1.heap.size := by omega
      obtain ⟨e0, e1, e2, e3, e4, e5, e6⟩ := hb.res
      obtain ⟨f0, f1, f2, f3, f4, f5, f6⟩ := hb.unf
      clear hi hz0 hz1 hz2 hg h0 i0
      have HC : Hid (∀ j, j < L.length → L.getD j 0 < 5) := hmem
      clear hmem
      rcases row_shape hown with ⟨hv, hnil⟩ | ⟨g, cap, hv, hg1, hg2, hcap, hcell⟩
      · have hG : G = (zeroDm, true) := by rw [← HG.out]; exact model_none HL.out (by rw [hnil]; rfl)
        rw [hv]
        clear hv hown HG HL HC
        subst hG
        subst hnil
        go_wp2
        refine wp_loop_rounds 1 ?_
        rw [rounds_succ]
        go_wp2
        refine bodyPost_ret (v := .tuple #[agg7 zeroDm, .nilIface]) ?_ rfl ⟨_, rfl, .inl ⟨rfl, rfl⟩, ?_⟩
        · simp [results, Ybaf.results6, go_sem, zeroDm, e0, e1, e2, e3, e4, e5, e6, hs0, hs1, hs2]
        · exact bel_set7 hbw (Nat.le_succ _) _ _ _ _ _ _ _
      · rw [hv]
        clear hv hown
        have HX : Hid (∀ j, j < L.length → W1.cell? ⟨g, j, none⟩ = some (.string (fm (L.getD j 0)))) := hcell
        clear hcell
        go_wp2
        go_loopg [47] (L.length) (fun k i wx => W1 = wx ∧ ∃ a : Nat, a + k = L.length ∧ i = .int .i64 a ∧ Good L a)
        case atStart => exact ⟨rfl, 0, by omega, rfl, fun x hx => absurd hx (by omega)⟩
        case round =>
          obtain ⟨rfl, a, ha, rfl, hgood⟩ := hrel
          have ha' := ha
          have ha : a ≤ L.length := by omega
          by_cases hlt : a < L.length
          · obtain ⟨x, hx⟩ : ∃ x, x = L.getD a 0 := ⟨_, rfl⟩
            have hca := HX.out a hlt
            have hx5 := HC.out a hlt
            rw [← hx] at hca hx5
            have HXE : Hid (x = L.getD a 0) := hx
            clear hx
            by_cases hin : a + 1 < L.length
            · have hcc : a + 1 < cap := by omega
              go_wp2
              go_loopg [57] (L.length) (fun m j wx => W1 = wx ∧ ∃ b : Nat, b + m = L.length ∧ a + 1 + b ≤ L.length ∧ j = .int .i64 b ∧ Good1 L a (a + 1 + b))
              case atStart => exact ⟨rfl, 0, by omega, by omega, rfl, fun y h1 h2 => absurd h1 (by omega)⟩
              case round =>
                obtain ⟨rfl, b, hbn, hbl, rfl, hg1'⟩ := hrel
                by_cases hlb : a + 1 + b < L.length
                · obtain ⟨y, hy⟩ : ∃ y, y = L.getD (a + 1 + b) 0 := ⟨_, rfl⟩
                  have hcb := HX.out (a + 1 + b) hlb
                  have hy5 := HC.out (a + 1 + b) hlb
                  rw [← hy] at hcb hy5
                  have HYE : Hid (y = L.getD (a + 1 + b) 0) := hy
                  clear hy
                  have t1 := fm_core x hx5
                  have t2 := fm_ratio y hy5
                  have t3 := fm_mem y hy5
                  by_cases hok : okp x y = true
                  · go_upto_region 15 with fail
                    go_cut [70] (fun s wx => W1 = wx ∧ s = .bool false)
                    case first =>
                      have hx1 : (x == 1) = true := by simp [okp] at hok ⊢; exact hok.1
                      have hy23 : (y == 2) = true ∨ ((y == 2) = false ∧ (y == 3) = true) := by simp [okp] at hok ⊢; omega
                      clear HG HL HX HC HXE HYE hgood hg1' hb e0 e1 e2 e3 e4 e5 e6 f0 f1 f2 f3 f4 f5 f6 hbw hok
                      rw [hx1] at t1
                      clear hx1
                      rcases hy23 with h | ⟨h, h'⟩
                      · rw [h] at t2
                        clear h t3
                        go_wp2
                        go_meet
                        case rel => exact ⟨rfl, rfl⟩
                      · rw [h] at t2
                        rw [h'] at t3
                        clear h h'
                        go_wp2
                        go_meet
                        case rel => exact ⟨rfl, rfl⟩
                    case rest =>
                    obtain ⟨rfl, rfl⟩ := hcut
                    clear t1 t2 t3
                    go_wp2
                    go_roundg (L.length - (b + 1))
                    case rel => exact ⟨rfl, b + 1, by omega, by omega, by go_num, hg1'.step (by rw [← HXE.out, ← HYE.out]; exact hok)⟩
                    case measure => omega
                  · go_upto_region 15 with fail
                    go_cut [70] (fun s wx => W1 = wx ∧ s = .bool true)
                    case first =>
                      have hxy : (x == 1) = false ∨ ((x == 1) = true ∧ (y == 2) = false ∧ (y == 3) = false) := by simp [okp] at hok ⊢; omega
                      clear HG HL HX HC HXE HYE hgood hg1' hb e0 e1 e2 e3 e4 e5 e6 f0 f1 f2 f3 f4 f5 f6 hbw hok
                      rcases hxy with h | ⟨h, h', h''⟩
                      · rw [h] at t1
                        clear h t2 t3
                        go_wp2
                        go_meet
                        case rel => exact ⟨rfl, rfl⟩
                      · rw [h] at t1
                        rw [h'] at t2
                        rw [h''] at t3
                        clear h h' h''
                        go_wp2
                        go_meet
                        case rel => exact ⟨rfl, rfl⟩
                    case rest =>
                    obtain ⟨rfl, rfl⟩ := hcut
                    clear t1 t2 t3
                    have hbad : G = (zeroDm, false) := by
                      rw [← HG.out]; exact model_bad (bad_of HL.out (a := a) (y := a + 1 + b) (by omega) hlb (by rw [← HXE.out, ← HYE.out]; exact hok))
                    clear HG hok
                    subst hbad
                    clear HL HX HC HXE HYE hgood hg1'
                    go_wp2_with (go_at_call 9; refine (errorfA (fm x) (fm y) _ _ ?_ ?_).mono ?_; rotate_right; rintro e w' ⟨s, rfl, rfl⟩)
                    · refine bodyPost_ret (v := .tuple #[agg7 zeroDm, .iface 52 (.pointer (some ⟨W1.heap.size + 1, 0, none⟩))]) ?_ rfl ⟨_, rfl, .inr ⟨rfl, _, rfl⟩, ?_⟩
                      · simp [results, Ybaf.results6, go_sem, zeroDm, e0, e1, e2, e3, e4, e5, e6, hs0, hs1, hs2]
                      · exact (((bel_set7 hbw (Nat.le_succ _) _ _ _ _ _ _ _).al _).al _).drew
                    all_goals (simp; done)
                · obtain hbe : a + 1 + b = L.length := by omega
                  have hgs := hgood.step (hbe ▸ hg1')
                  clear hbe
                  go_wp2
                  go_roundg (L.length - (a + 1))
                  case rel => exact ⟨rfl, a + 1, by omega, by go_num, hgs⟩
                  case measure => omega
            · have hgs := hgood.step (fun y h1 h2 => absurd h1 (by omega))
              by_cases hcc : cap = a + 1
              · subst hcc
                go_wp2
                refine wp_loop_rounds 1 ?_
                rw [rounds_succ]
                go_wp2
                go_roundg (L.length - (a + 1))
                case rel => exact ⟨rfl, a + 1, by omega, by go_num, hgs⟩
                case measure => omega
              · have hcc' : a + 1 < cap := by omega
                clear hcc
                go_wp2
                refine wp_loop_rounds 1 ?_
                rw [rounds_succ]
                go_wp2
                go_roundg (L.length - (a + 1))
                case rel => exact ⟨rfl, a + 1, by omega, by go_num, hgs⟩
                case measure => omega
          · obtain rfl : a = L.length := by omega
            have hnb := notbad_of HL.out hgood
            by_cases hn0 : L.length = 0
            · have hG : G = (zeroDm, true) := by rw [← HG.out]; exact model_none HL.out hn0
              clear HG HL HC HX hgood hnb
              subst hG
              go_wp2
              refine bodyPost_ret (v := .tuple #[agg7 zeroDm, .nilIface]) ?_ rfl ⟨_, rfl, .inl ⟨rfl, rfl⟩, ?_⟩
              · simp [results, Ybaf.results6, go_sem, zeroDm, e0, e1, e2, e3, e4, e5, e6, hs0, hs1, hs2]
              · exact bel_set7 hbw (Nat.le_succ _) _ _ _ _ _ _ _
            have hc0 := HX.out 0 (by omega)
            have hx5 := HC.out 0 (by omega)
            have hcs := head_cases HL.out hnb hn0
            have hn0' : ((L.length : Int) == 0) = false := by rw [beq_eq_false_iff_ne]; omega
            have hpos : (0 : Int) < (L.length : Int) := by omega
            obtain ⟨x, hx⟩ : ∃ x, x = L.getD 0 0 := ⟨_, rfl⟩
            rw [← hx] at hc0 hx5 hcs
            clear HL HC HX hgood hnb hx ha' ha hlt
            clear ha
            have t4 := fm_whole x hx5
            have t0 := fm_gpu x hx5
            rcases hcs with ⟨rfl, hm⟩ | ⟨rfl, hm⟩ | ⟨hx3, hm⟩
            · obtain rfl : (wholeDm (valOf q 4), true) = G := by rw [← HG.out]; exact hm.symm
              clear HG hm
              clear t0
              rw [show ((4 : Nat) == 4) = true from rfl] at t4
              go_wp2_with fail
              refine (amount10 hb.r6 (hb.dev.at_ 4).2).mono ?_
              rintro e w' ⟨rfl, rfl⟩
              go_wp2_with fail
              refine (whole11 _ _).mono ?_
              rintro e w' ⟨rfl, c, c', rfl⟩
              go_wp2
              refine bodyPost_ret (v := .tuple #[agg7 (wholeDm (valOf q 4)), .nilIface]) ?_ rfl ⟨_, rfl, .inl ⟨rfl, rfl⟩, ?_⟩
              · simp [results, Ybaf.results6, go_sem, wholeDm, gpuB, e0, e1, e2, e3, e4, e5, e6, hs0, hs1, hs2]
              · exact ((bel_set7 hbw (Nat.le_succ _) _ _ _ _ _ _ _).al _).al _
            · obtain ⟨bl, bh⟩ := valOf_bd hq 0
              obtain ⟨d, ok, hsh⟩ : ∃ d ok, share (valOf q 0) = (d, ok) := ⟨_, _, rfl⟩
              obtain ⟨k, c, wh, u, r, m, bm⟩ := d
              have hS : Shared (valOf q 0) (.agg #[.string k, .int .i64 c, .bool wh, .int .i64 u, .int .i64 r, .int .i64 m, .bool bm]) ok := by unfold Shared; rw [hsh]; exact ⟨rfl, rfl⟩
              have hG : G = gpuDm (⟨k, c, wh, u, r, m, bm⟩, ok) := by rw [← HG.out, hm, hsh]
              have HZ : Hid (ok = false → (⟨k, c, wh, u, r, m, bm⟩ : Dm) = zeroDm) := fun e => share_bad (e ▸ hsh)
              clear hsh hm HG
              have hbd := hb.dev
              have hb6 := hb.r6
              rw [show ((0 : Nat) == 4) = false from rfl] at t4
              rw [show ((0 : Nat) == 0) = true from rfl] at t0
              go_wp2_with fail
              refine (amount10 hb6 (hbd.at_ 0).2).mono ?_
              rintro e w' ⟨rfl, rfl⟩
              go_wp2_with fail
              refine (units12v hS _ bl bh _).mono ?_
              rintro e w2 ⟨er, rfl, her, hbl⟩
              clear hS
              have hb2 := hb.next hB hfb hbl
              have hbw2 : Below w.heap.size w w2 := hb2.bw
              have hz2 := hb2.size
              obtain ⟨e0', e1', e2', e3', e4', e5', e6'⟩ := hb2.res
              obtain ⟨f0', f1', f2', f3', f4', f5', f6'⟩ := hb2.unf
              clear e0 e1 e2 e3 e4 e5 e6 f0 f1 f2 f3 f4 f5 f6 hb hbd hb6 hb2 hs0 hs1 hs2 hr0 hbw
              have hs0 : w.heap.size + 1 < w2.heap.size := by omega
              have hs1 : w.heap.size + 1 < w2.heap.size + 1 := by omega
              have hs2 : ¬ w.heap.size + 1 = w2.heap.size := by omega
              cases wh
              · have hfin : agg7 G.1 = .agg #[.string k, .int .i64 c, .bool false, .int .i64 u, .int .i64 u, .int .i64 m, .bool bm] ∧ G.2 = ok := by
                  rw [hG]
                  cases ok
                  · have := HZ.out rfl
                    simp [zeroDm] at this
                    simp [gpuDm, zeroDm, this]
                  · simp [gpuDm]
                have HF : Hid (agg7 G.1 = .agg #[.string k, .int .i64 c, .bool false, .int .i64 u, .int .i64 u, .int .i64 m, .bool bm] ∧ G.2 = ok) := hfin
                have HE : Hid (ErrIs ok er) := her
                clear hfin hG HZ her
                go_wp2
                refine bodyPost_ret (v := .tuple #[.agg #[.string k, .int .i64 c, .bool false, .int .i64 u, .int .i64 u, .int .i64 m, .bool bm], er]) ?_ rfl ⟨er, by rw [HF.out.1], by rw [HF.out.2]; exact HE.out, ?_⟩
                · simp [results, Ybaf.results6, go_sem, e0', e1', e2', e3', e4', e5', e6', hs0, hs1, hs2]
                · exact (bel_set7 hbw2 (Nat.le_succ _) _ _ _ _ _ _ _).al _
              · have hfin : agg7 G.1 = .agg #[.string k, .int .i64 c, .bool true, .int .i64 u, .int .i64 r, .int .i64 m, .bool bm] ∧ G.2 = ok := by
                  rw [hG]
                  cases ok
                  · have := HZ.out rfl
                    simp [zeroDm] at this
                  · simp [gpuDm]
                have HF : Hid (agg7 G.1 = .agg #[.string k, .int .i64 c, .bool true, .int .i64 u, .int .i64 r, .int .i64 m, .bool bm] ∧ G.2 = ok) := hfin
                have HE : Hid (ErrIs ok er) := her
                clear hfin hG HZ her
                go_wp2
                refine bodyPost_ret (v := .tuple #[.agg #[.string k, .int .i64 c, .bool true, .int .i64 u, .int .i64 r, .int .i64 m, .bool bm], er]) ?_ rfl ⟨er, by rw [HF.out.1], by rw [HF.out.2]; exact HE.out, ?_⟩
                · simp [results, Ybaf.results6, go_sem, e0', e1', e2', e3', e4', e5', e6', hs0, hs1, hs2]
                · exact (bel_set7 hbw2 (Nat.le_succ _) _ _ _ _ _ _ _).al _
            · have hx0 : (x == 0) = false := by rw [beq_eq_false_iff_ne]; omega
              have hx4 : (x == 4) = false := by rw [beq_eq_false_iff_ne]; omega
              rw [hx0] at t0
              rw [hx4] at t4
              clear hx0 hx4 hx3
              obtain ⟨bl1, bh1⟩ := valOf_bd hq 1
              obtain ⟨bl2, bh2⟩ := valOf_bd hq 2
              have hG : G = lastDm q.pc q.pr q.pm (share (valOf q 1)) (share (valOf q 2)) (valOf q 3) := by rw [← HG.out, hm]
              have L1 := (hb.dev.at_ 1).2
              have HB : Hid (Base w B fb fo q W1) := hb
              have hb6 := hb.r6
              clear HG hm hb
              obtain ⟨xc, hxc⟩ : ∃ xc, valOf q 1 = xc := ⟨_, rfl⟩
              obtain ⟨xr, hxr⟩ : ∃ xr, valOf q 2 = xr := ⟨_, rfl⟩
              obtain ⟨mib, hxm⟩ : ∃ mib, valOf q 3 = mib := ⟨_, rfl⟩
              obtain ⟨pc, hpc⟩ : ∃ pc, q.pc = pc := ⟨_, rfl⟩
              obtain ⟨pr, hpr⟩ : ∃ pr, q.pr = pr := ⟨_, rfl⟩
              obtain ⟨pm, hpm⟩ : ∃ pm, q.pm = pm := ⟨_, rfl⟩
              rw [hxc, hxr, hxm, hpc, hpr, hpm] at hG
              rw [hxc] at L1 bl1 bh1
              rw [hxr] at bl2 bh2
              have HGl : Hid (G = lastDm pc pr pm (share xc) (share xr) mib) := hG
              have HV : Hid (∀ W, Dev W B q → (Instr.lookup 22 (.map (some B)) (.string ⟨#[103, 112, 117, 45, 99, 111, 114, 101]⟩) true).run Ybaf.prog W = .ok (.tuple #[.int .i64 xc, .bool pc]) W ∧
                  (Instr.lookup 22 (.map (some B)) (.string ⟨#[103, 112, 117, 45, 109, 101, 109, 111, 114, 121, 45, 114, 97, 116, 105, 111]⟩) true).run Ybaf.prog W = .ok (.tuple #[.int .i64 xr, .bool pr]) W ∧
                  (Instr.lookup 22 (.map (some B)) (.string ⟨#[103, 112, 117, 45, 109, 101, 109, 111, 114, 121]⟩) true).run Ybaf.prog W = .ok (.tuple #[.int .i64 mib, .bool pm]) W ∧
                  (Instr.lookup 22 (.map (some B)) (.string ⟨#[103, 112, 117, 45, 99, 111, 114, 101]⟩) false).run Ybaf.prog W = .ok (.int .i64 xc) W ∧
                  (Instr.lookup 22 (.map (some B)) (.string ⟨#[103, 112, 117, 45, 109, 101, 109, 111, 114, 121, 45, 114, 97, 116, 105, 111]⟩) false).run Ybaf.prog W = .ok (.int .i64 xr) W) := by
                subst hxc hxr hxm hpc hpr hpm
                exact fun W hd => ⟨(hd.at_ 1).1, (hd.at_ 2).1, (hd.at_ 3).1, (hd.at_ 1).2, (hd.at_ 2).2⟩
              clear hG hxc hxr hxm hpc hpr hpm
              go_wp2_with fail
              refine (amount10 hb6 L1).mono ?_
              rintro e w' ⟨rfl, rfl⟩
              clear L1
              go_wp2_with fail
              by_cases h1 : 100 < xc ∧ ¬ xc % 100 = 0
              · obtain ⟨h1, h2⟩ := h1
                obtain rfl : (zeroDm, false) = G := by rw [HGl.out]; simp [lastDm, share_n h1 h2]
                clear HGl
                refine (units12_bad (shared_n h1 h2) _ bl1 bh1 _).mono ?_
                rintro e w2 ⟨p, rfl, hbl⟩
                have hb2 := HB.out.next hB hfb hbl
                have hbw2 : Below w.heap.size w w2 := hb2.bw
                have hz2 := hb2.size
                obtain ⟨e0', e1', e2', e3', e4', e5', e6'⟩ := hb2.res
                obtain ⟨f0', f1', f2', f3', f4', f5', f6'⟩ := hb2.unf
                clear e0 e1 e2 e3 e4 e5 e6 f0 f1 f2 f3 f4 f5 f6 HB hb6 hb2 hs0 hs1 hs2 hr0 hbw
                have hs0 : w.heap.size + 1 < w2.heap.size := by omega
                have hs1 : w.heap.size + 1 < w2.heap.size + 1 := by omega
                have hs2 : ¬ w.heap.size + 1 = w2.heap.size := by omega
                go_wp2
                refine bodyPost_ret (v := .tuple #[agg7 zeroDm, .iface 52 (.pointer (some p))]) ?_ rfl ⟨_, rfl, .inr ⟨rfl, _, rfl⟩, ?_⟩
                · simp [results, Ybaf.results6, go_sem, zeroDm, e0', e1', e2', e3', e4', e5', e6', hs0, hs1, hs2]
                · exact (bel_set7 hbw2 (Nat.le_succ _) _ _ _ _ _ _ _).al _
              by_cases h2 : xc = 0
              · clear h1
                subst h2
                refine (units12_ok (shared_z rfl) _ bl1 bh1 _).mono ?_
                rintro e w2 ⟨rfl, hbl⟩
                have hb2 := HB.out.next hB hfb hbl
                have hz2 := hb2.size
                have hb2a : ∀ o, Base w B fb fo q (w2.alloc o) := fun o => hb2.next hB hfb bel1
                have hb6' : ∀ o, (w2.alloc o).cell? ⟨w.heap.size, 6, none⟩ = some (.map (some B)) := fun o => (hb2a o).r6
                have L2 : ∀ o, (Instr.lookup 22 (.map (some B)) (.string ⟨#[103, 112, 117, 45, 109, 101, 109, 111, 114, 121, 45, 114, 97, 116, 105, 111]⟩) false).run Ybaf.prog (w2.alloc o) = .ok (.int .i64 xr) (w2.alloc o) := fun o => (HV.out _ (hb2a o).dev).2.2.2.2
                have HB2 : Hid (∀ o, Base w B fb fo q (w2.alloc o)) := hb2a
                clear e0 e1 e2 e3 e4 e5 e6 f0 f1 f2 f3 f4 f5 f6 HB hb6 hs0 hs1 hs2 hr0 hbw hb2 hb2a hbl
                go_wp2_with fail
                refine (amount10 (hb6' _) (L2 _)).mono ?_
                rintro e w' ⟨rfl, rfl⟩
                clear hb6' L2
                go_wp2_with fail
                by_cases g2 : xr = 0
                · subst g2
                  refine (units12_ok (shared_z rfl) _ bl2 bh2 _).mono ?_
                  rintro e w3 ⟨rfl, hbl3⟩
                  have hb3 := (HB2.out _).next hB hfb hbl3
                  have hbw3 : Below w.heap.size w w3 := hb3.bw
                  have hz3 := hbl3.size
                  simp only [World.size_alloc] at hz3
                  obtain ⟨c0, c1, c2, c3, c4, c5, c6⟩ := keep7 hbl3
                  obtain ⟨e0', e1', e2', e3', e4', e5', e6'⟩ := hb3.res
                  obtain ⟨f0', f1', f2', f3', f4', f5', f6'⟩ := hb3.unf
                  have hs0 : w.heap.size + 1 < w3.heap.size := by omega
                  have hs1 : w.heap.size + 1 < w3.heap.size + 1 := by omega
                  have hs2 : w.heap.size + 1 < w3.heap.size + 1 + 1 := by omega
                  have hs3 : w2.heap.size < w3.heap.size := by omega
                  have hs4 : w2.heap.size < w3.heap.size + 1 := by omega
                  have hr6w := hb3.r6
                  have hr0' : w.heap.size < w3.heap.size := by omega
                  have hb3a : ∀ o, Base w B fb fo q (w3.alloc o) := fun o => hb3.next hB hfb bel1
                  have hr6 : ∀ o, (w3.alloc o).cell? ⟨w.heap.size, 6, none⟩ = some (.map (some B)) := fun o => (hb3a o).r6
                  have l1 : ∀ o, (Instr.lookup 22 (.map (some B)) (.string ⟨#[103, 112, 117, 45, 99, 111, 114, 101]⟩) true).run Ybaf.prog (w3.alloc o) = .ok (.tuple #[.int .i64 0, .bool pc]) (w3.alloc o) := fun o => (HV.out _ (hb3a o).dev).1
                  have l2 : ∀ o, (Instr.lookup 22 (.map (some B)) (.string ⟨#[103, 112, 117, 45, 109, 101, 109, 111, 114, 121, 45, 114, 97, 116, 105, 111]⟩) true).run Ybaf.prog (w3.alloc o) = .ok (.tuple #[.int .i64 0, .bool pr]) (w3.alloc o) := fun o => (HV.out _ (hb3a o).dev).2.1
                  have l3 : ∀ o, (Instr.lookup 22 (.map (some B)) (.string ⟨#[103, 112, 117, 45, 109, 101, 109, 111, 114, 121]⟩) true).run Ybaf.prog (w3.alloc o) = .ok (.tuple #[.int .i64 mib, .bool pm]) (w3.alloc o) := fun o => (HV.out _ (hb3a o).dev).2.2.1
                  clear HB2 hb3 hb3a hr6 HV hbl3
                  by_cases p0 : 0 < mib
                  · obtain rfl : (⟨⟨#[103, 112, 117]⟩, 1, false, 0, 0, mib, pm⟩, true) = G := by rw [HGl.out]; simp [lastDm, (share_z rfl : share 0 = _), (share_z rfl : share 0 = _), zeroDm, shareDm, gpuB, p0]
                    clear HGl
                    go_wp2
                    refine bodyPost_ret (v := .tuple #[.agg #[.string ⟨#[103, 112, 117]⟩, .int .i64 1, .bool false, .int .i64 0, .int .i64 0, .int .i64 mib, .bool pm], .nilIface]) ?_ rfl ⟨_, rfl, .inl ⟨rfl, rfl⟩, ?_⟩
                    · simp [results, Ybaf.results6, go_sem, e0', e1', e2', e3', e4', e5', e6', c0, c1, c2, c3, c4, c5, c6, hs0, hs1, hs2, hs3, hs4]
                    · exact ((bel_set7 hbw3 (Nat.le_succ _) _ _ _ _ _ _ _).al _).al _
                  obtain rfl : (⟨⟨#[103, 112, 117]⟩, 0, false, 0, 0, mib, pm⟩, true) = G := by rw [HGl.out]; simp [lastDm, (share_z rfl : share 0 = _), (share_z rfl : share 0 = _), zeroDm, shareDm, gpuB, p0]
                  clear HGl
                  go_wp2
                  refine bodyPost_ret (v := .tuple #[.agg #[.string ⟨#[103, 112, 117]⟩, .int .i64 0, .bool false, .int .i64 0, .int .i64 0, .int .i64 mib, .bool pm], .nilIface]) ?_ rfl ⟨_, rfl, .inl ⟨rfl, rfl⟩, ?_⟩
                  · simp [results, Ybaf.results6, go_sem, e0', e1', e2', e3', e4', e5', e6', c0, c1, c2, c3, c4, c5, c6, hs0, hs1, hs2, hs3, hs4]
                  · exact ((bel_set7 hbw3 (Nat.le_succ _) _ _ _ _ _ _ _).al _).al _
                by_cases g3 : xr ≤ 100
                · refine (units12_ok (shared_s g2 g3) _ bl2 bh2 _).mono ?_
                  rintro e w3 ⟨rfl, hbl3⟩
                  have hb3 := (HB2.out _).next hB hfb hbl3
                  have hbw3 : Below w.heap.size w w3 := hb3.bw
                  have hz3 := hbl3.size
                  simp only [World.size_alloc] at hz3
                  obtain ⟨c0, c1, c2, c3, c4, c5, c6⟩ := keep7 hbl3
                  obtain ⟨e0', e1', e2', e3', e4', e5', e6'⟩ := hb3.res
                  obtain ⟨f0', f1', f2', f3', f4', f5', f6'⟩ := hb3.unf
                  have hs0 : w.heap.size + 1 < w3.heap.size := by omega
                  have hs1 : w.heap.size + 1 < w3.heap.size + 1 := by omega
                  have hs2 : w.heap.size + 1 < w3.heap.size + 1 + 1 := by omega
                  have hs3 : w2.heap.size < w3.heap.size := by omega
                  have hs4 : w2.heap.size < w3.heap.size + 1 := by omega
                  have hr6w := hb3.r6
                  have hr0' : w.heap.size < w3.heap.size := by omega
                  have hb3a : ∀ o, Base w B fb fo q (w3.alloc o) := fun o => hb3.next hB hfb bel1
                  have hr6 : ∀ o, (w3.alloc o).cell? ⟨w.heap.size, 6, none⟩ = some (.map (some B)) := fun o => (hb3a o).r6
                  have l1 : ∀ o, (Instr.lookup 22 (.map (some B)) (.string ⟨#[103, 112, 117, 45, 99, 111, 114, 101]⟩) true).run Ybaf.prog (w3.alloc o) = .ok (.tuple #[.int .i64 0, .bool pc]) (w3.alloc o) := fun o => (HV.out _ (hb3a o).dev).1
                  have l2 : ∀ o, (Instr.lookup 22 (.map (some B)) (.string ⟨#[103, 112, 117, 45, 109, 101, 109, 111, 114, 121, 45, 114, 97, 116, 105, 111]⟩) true).run Ybaf.prog (w3.alloc o) = .ok (.tuple #[.int .i64 xr, .bool pr]) (w3.alloc o) := fun o => (HV.out _ (hb3a o).dev).2.1
                  have l3 : ∀ o, (Instr.lookup 22 (.map (some B)) (.string ⟨#[103, 112, 117, 45, 109, 101, 109, 111, 114, 121]⟩) true).run Ybaf.prog (w3.alloc o) = .ok (.tuple #[.int .i64 mib, .bool pm]) (w3.alloc o) := fun o => (HV.out _ (hb3a o).dev).2.2.1
                  clear HB2 hb3 hb3a hr6 HV hbl3
                  by_cases p0 : 0 < xr
                  · obtain rfl : (⟨⟨#[103, 112, 117]⟩, 1, false, 0, xr, mib, pm⟩, true) = G := by rw [HGl.out]; simp [lastDm, (share_z rfl : share 0 = _), (share_s g2 g3 : share xr = _), zeroDm, shareDm, gpuB, p0]
                    clear HGl
                    go_wp2
                    refine bodyPost_ret (v := .tuple #[.agg #[.string ⟨#[103, 112, 117]⟩, .int .i64 1, .bool false, .int .i64 0, .int .i64 xr, .int .i64 mib, .bool pm], .nilIface]) ?_ rfl ⟨_, rfl, .inl ⟨rfl, rfl⟩, ?_⟩
                    · simp [results, Ybaf.results6, go_sem, e0', e1', e2', e3', e4', e5', e6', c0, c1, c2, c3, c4, c5, c6, hs0, hs1, hs2, hs3, hs4]
                    · exact ((bel_set7 hbw3 (Nat.le_succ _) _ _ _ _ _ _ _).al _).al _
                  by_cases p1 : 0 < mib
                  · obtain rfl : (⟨⟨#[103, 112, 117]⟩, 1, false, 0, xr, mib, pm⟩, true) = G := by rw [HGl.out]; simp [lastDm, (share_z rfl : share 0 = _), (share_s g2 g3 : share xr = _), zeroDm, shareDm, gpuB, p1]
                    clear HGl
                    go_wp2
                    refine bodyPost_ret (v := .tuple #[.agg #[.string ⟨#[103, 112, 117]⟩, .int .i64 1, .bool false, .int .i64 0, .int .i64 xr, .int .i64 mib, .bool pm], .nilIface]) ?_ rfl ⟨_, rfl, .inl ⟨rfl, rfl⟩, ?_⟩
                    · simp [results, Ybaf.results6, go_sem, e0', e1', e2', e3', e4', e5', e6', c0, c1, c2, c3, c4, c5, c6, hs0, hs1, hs2, hs3, hs4]
                    · exact ((bel_set7 hbw3 (Nat.le_succ _) _ _ _ _ _ _ _).al _).al _
                  obtain rfl : (⟨⟨#[103, 112, 117]⟩, 0, false, 0, xr, mib, pm⟩, true) = G := by rw [HGl.out]; simp [lastDm, (share_z rfl : share 0 = _), (share_s g2 g3 : share xr = _), zeroDm, shareDm, gpuB, p0, p1]
                  clear HGl
                  go_wp2
                  refine bodyPost_ret (v := .tuple #[.agg #[.string ⟨#[103, 112, 117]⟩, .int .i64 0, .bool false, .int .i64 0, .int .i64 xr, .int .i64 mib, .bool pm], .nilIface]) ?_ rfl ⟨_, rfl, .inl ⟨rfl, rfl⟩, ?_⟩
                  · simp [results, Ybaf.results6, go_sem, e0', e1', e2', e3', e4', e5', e6', c0, c1, c2, c3, c4, c5, c6, hs0, hs1, hs2, hs3, hs4]
                  · exact ((bel_set7 hbw3 (Nat.le_succ _) _ _ _ _ _ _ _).al _).al _
                have g4 : 100 < xr := by omega
                clear g2 g3
                by_cases g5 : xr % 100 = 0
                · refine (units12_ok (shared_w g4 g5) _ bl2 bh2 _).mono ?_
                  rintro e w3 ⟨rfl, hbl3⟩
                  have hb3 := (HB2.out _).next hB hfb hbl3
                  have hbw3 : Below w.heap.size w w3 := hb3.bw
                  have hz3 := hbl3.size
                  simp only [World.size_alloc] at hz3
                  obtain ⟨c0, c1, c2, c3, c4, c5, c6⟩ := keep7 hbl3
                  obtain ⟨e0', e1', e2', e3', e4', e5', e6'⟩ := hb3.res
                  obtain ⟨f0', f1', f2', f3', f4', f5', f6'⟩ := hb3.unf
                  have hs0 : w.heap.size + 1 < w3.heap.size := by omega
                  have hs1 : w.heap.size + 1 < w3.heap.size + 1 := by omega
                  have hs2 : w.heap.size + 1 < w3.heap.size + 1 + 1 := by omega
                  have hs3 : w2.heap.size < w3.heap.size := by omega
                  have hs4 : w2.heap.size < w3.heap.size + 1 := by omega
                  have hr6w := hb3.r6
                  have hr0' : w.heap.size < w3.heap.size := by omega
                  have hb3a : ∀ o, Base w B fb fo q (w3.alloc o) := fun o => hb3.next hB hfb bel1
                  have hr6 : ∀ o, (w3.alloc o).cell? ⟨w.heap.size, 6, none⟩ = some (.map (some B)) := fun o => (hb3a o).r6
                  have l1 : ∀ o, (Instr.lookup 22 (.map (some B)) (.string ⟨#[103, 112, 117, 45, 99, 111, 114, 101]⟩) true).run Ybaf.prog (w3.alloc o) = .ok (.tuple #[.int .i64 0, .bool pc]) (w3.alloc o) := fun o => (HV.out _ (hb3a o).dev).1
                  have l2 : ∀ o, (Instr.lookup 22 (.map (some B)) (.string ⟨#[103, 112, 117, 45, 109, 101, 109, 111, 114, 121, 45, 114, 97, 116, 105, 111]⟩) true).run Ybaf.prog (w3.alloc o) = .ok (.tuple #[.int .i64 xr, .bool pr]) (w3.alloc o) := fun o => (HV.out _ (hb3a o).dev).2.1
                  have l3 : ∀ o, (Instr.lookup 22 (.map (some B)) (.string ⟨#[103, 112, 117, 45, 109, 101, 109, 111, 114, 121]⟩) true).run Ybaf.prog (w3.alloc o) = .ok (.tuple #[.int .i64 mib, .bool pm]) (w3.alloc o) := fun o => (HV.out _ (hb3a o).dev).2.2.1
                  cases pm
                  rotate_left
                  · obtain rfl : (zeroDm, false) = G := by rw [HGl.out]; simp [lastDm, (share_z rfl : share 0 = _), (share_w g4 g5 : share xr = _), sameDm, zeroDm, shareDm, wholeDm, gpuB]
                    clear HGl
                    clear HB2 hb3 hb3a hr6 HV hbl3
                    go_wp2_with (go_at_call 9; refine (errorfB ⟨#[103, 112, 117, 45, 109, 101, 109, 111, 114, 121]⟩ _ _ ?_).mono ?_; rotate_right; rintro e w' ⟨s, rfl, rfl⟩)
                    · refine bodyPost_ret (v := .tuple #[agg7 zeroDm, .iface 52 (.pointer (some ⟨w3.heap.size + 1 + 1, 0, none⟩))]) ?_ rfl ⟨_, rfl, .inr ⟨rfl, _, rfl⟩, ?_⟩
                      · simp [results, Ybaf.results6, go_sem, zeroDm, e0', e1', e2', e3', e4', e5', e6', c0, c1, c2, c3, c4, c5, c6, hs0, hs1, hs2, hs3, hs4]
                      · exact ((((bel_set7 hbw3 (Nat.le_succ _) _ _ _ _ _ _ _).al _).al _).al _).drew
                    all_goals (simp; done)
                  cases pc
                  · obtain rfl : (⟨⟨#[103, 112, 117]⟩, xr / 100, true, 100, 100, 0, false⟩, true) = G := by rw [HGl.out]; simp [lastDm, (share_z rfl : share 0 = _), (share_w g4 g5 : share xr = _), sameDm, zeroDm, shareDm, wholeDm, gpuB]
                    clear HGl
                    clear HB2 hb3 hb3a hr6 HV hbl3
                    go_wp2
                    refine bodyPost_ret (v := .tuple #[.agg #[.string ⟨#[103, 112, 117]⟩, .int .i64 (xr / 100), .bool true, .int .i64 100, .int .i64 100, .int .i64 0, .bool false], .nilIface]) ?_ rfl ⟨_, rfl, .inl ⟨rfl, rfl⟩, ?_⟩
                    · simp [results, Ybaf.results6, go_sem, e0', e1', e2', e3', e4', e5', e6', c0, c1, c2, c3, c4, c5, c6, hs0, hs1, hs2, hs3, hs4]
                    · exact (bel_set7 hbw3 (Nat.le_succ _) _ _ _ _ _ _ _).al _
                  cases pr
                  · obtain rfl : (⟨⟨#[103, 112, 117]⟩, xr / 100, true, 100, 100, 0, false⟩, true) = G := by rw [HGl.out]; simp [lastDm, (share_z rfl : share 0 = _), (share_w g4 g5 : share xr = _), sameDm, zeroDm, shareDm, wholeDm, gpuB]
                    clear HGl
                    clear HB2 hb3 hb3a hr6 HV hbl3
                    go_wp2
                    refine bodyPost_ret (v := .tuple #[.agg #[.string ⟨#[103, 112, 117]⟩, .int .i64 (xr / 100), .bool true, .int .i64 100, .int .i64 100, .int .i64 0, .bool false], .nilIface]) ?_ rfl ⟨_, rfl, .inl ⟨rfl, rfl⟩, ?_⟩
                    · simp [results, Ybaf.results6, go_sem, e0', e1', e2', e3', e4', e5', e6', c0, c1, c2, c3, c4, c5, c6, hs0, hs1, hs2, hs3, hs4]
                    · exact (bel_set7 hbw3 (Nat.le_succ _) _ _ _ _ _ _ _).al _
                  obtain rfl : (zeroDm, false) = G := by rw [HGl.out]; simp [lastDm, (share_z rfl : share 0 = _), (share_w g4 g5 : share xr = _), sameDm, zeroDm, shareDm, wholeDm, gpuB]
                  clear HGl
                  have L4 : ∀ o, (Instr.lookup 22 (.map (some B)) (.string ⟨#[103, 112, 117, 45, 99, 111, 114, 101]⟩) false).run Ybaf.prog (w3.alloc o) = .ok (.int .i64 0) (w3.alloc o) := fun o => (HV.out _ (hb3a o).dev).2.2.2.1
                  have L5 : ∀ o, (Instr.lookup 22 (.map (some B)) (.string ⟨#[103, 112, 117, 45, 109, 101, 109, 111, 114, 121, 45, 114, 97, 116, 105, 111]⟩) false).run Ybaf.prog (w3.alloc o) = .ok (.int .i64 xr) (w3.alloc o) := fun o => (HV.out _ (hb3a o).dev).2.2.2.2
                  have HL4 : Hid (∀ o, (Instr.lookup 22 (.map (some B)) (.string ⟨#[103, 112, 117, 45, 99, 111, 114, 101]⟩) false).run Ybaf.prog (w3.alloc o) = .ok (.int .i64 0) (w3.alloc o)) := L4
                  have HL5 : Hid (∀ o, (Instr.lookup 22 (.map (some B)) (.string ⟨#[103, 112, 117, 45, 109, 101, 109, 111, 114, 121, 45, 114, 97, 116, 105, 111]⟩) false).run Ybaf.prog (w3.alloc o) = .ok (.int .i64 xr) (w3.alloc o)) := L5
                  clear HB2 hb3 hb3a HV hbl3 L4 L5
                  go_wp2_with fail
                  refine (amount10 (hr6 _) (HL4.out _)).mono ?_
                  rintro e w' ⟨rfl, rfl⟩
                  go_wp2_with fail
                  refine (amount10 (hr6 _) (HL5.out _)).mono ?_
                  rintro e w' ⟨rfl, rfl⟩
                  go_wp2_with (go_at_call 9; refine (errorfC ⟨#[103, 112, 117, 45, 99, 111, 114, 101]⟩ ⟨#[103, 112, 117, 45, 109, 101, 109, 111, 114, 121, 45, 114, 97, 116, 105, 111]⟩ 0 xr _ _ ?_ ?_ ?_ ?_).mono ?_; rotate_right; rintro e w' ⟨s, rfl, rfl⟩)
                  · refine bodyPost_ret (v := .tuple #[agg7 zeroDm, .iface 52 (.pointer (some ⟨w3.heap.size + 1 + 1, 0, none⟩))]) ?_ rfl ⟨_, rfl, .inr ⟨rfl, _, rfl⟩, ?_⟩
                    · simp [results, Ybaf.results6, go_sem, zeroDm, e0', e1', e2', e3', e4', e5', e6', c0, c1, c2, c3, c4, c5, c6, hs0, hs1, hs2, hs3, hs4]
                    · exact ((((bel_set7 hbw3 (Nat.le_succ _) _ _ _ _ _ _ _).al _).al _).al _).drew
                  all_goals (simp; done)
                · obtain rfl : (zeroDm, false) = G := by rw [HGl.out]; simp [lastDm, (share_n g4 g5 : share xr = _)]
                  clear HGl
                  refine (units12_bad (shared_n g4 g5) _ bl2 bh2 _).mono ?_
                  rintro e w3 ⟨p, rfl, hbl3⟩
                  have hb3 := (HB2.out _).next hB hfb hbl3
                  have hbw3 : Below w.heap.size w w3 := hb3.bw
                  have hz3 := hbl3.size
                  simp only [World.size_alloc] at hz3
                  obtain ⟨e0', e1', e2', e3', e4', e5', e6'⟩ := hb3.res
                  obtain ⟨f0', f1', f2', f3', f4', f5', f6'⟩ := hb3.unf
                  have hs0 : w.heap.size + 1 < w3.heap.size := by omega
                  have hs1 : w.heap.size + 1 < w3.heap.size + 1 := by omega
                  clear HB2 hb3 HV
                  go_wp2
                  refine bodyPost_ret (v := .tuple #[agg7 zeroDm, .iface 52 (.pointer (some p))]) ?_ rfl ⟨_, rfl, .inr ⟨rfl, _, rfl⟩, ?_⟩
                  · simp [results, Ybaf.results6, go_sem, zeroDm, e0', e1', e2', e3', e4', e5', e6', hs0, hs1]
                  · exact (bel_set7 hbw3 (Nat.le_succ _) _ _ _ _ _ _ _).al _
              by_cases h3 : xc ≤ 100
              · clear h1
                refine (units12_ok (shared_s h2 h3) _ bl1 bh1 _).mono ?_
                rintro e w2 ⟨rfl, hbl⟩
                have hb2 := HB.out.next hB hfb hbl
                have hz2 := hb2.size
                have hb2a : ∀ o, Base w B fb fo q (w2.alloc o) := fun o => hb2.next hB hfb bel1
                have hb6' : ∀ o, (w2.alloc o).cell? ⟨w.heap.size, 6, none⟩ = some (.map (some B)) := fun o => (hb2a o).r6
                have L2 : ∀ o, (Instr.lookup 22 (.map (some B)) (.string ⟨#[103, 112, 117, 45, 109, 101, 109, 111, 114, 121, 45, 114, 97, 116, 105, 111]⟩) false).run Ybaf.prog (w2.alloc o) = .ok (.int .i64 xr) (w2.alloc o) := fun o => (HV.out _ (hb2a o).dev).2.2.2.2
                have HB2 : Hid (∀ o, Base w B fb fo q (w2.alloc o)) := hb2a
                clear e0 e1 e2 e3 e4 e5 e6 f0 f1 f2 f3 f4 f5 f6 HB hb6 hs0 hs1 hs2 hr0 hbw hb2 hb2a hbl
                go_wp2_with fail
                refine (amount10 (hb6' _) (L2 _)).mono ?_
                rintro e w' ⟨rfl, rfl⟩
                clear hb6' L2
                go_wp2_with fail
                by_cases g2 : xr = 0
                · subst g2
                  refine (units12_ok (shared_z rfl) _ bl2 bh2 _).mono ?_
                  rintro e w3 ⟨rfl, hbl3⟩
                  have hb3 := (HB2.out _).next hB hfb hbl3
                  have hbw3 : Below w.heap.size w w3 := hb3.bw
                  have hz3 := hbl3.size
                  simp only [World.size_alloc] at hz3
                  obtain ⟨c0, c1, c2, c3, c4, c5, c6⟩ := keep7 hbl3
                  obtain ⟨e0', e1', e2', e3', e4', e5', e6'⟩ := hb3.res
                  obtain ⟨f0', f1', f2', f3', f4', f5', f6'⟩ := hb3.unf
                  have hs0 : w.heap.size + 1 < w3.heap.size := by omega
                  have hs1 : w.heap.size + 1 < w3.heap.size + 1 := by omega
                  have hs2 : w.heap.size + 1 < w3.heap.size + 1 + 1 := by omega
                  have hs3 : w2.heap.size < w3.heap.size := by omega
                  have hs4 : w2.heap.size < w3.heap.size + 1 := by omega
                  have hr6w := hb3.r6
                  have hr0' : w.heap.size < w3.heap.size := by omega
                  have hb3a : ∀ o, Base w B fb fo q (w3.alloc o) := fun o => hb3.next hB hfb bel1
                  have hr6 : ∀ o, (w3.alloc o).cell? ⟨w.heap.size, 6, none⟩ = some (.map (some B)) := fun o => (hb3a o).r6
                  have l1 : ∀ o, (Instr.lookup 22 (.map (some B)) (.string ⟨#[103, 112, 117, 45, 99, 111, 114, 101]⟩) true).run Ybaf.prog (w3.alloc o) = .ok (.tuple #[.int .i64 xc, .bool pc]) (w3.alloc o) := fun o => (HV.out _ (hb3a o).dev).1
                  have l2 : ∀ o, (Instr.lookup 22 (.map (some B)) (.string ⟨#[103, 112, 117, 45, 109, 101, 109, 111, 114, 121, 45, 114, 97, 116, 105, 111]⟩) true).run Ybaf.prog (w3.alloc o) = .ok (.tuple #[.int .i64 0, .bool pr]) (w3.alloc o) := fun o => (HV.out _ (hb3a o).dev).2.1
                  have l3 : ∀ o, (Instr.lookup 22 (.map (some B)) (.string ⟨#[103, 112, 117, 45, 109, 101, 109, 111, 114, 121]⟩) true).run Ybaf.prog (w3.alloc o) = .ok (.tuple #[.int .i64 mib, .bool pm]) (w3.alloc o) := fun o => (HV.out _ (hb3a o).dev).2.2.1
                  clear HB2 hb3 hb3a hr6 HV hbl3
                  by_cases p0 : 0 < xc
                  · obtain rfl : (⟨⟨#[103, 112, 117]⟩, 1, false, xc, 0, mib, pm⟩, true) = G := by rw [HGl.out]; simp [lastDm, (share_s h2 h3 : share xc = _), (share_z rfl : share 0 = _), zeroDm, shareDm, gpuB, p0]
                    clear HGl
                    go_wp2
                    refine bodyPost_ret (v := .tuple #[.agg #[.string ⟨#[103, 112, 117]⟩, .int .i64 1, .bool false, .int .i64 xc, .int .i64 0, .int .i64 mib, .bool pm], .nilIface]) ?_ rfl ⟨_, rfl, .inl ⟨rfl, rfl⟩, ?_⟩
                    · simp [results, Ybaf.results6, go_sem, e0', e1', e2', e3', e4', e5', e6', c0, c1, c2, c3, c4, c5, c6, hs0, hs1, hs2, hs3, hs4]
                    · exact ((bel_set7 hbw3 (Nat.le_succ _) _ _ _ _ _ _ _).al _).al _
                  by_cases p1 : 0 < mib
                  · obtain rfl : (⟨⟨#[103, 112, 117]⟩, 1, false, xc, 0, mib, pm⟩, true) = G := by rw [HGl.out]; simp [lastDm, (share_s h2 h3 : share xc = _), (share_z rfl : share 0 = _), zeroDm, shareDm, gpuB, p1]
                    clear HGl
                    go_wp2
                    refine bodyPost_ret (v := .tuple #[.agg #[.string ⟨#[103, 112, 117]⟩, .int .i64 1, .bool false, .int .i64 xc, .int .i64 0, .int .i64 mib, .bool pm], .nilIface]) ?_ rfl ⟨_, rfl, .inl ⟨rfl, rfl⟩, ?_⟩
                    · simp [results, Ybaf.results6, go_sem, e0', e1', e2', e3', e4', e5', e6', c0, c1, c2, c3, c4, c5, c6, hs0, hs1, hs2, hs3, hs4]
                    · exact ((bel_set7 hbw3 (Nat.le_succ _) _ _ _ _ _ _ _).al _).al _
                  obtain rfl : (⟨⟨#[103, 112, 117]⟩, 0, false, xc, 0, mib, pm⟩, true) = G := by rw [HGl.out]; simp [lastDm, (share_s h2 h3 : share xc = _), (share_z rfl : share 0 = _), zeroDm, shareDm, gpuB, p0, p1]
                  clear HGl
                  go_wp2
                  refine bodyPost_ret (v := .tuple #[.agg #[.string ⟨#[103, 112, 117]⟩, .int .i64 0, .bool false, .int .i64 xc, .int .i64 0, .int .i64 mib, .bool pm], .nilIface]) ?_ rfl ⟨_, rfl, .inl ⟨rfl, rfl⟩, ?_⟩
                  · simp [results, Ybaf.results6, go_sem, e0', e1', e2', e3', e4', e5', e6', c0, c1, c2, c3, c4, c5, c6, hs0, hs1, hs2, hs3, hs4]
                  · exact ((bel_set7 hbw3 (Nat.le_succ _) _ _ _ _ _ _ _).al _).al _
                by_cases g3 : xr ≤ 100
                · refine (units12_ok (shared_s g2 g3) _ bl2 bh2 _).mono ?_
                  rintro e w3 ⟨rfl, hbl3⟩
                  have hb3 := (HB2.out _).next hB hfb hbl3
                  have hbw3 : Below w.heap.size w w3 := hb3.bw
                  have hz3 := hbl3.size
                  simp only [World.size_alloc] at hz3
                  obtain ⟨c0, c1, c2, c3, c4, c5, c6⟩ := keep7 hbl3
                  obtain ⟨e0', e1', e2', e3', e4', e5', e6'⟩ := hb3.res
                  obtain ⟨f0', f1', f2', f3', f4', f5', f6'⟩ := hb3.unf
                  have hs0 : w.heap.size + 1 < w3.heap.size := by omega
                  have hs1 : w.heap.size + 1 < w3.heap.size + 1 := by omega
                  have hs2 : w.heap.size + 1 < w3.heap.size + 1 + 1 := by omega
                  have hs3 : w2.heap.size < w3.heap.size := by omega
                  have hs4 : w2.heap.size < w3.heap.size + 1 := by omega
                  have hr6w := hb3.r6
                  have hr0' : w.heap.size < w3.heap.size := by omega
                  have hb3a : ∀ o, Base w B fb fo q (w3.alloc o) := fun o => hb3.next hB hfb bel1
                  have hr6 : ∀ o, (w3.alloc o).cell? ⟨w.heap.size, 6, none⟩ = some (.map (some B)) := fun o => (hb3a o).r6
                  have l1 : ∀ o, (Instr.lookup 22 (.map (some B)) (.string ⟨#[103, 112, 117, 45, 99, 111, 114, 101]⟩) true).run Ybaf.prog (w3.alloc o) = .ok (.tuple #[.int .i64 xc, .bool pc]) (w3.alloc o) := fun o => (HV.out _ (hb3a o).dev).1
                  have l2 : ∀ o, (Instr.lookup 22 (.map (some B)) (.string ⟨#[103, 112, 117, 45, 109, 101, 109, 111, 114, 121, 45, 114, 97, 116, 105, 111]⟩) true).run Ybaf.prog (w3.alloc o) = .ok (.tuple #[.int .i64 xr, .bool pr]) (w3.alloc o) := fun o => (HV.out _ (hb3a o).dev).2.1
                  have l3 : ∀ o, (Instr.lookup 22 (.map (some B)) (.string ⟨#[103, 112, 117, 45, 109, 101, 109, 111, 114, 121]⟩) true).run Ybaf.prog (w3.alloc o) = .ok (.tuple #[.int .i64 mib, .bool pm]) (w3.alloc o) := fun o => (HV.out _ (hb3a o).dev).2.2.1
                  clear HB2 hb3 hb3a hr6 HV hbl3
                  by_cases p0 : 0 < xc
                  · obtain rfl : (⟨⟨#[103, 112, 117]⟩, 1, false, xc, xr, mib, pm⟩, true) = G := by rw [HGl.out]; simp [lastDm, (share_s h2 h3 : share xc = _), (share_s g2 g3 : share xr = _), zeroDm, shareDm, gpuB, p0]
                    clear HGl
                    go_wp2
                    refine bodyPost_ret (v := .tuple #[.agg #[.string ⟨#[103, 112, 117]⟩, .int .i64 1, .bool false, .int .i64 xc, .int .i64 xr, .int .i64 mib, .bool pm], .nilIface]) ?_ rfl ⟨_, rfl, .inl ⟨rfl, rfl⟩, ?_⟩
                    · simp [results, Ybaf.results6, go_sem, e0', e1', e2', e3', e4', e5', e6', c0, c1, c2, c3, c4, c5, c6, hs0, hs1, hs2, hs3, hs4]
                    · exact ((bel_set7 hbw3 (Nat.le_succ _) _ _ _ _ _ _ _).al _).al _
                  by_cases p1 : 0 < xr
                  · obtain rfl : (⟨⟨#[103, 112, 117]⟩, 1, false, xc, xr, mib, pm⟩, true) = G := by rw [HGl.out]; simp [lastDm, (share_s h2 h3 : share xc = _), (share_s g2 g3 : share xr = _), zeroDm, shareDm, gpuB, p1]
                    clear HGl
                    go_wp2
                    refine bodyPost_ret (v := .tuple #[.agg #[.string ⟨#[103, 112, 117]⟩, .int .i64 1, .bool false, .int .i64 xc, .int .i64 xr, .int .i64 mib, .bool pm], .nilIface]) ?_ rfl ⟨_, rfl, .inl ⟨rfl, rfl⟩, ?_⟩
                    · simp [results, Ybaf.results6, go_sem, e0', e1', e2', e3', e4', e5', e6', c0, c1, c2, c3, c4, c5, c6, hs0, hs1, hs2, hs3, hs4]
                    · exact ((bel_set7 hbw3 (Nat.le_succ _) _ _ _ _ _ _ _).al _).al _
                  by_cases p2 : 0 < mib
                  · obtain rfl : (⟨⟨#[103, 112, 117]⟩, 1, false, xc, xr, mib, pm⟩, true) = G := by rw [HGl.out]; simp [lastDm, (share_s h2 h3 : share xc = _), (share_s g2 g3 : share xr = _), zeroDm, shareDm, gpuB, p2]
                    clear HGl
                    go_wp2
                    refine bodyPost_ret (v := .tuple #[.agg #[.string ⟨#[103, 112, 117]⟩, .int .i64 1, .bool false, .int .i64 xc, .int .i64 xr, .int .i64 mib, .bool pm], .nilIface]) ?_ rfl ⟨_, rfl, .inl ⟨rfl, rfl⟩, ?_⟩
                    · simp [results, Ybaf.results6, go_sem, e0', e1', e2', e3', e4', e5', e6', c0, c1, c2, c3, c4, c5, c6, hs0, hs1, hs2, hs3, hs4]
                    · exact ((bel_set7 hbw3 (Nat.le_succ _) _ _ _ _ _ _ _).al _).al _
                  obtain rfl : (⟨⟨#[103, 112, 117]⟩, 0, false, xc, xr, mib, pm⟩, true) = G := by rw [HGl.out]; simp [lastDm, (share_s h2 h3 : share xc = _), (share_s g2 g3 : share xr = _), zeroDm, shareDm, gpuB, p0, p1, p2]
                  clear HGl
                  go_wp2
                  refine bodyPost_ret (v := .tuple #[.agg #[.string ⟨#[103, 112, 117]⟩, .int .i64 0, .bool false, .int .i64 xc, .int .i64 xr, .int .i64 mib, .bool pm], .nilIface]) ?_ rfl ⟨_, rfl, .inl ⟨rfl, rfl⟩, ?_⟩
                  · simp [results, Ybaf.results6, go_sem, e0', e1', e2', e3', e4', e5', e6', c0, c1, c2, c3, c4, c5, c6, hs0, hs1, hs2, hs3, hs4]
                  · exact ((bel_set7 hbw3 (Nat.le_succ _) _ _ _ _ _ _ _).al _).al _
                have g4 : 100 < xr := by omega
                clear g2 g3
                by_cases g5 : xr % 100 = 0
                · refine (units12_ok (shared_w g4 g5) _ bl2 bh2 _).mono ?_
                  rintro e w3 ⟨rfl, hbl3⟩
                  have hb3 := (HB2.out _).next hB hfb hbl3
                  have hbw3 : Below w.heap.size w w3 := hb3.bw
                  have hz3 := hbl3.size
                  simp only [World.size_alloc] at hz3
                  obtain ⟨c0, c1, c2, c3, c4, c5, c6⟩ := keep7 hbl3
                  obtain ⟨e0', e1', e2', e3', e4', e5', e6'⟩ := hb3.res
                  obtain ⟨f0', f1', f2', f3', f4', f5', f6'⟩ := hb3.unf
                  have hs0 : w.heap.size + 1 < w3.heap.size := by omega
                  have hs1 : w.heap.size + 1 < w3.heap.size + 1 := by omega
                  have hs2 : w.heap.size + 1 < w3.heap.size + 1 + 1 := by omega
                  have hs3 : w2.heap.size < w3.heap.size := by omega
                  have hs4 : w2.heap.size < w3.heap.size + 1 := by omega
                  have hr6w := hb3.r6
                  have hr0' : w.heap.size < w3.heap.size := by omega
                  have hb3a : ∀ o, Base w B fb fo q (w3.alloc o) := fun o => hb3.next hB hfb bel1
                  have hr6 : ∀ o, (w3.alloc o).cell? ⟨w.heap.size, 6, none⟩ = some (.map (some B)) := fun o => (hb3a o).r6
                  have l1 : ∀ o, (Instr.lookup 22 (.map (some B)) (.string ⟨#[103, 112, 117, 45, 99, 111, 114, 101]⟩) true).run Ybaf.prog (w3.alloc o) = .ok (.tuple #[.int .i64 xc, .bool pc]) (w3.alloc o) := fun o => (HV.out _ (hb3a o).dev).1
                  have l2 : ∀ o, (Instr.lookup 22 (.map (some B)) (.string ⟨#[103, 112, 117, 45, 109, 101, 109, 111, 114, 121, 45, 114, 97, 116, 105, 111]⟩) true).run Ybaf.prog (w3.alloc o) = .ok (.tuple #[.int .i64 xr, .bool pr]) (w3.alloc o) := fun o => (HV.out _ (hb3a o).dev).2.1
                  have l3 : ∀ o, (Instr.lookup 22 (.map (some B)) (.string ⟨#[103, 112, 117, 45, 109, 101, 109, 111, 114, 121]⟩) true).run Ybaf.prog (w3.alloc o) = .ok (.tuple #[.int .i64 mib, .bool pm]) (w3.alloc o) := fun o => (HV.out _ (hb3a o).dev).2.2.1
                  cases pm
                  rotate_left
                  · obtain rfl : (zeroDm, false) = G := by rw [HGl.out]; simp [lastDm, (share_s h2 h3 : share xc = _), (share_w g4 g5 : share xr = _), sameDm, zeroDm, shareDm, wholeDm, gpuB]
                    clear HGl
                    clear HB2 hb3 hb3a hr6 HV hbl3
                    go_wp2_with (go_at_call 9; refine (errorfB ⟨#[103, 112, 117, 45, 109, 101, 109, 111, 114, 121]⟩ _ _ ?_).mono ?_; rotate_right; rintro e w' ⟨s, rfl, rfl⟩)
                    · refine bodyPost_ret (v := .tuple #[agg7 zeroDm, .iface 52 (.pointer (some ⟨w3.heap.size + 1 + 1, 0, none⟩))]) ?_ rfl ⟨_, rfl, .inr ⟨rfl, _, rfl⟩, ?_⟩
                      · simp [results, Ybaf.results6, go_sem, zeroDm, e0', e1', e2', e3', e4', e5', e6', c0, c1, c2, c3, c4, c5, c6, hs0, hs1, hs2, hs3, hs4]
                      · exact ((((bel_set7 hbw3 (Nat.le_succ _) _ _ _ _ _ _ _).al _).al _).al _).drew
                    all_goals (simp; done)
                  cases pc
                  · obtain rfl : (⟨⟨#[103, 112, 117]⟩, xr / 100, true, 100, 100, 0, false⟩, true) = G := by rw [HGl.out]; simp [lastDm, (share_s h2 h3 : share xc = _), (share_w g4 g5 : share xr = _), sameDm, zeroDm, shareDm, wholeDm, gpuB]
                    clear HGl
                    clear HB2 hb3 hb3a hr6 HV hbl3
                    go_wp2
                    refine bodyPost_ret (v := .tuple #[.agg #[.string ⟨#[103, 112, 117]⟩, .int .i64 (xr / 100), .bool true, .int .i64 100, .int .i64 100, .int .i64 0, .bool false], .nilIface]) ?_ rfl ⟨_, rfl, .inl ⟨rfl, rfl⟩, ?_⟩
                    · simp [results, Ybaf.results6, go_sem, e0', e1', e2', e3', e4', e5', e6', c0, c1, c2, c3, c4, c5, c6, hs0, hs1, hs2, hs3, hs4]
                    · exact (bel_set7 hbw3 (Nat.le_succ _) _ _ _ _ _ _ _).al _
                  cases pr
                  · obtain rfl : (⟨⟨#[103, 112, 117]⟩, xr / 100, true, 100, 100, 0, false⟩, true) = G := by rw [HGl.out]; simp [lastDm, (share_s h2 h3 : share xc = _), (share_w g4 g5 : share xr = _), sameDm, zeroDm, shareDm, wholeDm, gpuB]
                    clear HGl
                    clear HB2 hb3 hb3a hr6 HV hbl3
                    go_wp2
                    refine bodyPost_ret (v := .tuple #[.agg #[.string ⟨#[103, 112, 117]⟩, .int .i64 (xr / 100), .bool true, .int .i64 100, .int .i64 100, .int .i64 0, .bool false], .nilIface]) ?_ rfl ⟨_, rfl, .inl ⟨rfl, rfl⟩, ?_⟩
                    · simp [results, Ybaf.results6, go_sem, e0', e1', e2', e3', e4', e5', e6', c0, c1, c2, c3, c4, c5, c6, hs0, hs1, hs2, hs3, hs4]
                    · exact (bel_set7 hbw3 (Nat.le_succ _) _ _ _ _ _ _ _).al _
                  obtain rfl : (zeroDm, false) = G := by rw [HGl.out]; simp [lastDm, (share_s h2 h3 : share xc = _), (share_w g4 g5 : share xr = _), sameDm, zeroDm, shareDm, wholeDm, gpuB]
                  clear HGl
                  have L4 : ∀ o, (Instr.lookup 22 (.map (some B)) (.string ⟨#[103, 112, 117, 45, 99, 111, 114, 101]⟩) false).run Ybaf.prog (w3.alloc o) = .ok (.int .i64 xc) (w3.alloc o) := fun o => (HV.out _ (hb3a o).dev).2.2.2.1
                  have L5 : ∀ o, (Instr.lookup 22 (.map (some B)) (.string ⟨#[103, 112, 117, 45, 109, 101, 109, 111, 114, 121, 45, 114, 97, 116, 105, 111]⟩) false).run Ybaf.prog (w3.alloc o) = .ok (.int .i64 xr) (w3.alloc o) := fun o => (HV.out _ (hb3a o).dev).2.2.2.2
                  have HL4 : Hid (∀ o, (Instr.lookup 22 (.map (some B)) (.string ⟨#[103, 112, 117, 45, 99, 111, 114, 101]⟩) false).run Ybaf.prog (w3.alloc o) = .ok (.int .i64 xc) (w3.alloc o)) := L4
                  have HL5 : Hid (∀ o, (Instr.lookup 22 (.map (some B)) (.string ⟨#[103, 112, 117, 45, 109, 101, 109, 111, 114, 121, 45, 114, 97, 116, 105, 111]⟩) false).run Ybaf.prog (w3.alloc o) = .ok (.int .i64 xr) (w3.alloc o)) := L5
                  clear HB2 hb3 hb3a HV hbl3 L4 L5
                  go_wp2_with fail
                  refine (amount10 (hr6 _) (HL4.out _)).mono ?_
                  rintro e w' ⟨rfl, rfl⟩
                  go_wp2_with fail
                  refine (amount10 (hr6 _) (HL5.out _)).mono ?_
                  rintro e w' ⟨rfl, rfl⟩
                  go_wp2_with (go_at_call 9; refine (errorfC ⟨#[103, 112, 117, 45, 99, 111, 114, 101]⟩ ⟨#[103, 112, 117, 45, 109, 101, 109, 111, 114, 121, 45, 114, 97, 116, 105, 111]⟩ xc xr _ _ ?_ ?_ ?_ ?_).mono ?_; rotate_right; rintro e w' ⟨s, rfl, rfl⟩)
                  · refine bodyPost_ret (v := .tuple #[agg7 zeroDm, .iface 52 (.pointer (some ⟨w3.heap.size + 1 + 1, 0, none⟩))]) ?_ rfl ⟨_, rfl, .inr ⟨rfl, _, rfl⟩, ?_⟩
                    · simp [results, Ybaf.results6, go_sem, zeroDm, e0', e1', e2', e3', e4', e5', e6', c0, c1, c2, c3, c4, c5, c6, hs0, hs1, hs2, hs3, hs4]
                    · exact ((((bel_set7 hbw3 (Nat.le_succ _) _ _ _ _ _ _ _).al _).al _).al _).drew
                  all_goals (simp; done)
                · obtain rfl : (zeroDm, false) = G := by rw [HGl.out]; simp [lastDm, (share_n g4 g5 : share xr = _)]
                  clear HGl
                  refine (units12_bad (shared_n g4 g5) _ bl2 bh2 _).mono ?_
                  rintro e w3 ⟨p, rfl, hbl3⟩
                  have hb3 := (HB2.out _).next hB hfb hbl3
                  have hbw3 : Below w.heap.size w w3 := hb3.bw
                  have hz3 := hbl3.size
                  simp only [World.size_alloc] at hz3
                  obtain ⟨e0', e1', e2', e3', e4', e5', e6'⟩ := hb3.res
                  obtain ⟨f0', f1', f2', f3', f4', f5', f6'⟩ := hb3.unf
                  have hs0 : w.heap.size + 1 < w3.heap.size := by omega
                  have hs1 : w.heap.size + 1 < w3.heap.size + 1 := by omega
                  clear HB2 hb3 HV
                  go_wp2
                  refine bodyPost_ret (v := .tuple #[agg7 zeroDm, .iface 52 (.pointer (some p))]) ?_ rfl ⟨_, rfl, .inr ⟨rfl, _, rfl⟩, ?_⟩
                  · simp [results, Ybaf.results6, go_sem, zeroDm, e0', e1', e2', e3', e4', e5', e6', hs0, hs1]
                  · exact (bel_set7 hbw3 (Nat.le_succ _) _ _ _ _ _ _ _).al _
              have h4 : 100 < xc := by omega
              have h5 : xc % 100 = 0 := by omega
              clear h1 h2 h3
              refine (units12_ok (shared_w h4 h5) _ bl1 bh1 _).mono ?_
              rintro e w2 ⟨rfl, hbl⟩
              have hb2 := HB.out.next hB hfb hbl
              have hz2 := hb2.size
              have hb2a : ∀ o, Base w B fb fo q (w2.alloc o) := fun o => hb2.next hB hfb bel1
              have hb6' : ∀ o, (w2.alloc o).cell? ⟨w.heap.size, 6, none⟩ = some (.map (some B)) := fun o => (hb2a o).r6
              have L2 : ∀ o, (Instr.lookup 22 (.map (some B)) (.string ⟨#[103, 112, 117, 45, 109, 101, 109, 111, 114, 121, 45, 114, 97, 116, 105, 111]⟩) false).run Ybaf.prog (w2.alloc o) = .ok (.int .i64 xr) (w2.alloc o) := fun o => (HV.out _ (hb2a o).dev).2.2.2.2
              have HB2 : Hid (∀ o, Base w B fb fo q (w2.alloc o)) := hb2a
              clear e0 e1 e2 e3 e4 e5 e6 f0 f1 f2 f3 f4 f5 f6 HB hb6 hs0 hs1 hs2 hr0 hbw hb2 hb2a hbl
              go_wp2_with fail
              refine (amount10 (hb6' _) (L2 _)).mono ?_
              rintro e w' ⟨rfl, rfl⟩
              clear hb6' L2
              go_wp2_with fail
              by_cases g2 : xr = 0
              · subst g2
                refine (units12_ok (shared_z rfl) _ bl2 bh2 _).mono ?_
                rintro e w3 ⟨rfl, hbl3⟩
                have hb3 := (HB2.out _).next hB hfb hbl3
                have hbw3 : Below w.heap.size w w3 := hb3.bw
                have hz3 := hbl3.size
                simp only [World.size_alloc] at hz3
                obtain ⟨c0, c1, c2, c3, c4, c5, c6⟩ := keep7 hbl3
                obtain ⟨e0', e1', e2', e3', e4', e5', e6'⟩ := hb3.res
                obtain ⟨f0', f1', f2', f3', f4', f5', f6'⟩ := hb3.unf
                have hs0 : w.heap.size + 1 < w3.heap.size := by omega
                have hs1 : w.heap.size + 1 < w3.heap.size + 1 := by omega
                have hs2 : w.heap.size + 1 < w3.heap.size + 1 + 1 := by omega
                have hs3 : w2.heap.size < w3.heap.size := by omega
                have hs4 : w2.heap.size < w3.heap.size + 1 := by omega
                have hr6w := hb3.r6
                have hr0' : w.heap.size < w3.heap.size := by omega
                have hb3a : ∀ o, Base w B fb fo q (w3.alloc o) := fun o => hb3.next hB hfb bel1
                have hr6 : ∀ o, (w3.alloc o).cell? ⟨w.heap.size, 6, none⟩ = some (.map (some B)) := fun o => (hb3a o).r6
                have l1 : ∀ o, (Instr.lookup 22 (.map (some B)) (.string ⟨#[103, 112, 117, 45, 99, 111, 114, 101]⟩) true).run Ybaf.prog (w3.alloc o) = .ok (.tuple #[.int .i64 xc, .bool pc]) (w3.alloc o) := fun o => (HV.out _ (hb3a o).dev).1
                have l2 : ∀ o, (Instr.lookup 22 (.map (some B)) (.string ⟨#[103, 112, 117, 45, 109, 101, 109, 111, 114, 121, 45, 114, 97, 116, 105, 111]⟩) true).run Ybaf.prog (w3.alloc o) = .ok (.tuple #[.int .i64 0, .bool pr]) (w3.alloc o) := fun o => (HV.out _ (hb3a o).dev).2.1
                have l3 : ∀ o, (Instr.lookup 22 (.map (some B)) (.string ⟨#[103, 112, 117, 45, 109, 101, 109, 111, 114, 121]⟩) true).run Ybaf.prog (w3.alloc o) = .ok (.tuple #[.int .i64 mib, .bool pm]) (w3.alloc o) := fun o => (HV.out _ (hb3a o).dev).2.2.1
                cases pm
                rotate_left
                · obtain rfl : (zeroDm, false) = G := by rw [HGl.out]; simp [lastDm, (share_w h4 h5 : share xc = _), (share_z rfl : share 0 = _), sameDm, zeroDm, shareDm, wholeDm, gpuB]
                  clear HGl
                  clear HB2 hb3 hb3a hr6 HV hbl3
                  go_wp2_with (go_at_call 9; refine (errorfB ⟨#[103, 112, 117, 45, 109, 101, 109, 111, 114, 121]⟩ _ _ ?_).mono ?_; rotate_right; rintro e w' ⟨s, rfl, rfl⟩)
                  · refine bodyPost_ret (v := .tuple #[agg7 zeroDm, .iface 52 (.pointer (some ⟨w3.heap.size + 1 + 1, 0, none⟩))]) ?_ rfl ⟨_, rfl, .inr ⟨rfl, _, rfl⟩, ?_⟩
                    · simp [results, Ybaf.results6, go_sem, zeroDm, e0', e1', e2', e3', e4', e5', e6', c0, c1, c2, c3, c4, c5, c6, hs0, hs1, hs2, hs3, hs4]
                    · exact ((((bel_set7 hbw3 (Nat.le_succ _) _ _ _ _ _ _ _).al _).al _).al _).drew
                  all_goals (simp; done)
                cases pc
                · obtain rfl : (⟨⟨#[103, 112, 117]⟩, xc / 100, true, 100, 100, 0, false⟩, true) = G := by rw [HGl.out]; simp [lastDm, (share_w h4 h5 : share xc = _), (share_z rfl : share 0 = _), sameDm, zeroDm, shareDm, wholeDm, gpuB]
                  clear HGl
                  clear HB2 hb3 hb3a hr6 HV hbl3
                  go_wp2
                  refine bodyPost_ret (v := .tuple #[.agg #[.string ⟨#[103, 112, 117]⟩, .int .i64 (xc / 100), .bool true, .int .i64 100, .int .i64 100, .int .i64 0, .bool false], .nilIface]) ?_ rfl ⟨_, rfl, .inl ⟨rfl, rfl⟩, ?_⟩
                  · simp [results, Ybaf.results6, go_sem, e0', e1', e2', e3', e4', e5', e6', c0, c1, c2, c3, c4, c5, c6, hs0, hs1, hs2, hs3, hs4]
                  · exact (bel_set7 hbw3 (Nat.le_succ _) _ _ _ _ _ _ _).al _
                cases pr
                · obtain rfl : (⟨⟨#[103, 112, 117]⟩, xc / 100, true, 100, 100, 0, false⟩, true) = G := by rw [HGl.out]; simp [lastDm, (share_w h4 h5 : share xc = _), (share_z rfl : share 0 = _), sameDm, zeroDm, shareDm, wholeDm, gpuB]
                  clear HGl
                  clear HB2 hb3 hb3a hr6 HV hbl3
                  go_wp2
                  refine bodyPost_ret (v := .tuple #[.agg #[.string ⟨#[103, 112, 117]⟩, .int .i64 (xc / 100), .bool true, .int .i64 100, .int .i64 100, .int .i64 0, .bool false], .nilIface]) ?_ rfl ⟨_, rfl, .inl ⟨rfl, rfl⟩, ?_⟩
                  · simp [results, Ybaf.results6, go_sem, e0', e1', e2', e3', e4', e5', e6', c0, c1, c2, c3, c4, c5, c6, hs0, hs1, hs2, hs3, hs4]
                  · exact (bel_set7 hbw3 (Nat.le_succ _) _ _ _ _ _ _ _).al _
                obtain rfl : (zeroDm, false) = G := by rw [HGl.out]; simp [lastDm, (share_w h4 h5 : share xc = _), (share_z rfl : share 0 = _), sameDm, zeroDm, shareDm, wholeDm, gpuB]
                clear HGl
                have L4 : ∀ o, (Instr.lookup 22 (.map (some B)) (.string ⟨#[103, 112, 117, 45, 99, 111, 114, 101]⟩) false).run Ybaf.prog (w3.alloc o) = .ok (.int .i64 xc) (w3.alloc o) := fun o => (HV.out _ (hb3a o).dev).2.2.2.1
                have L5 : ∀ o, (Instr.lookup 22 (.map (some B)) (.string ⟨#[103, 112, 117, 45, 109, 101, 109, 111, 114, 121, 45, 114, 97, 116, 105, 111]⟩) false).run Ybaf.prog (w3.alloc o) = .ok (.int .i64 0) (w3.alloc o) := fun o => (HV.out _ (hb3a o).dev).2.2.2.2
                have HL4 : Hid (∀ o, (Instr.lookup 22 (.map (some B)) (.string ⟨#[103, 112, 117, 45, 99, 111, 114, 101]⟩) false).run Ybaf.prog (w3.alloc o) = .ok (.int .i64 xc) (w3.alloc o)) := L4
                have HL5 : Hid (∀ o, (Instr.lookup 22 (.map (some B)) (.string ⟨#[103, 112, 117, 45, 109, 101, 109, 111, 114, 121, 45, 114, 97, 116, 105, 111]⟩) false).run Ybaf.prog (w3.alloc o) = .ok (.int .i64 0) (w3.alloc o)) := L5
                clear HB2 hb3 hb3a HV hbl3 L4 L5
                go_wp2_with fail
                refine (amount10 (hr6 _) (HL4.out _)).mono ?_
                rintro e w' ⟨rfl, rfl⟩
                go_wp2_with fail
                refine (amount10 (hr6 _) (HL5.out _)).mono ?_
                rintro e w' ⟨rfl, rfl⟩
                go_wp2_with (go_at_call 9; refine (errorfC ⟨#[103, 112, 117, 45, 99, 111, 114, 101]⟩ ⟨#[103, 112, 117, 45, 109, 101, 109, 111, 114, 121, 45, 114, 97, 116, 105, 111]⟩ xc 0 _ _ ?_ ?_ ?_ ?_).mono ?_; rotate_right; rintro e w' ⟨s, rfl, rfl⟩)
                · refine bodyPost_ret (v := .tuple #[agg7 zeroDm, .iface 52 (.pointer (some ⟨w3.heap.size + 1 + 1, 0, none⟩))]) ?_ rfl ⟨_, rfl, .inr ⟨rfl, _, rfl⟩, ?_⟩
                  · simp [results, Ybaf.results6, go_sem, zeroDm, e0', e1', e2', e3', e4', e5', e6', c0, c1, c2, c3, c4, c5, c6, hs0, hs1, hs2, hs3, hs4]
                  · exact ((((bel_set7 hbw3 (Nat.le_succ _) _ _ _ _ _ _ _).al _).al _).al _).drew
                all_goals (simp; done)
              by_cases g3 : xr ≤ 100
              · refine (units12_ok (shared_s g2 g3) _ bl2 bh2 _).mono ?_
                rintro e w3 ⟨rfl, hbl3⟩
                have hb3 := (HB2.out _).next hB hfb hbl3
                have hbw3 : Below w.heap.size w w3 := hb3.bw
                have hz3 := hbl3.size
                simp only [World.size_alloc] at hz3
                obtain ⟨c0, c1, c2, c3, c4, c5, c6⟩ := keep7 hbl3
                obtain ⟨e0', e1', e2', e3', e4', e5', e6'⟩ := hb3.res
                obtain ⟨f0', f1', f2', f3', f4', f5', f6'⟩ := hb3.unf
                have hs0 : w.heap.size + 1 < w3.heap.size := by omega
                have hs1 : w.heap.size + 1 < w3.heap.size + 1 := by omega
                have hs2 : w.heap.size + 1 < w3.heap.size + 1 + 1 := by omega
                have hs3 : w2.heap.size < w3.heap.size := by omega
                have hs4 : w2.heap.size < w3.heap.size + 1 := by omega
                have hr6w := hb3.r6
                have hr0' : w.heap.size < w3.heap.size := by omega
                have hb3a : ∀ o, Base w B fb fo q (w3.alloc o) := fun o => hb3.next hB hfb bel1
                have hr6 : ∀ o, (w3.alloc o).cell? ⟨w.heap.size, 6, none⟩ = some (.map (some B)) := fun o => (hb3a o).r6
                have l1 : ∀ o, (Instr.lookup 22 (.map (some B)) (.string ⟨#[103, 112, 117, 45, 99, 111, 114, 101]⟩) true).run Ybaf.prog (w3.alloc o) = .ok (.tuple #[.int .i64 xc, .bool pc]) (w3.alloc o) := fun o => (HV.out _ (hb3a o).dev).1
                have l2 : ∀ o, (Instr.lookup 22 (.map (some B)) (.string ⟨#[103, 112, 117, 45, 109, 101, 109, 111, 114, 121, 45, 114, 97, 116, 105, 111]⟩) true).run Ybaf.prog (w3.alloc o) = .ok (.tuple #[.int .i64 xr, .bool pr]) (w3.alloc o) := fun o => (HV.out _ (hb3a o).dev).2.1
                have l3 : ∀ o, (Instr.lookup 22 (.map (some B)) (.string ⟨#[103, 112, 117, 45, 109, 101, 109, 111, 114, 121]⟩) true).run Ybaf.prog (w3.alloc o) = .ok (.tuple #[.int .i64 mib, .bool pm]) (w3.alloc o) := fun o => (HV.out _ (hb3a o).dev).2.2.1
                cases pm
                rotate_left
                · obtain rfl : (zeroDm, false) = G := by rw [HGl.out]; simp [lastDm, (share_w h4 h5 : share xc = _), (share_s g2 g3 : share xr = _), sameDm, zeroDm, shareDm, wholeDm, gpuB]
                  clear HGl
                  clear HB2 hb3 hb3a hr6 HV hbl3
                  go_wp2_with (go_at_call 9; refine (errorfB ⟨#[103, 112, 117, 45, 109, 101, 109, 111, 114, 121]⟩ _ _ ?_).mono ?_; rotate_right; rintro e w' ⟨s, rfl, rfl⟩)
                  · refine bodyPost_ret (v := .tuple #[agg7 zeroDm, .iface 52 (.pointer (some ⟨w3.heap.size + 1 + 1, 0, none⟩))]) ?_ rfl ⟨_, rfl, .inr ⟨rfl, _, rfl⟩, ?_⟩
                    · simp [results, Ybaf.results6, go_sem, zeroDm, e0', e1', e2', e3', e4', e5', e6', c0, c1, c2, c3, c4, c5, c6, hs0, hs1, hs2, hs3, hs4]
                    · exact ((((bel_set7 hbw3 (Nat.le_succ _) _ _ _ _ _ _ _).al _).al _).al _).drew
                  all_goals (simp; done)
                cases pc
                · obtain rfl : (⟨⟨#[103, 112, 117]⟩, xc / 100, true, 100, 100, 0, false⟩, true) = G := by rw [HGl.out]; simp [lastDm, (share_w h4 h5 : share xc = _), (share_s g2 g3 : share xr = _), sameDm, zeroDm, shareDm, wholeDm, gpuB]
                  clear HGl
                  clear HB2 hb3 hb3a hr6 HV hbl3
                  go_wp2
                  refine bodyPost_ret (v := .tuple #[.agg #[.string ⟨#[103, 112, 117]⟩, .int .i64 (xc / 100), .bool true, .int .i64 100, .int .i64 100, .int .i64 0, .bool false], .nilIface]) ?_ rfl ⟨_, rfl, .inl ⟨rfl, rfl⟩, ?_⟩
                  · simp [results, Ybaf.results6, go_sem, e0', e1', e2', e3', e4', e5', e6', c0, c1, c2, c3, c4, c5, c6, hs0, hs1, hs2, hs3, hs4]
                  · exact (bel_set7 hbw3 (Nat.le_succ _) _ _ _ _ _ _ _).al _
                cases pr
                · obtain rfl : (⟨⟨#[103, 112, 117]⟩, xc / 100, true, 100, 100, 0, false⟩, true) = G := by rw [HGl.out]; simp [lastDm, (share_w h4 h5 : share xc = _), (share_s g2 g3 : share xr = _), sameDm, zeroDm, shareDm, wholeDm, gpuB]
                  clear HGl
                  clear HB2 hb3 hb3a hr6 HV hbl3
                  go_wp2
                  refine bodyPost_ret (v := .tuple #[.agg #[.string ⟨#[103, 112, 117]⟩, .int .i64 (xc / 100), .bool true, .int .i64 100, .int .i64 100, .int .i64 0, .bool false], .nilIface]) ?_ rfl ⟨_, rfl, .inl ⟨rfl, rfl⟩, ?_⟩
                  · simp [results, Ybaf.results6, go_sem, e0', e1', e2', e3', e4', e5', e6', c0, c1, c2, c3, c4, c5, c6, hs0, hs1, hs2, hs3, hs4]
                  · exact (bel_set7 hbw3 (Nat.le_succ _) _ _ _ _ _ _ _).al _
                obtain rfl : (zeroDm, false) = G := by rw [HGl.out]; simp [lastDm, (share_w h4 h5 : share xc = _), (share_s g2 g3 : share xr = _), sameDm, zeroDm, shareDm, wholeDm, gpuB]
                clear HGl
                have L4 : ∀ o, (Instr.lookup 22 (.map (some B)) (.string ⟨#[103, 112, 117, 45, 99, 111, 114, 101]⟩) false).run Ybaf.prog (w3.alloc o) = .ok (.int .i64 xc) (w3.alloc o) := fun o => (HV.out _ (hb3a o).dev).2.2.2.1
                have L5 : ∀ o, (Instr.lookup 22 (.map (some B)) (.string ⟨#[103, 112, 117, 45, 109, 101, 109, 111, 114, 121, 45, 114, 97, 116, 105, 111]⟩) false).run Ybaf.prog (w3.alloc o) = .ok (.int .i64 xr) (w3.alloc o) := fun o => (HV.out _ (hb3a o).dev).2.2.2.2
                have HL4 : Hid (∀ o, (Instr.lookup 22 (.map (some B)) (.string ⟨#[103, 112, 117, 45, 99, 111, 114, 101]⟩) false).run Ybaf.prog (w3.alloc o) = .ok (.int .i64 xc) (w3.alloc o)) := L4
                have HL5 : Hid (∀ o, (Instr.lookup 22 (.map (some B)) (.string ⟨#[103, 112, 117, 45, 109, 101, 109, 111, 114, 121, 45, 114, 97, 116, 105, 111]⟩) false).run Ybaf.prog (w3.alloc o) = .ok (.int .i64 xr) (w3.alloc o)) := L5
                clear HB2 hb3 hb3a HV hbl3 L4 L5
                go_wp2_with fail
                refine (amount10 (hr6 _) (HL4.out _)).mono ?_
                rintro e w' ⟨rfl, rfl⟩
                go_wp2_with fail
                refine (amount10 (hr6 _) (HL5.out _)).mono ?_
                rintro e w' ⟨rfl, rfl⟩
                go_wp2_with (go_at_call 9; refine (errorfC ⟨#[103, 112, 117, 45, 99, 111, 114, 101]⟩ ⟨#[103, 112, 117, 45, 109, 101, 109, 111, 114, 121, 45, 114, 97, 116, 105, 111]⟩ xc xr _ _ ?_ ?_ ?_ ?_).mono ?_; rotate_right; rintro e w' ⟨s, rfl, rfl⟩)
                · refine bodyPost_ret (v := .tuple #[agg7 zeroDm, .iface 52 (.pointer (some ⟨w3.heap.size + 1 + 1, 0, none⟩))]) ?_ rfl ⟨_, rfl, .inr ⟨rfl, _, rfl⟩, ?_⟩
                  · simp [results, Ybaf.results6, go_sem, zeroDm, e0', e1', e2', e3', e4', e5', e6', c0, c1, c2, c3, c4, c5, c6, hs0, hs1, hs2, hs3, hs4]
                  · exact ((((bel_set7 hbw3 (Nat.le_succ _) _ _ _ _ _ _ _).al _).al _).al _).drew
                all_goals (simp; done)
              have g4 : 100 < xr := by omega
              clear g2 g3
              by_cases g5 : xr % 100 = 0
              · refine (units12_ok (shared_w g4 g5) _ bl2 bh2 _).mono ?_
                rintro e w3 ⟨rfl, hbl3⟩
                have hb3 := (HB2.out _).next hB hfb hbl3
                have hbw3 : Below w.heap.size w w3 := hb3.bw
                have hz3 := hbl3.size
                simp only [World.size_alloc] at hz3
                obtain ⟨c0, c1, c2, c3, c4, c5, c6⟩ := keep7 hbl3
                obtain ⟨e0', e1', e2', e3', e4', e5', e6'⟩ := hb3.res
                obtain ⟨f0', f1', f2', f3', f4', f5', f6'⟩ := hb3.unf
                have hs0 : w.heap.size + 1 < w3.heap.size := by omega
                have hs1 : w.heap.size + 1 < w3.heap.size + 1 := by omega
                have hs2 : w.heap.size + 1 < w3.heap.size + 1 + 1 := by omega
                have hs3 : w2.heap.size < w3.heap.size := by omega
                have hs4 : w2.heap.size < w3.heap.size + 1 := by omega
                have hr6w := hb3.r6
                have hr0' : w.heap.size < w3.heap.size := by omega
                have hb3a : ∀ o, Base w B fb fo q (w3.alloc o) := fun o => hb3.next hB hfb bel1
                have hr6 : ∀ o, (w3.alloc o).cell? ⟨w.heap.size, 6, none⟩ = some (.map (some B)) := fun o => (hb3a o).r6
                have l1 : ∀ o, (Instr.lookup 22 (.map (some B)) (.string ⟨#[103, 112, 117, 45, 99, 111, 114, 101]⟩) true).run Ybaf.prog (w3.alloc o) = .ok (.tuple #[.int .i64 xc, .bool pc]) (w3.alloc o) := fun o => (HV.out _ (hb3a o).dev).1
                have l2 : ∀ o, (Instr.lookup 22 (.map (some B)) (.string ⟨#[103, 112, 117, 45, 109, 101, 109, 111, 114, 121, 45, 114, 97, 116, 105, 111]⟩) true).run Ybaf.prog (w3.alloc o) = .ok (.tuple #[.int .i64 xr, .bool pr]) (w3.alloc o) := fun o => (HV.out _ (hb3a o).dev).2.1
                have l3 : ∀ o, (Instr.lookup 22 (.map (some B)) (.string ⟨#[103, 112, 117, 45, 109, 101, 109, 111, 114, 121]⟩) true).run Ybaf.prog (w3.alloc o) = .ok (.tuple #[.int .i64 mib, .bool pm]) (w3.alloc o) := fun o => (HV.out _ (hb3a o).dev).2.2.1
                cases pm
                rotate_left
                · obtain rfl : (zeroDm, false) = G := by rw [HGl.out]; simp [lastDm, (share_w h4 h5 : share xc = _), (share_w g4 g5 : share xr = _), sameDm, zeroDm, shareDm, wholeDm, gpuB]
                  clear HGl
                  clear HB2 hb3 hb3a hr6 HV hbl3
                  go_wp2_with (go_at_call 9; refine (errorfB ⟨#[103, 112, 117, 45, 109, 101, 109, 111, 114, 121]⟩ _ _ ?_).mono ?_; rotate_right; rintro e w' ⟨s, rfl, rfl⟩)
                  · refine bodyPost_ret (v := .tuple #[agg7 zeroDm, .iface 52 (.pointer (some ⟨w3.heap.size + 1 + 1, 0, none⟩))]) ?_ rfl ⟨_, rfl, .inr ⟨rfl, _, rfl⟩, ?_⟩
                    · simp [results, Ybaf.results6, go_sem, zeroDm, e0', e1', e2', e3', e4', e5', e6', c0, c1, c2, c3, c4, c5, c6, hs0, hs1, hs2, hs3, hs4]
                    · exact ((((bel_set7 hbw3 (Nat.le_succ _) _ _ _ _ _ _ _).al _).al _).al _).drew
                  all_goals (simp; done)
                cases pc
                · obtain rfl : (⟨⟨#[103, 112, 117]⟩, xc / 100, true, 100, 100, 0, false⟩, true) = G := by rw [HGl.out]; simp [lastDm, (share_w h4 h5 : share xc = _), (share_w g4 g5 : share xr = _), sameDm, zeroDm, shareDm, wholeDm, gpuB]
                  clear HGl
                  clear HB2 hb3 hb3a hr6 HV hbl3
                  go_wp2
                  refine bodyPost_ret (v := .tuple #[.agg #[.string ⟨#[103, 112, 117]⟩, .int .i64 (xc / 100), .bool true, .int .i64 100, .int .i64 100, .int .i64 0, .bool false], .nilIface]) ?_ rfl ⟨_, rfl, .inl ⟨rfl, rfl⟩, ?_⟩
                  · simp [results, Ybaf.results6, go_sem, e0', e1', e2', e3', e4', e5', e6', c0, c1, c2, c3, c4, c5, c6, hs0, hs1, hs2, hs3, hs4]
                  · exact (bel_set7 hbw3 (Nat.le_succ _) _ _ _ _ _ _ _).al _
                cases pr
                · obtain rfl : (⟨⟨#[103, 112, 117]⟩, xc / 100, true, 100, 100, 0, false⟩, true) = G := by rw [HGl.out]; simp [lastDm, (share_w h4 h5 : share xc = _), (share_w g4 g5 : share xr = _), sameDm, zeroDm, shareDm, wholeDm, gpuB]
                  clear HGl
                  clear HB2 hb3 hb3a hr6 HV hbl3
                  go_wp2
                  refine bodyPost_ret (v := .tuple #[.agg #[.string ⟨#[103, 112, 117]⟩, .int .i64 (xc / 100), .bool true, .int .i64 100, .int .i64 100, .int .i64 0, .bool false], .nilIface]) ?_ rfl ⟨_, rfl, .inl ⟨rfl, rfl⟩, ?_⟩
                  · simp [results, Ybaf.results6, go_sem, e0', e1', e2', e3', e4', e5', e6', c0, c1, c2, c3, c4, c5, c6, hs0, hs1, hs2, hs3, hs4]
                  · exact (bel_set7 hbw3 (Nat.le_succ _) _ _ _ _ _ _ _).al _
                by_cases hcr : xc / 100 = xr / 100
                · obtain rfl : (⟨⟨#[103, 112, 117]⟩, xc / 100, true, 100, 100, 0, false⟩, true) = G := by rw [HGl.out]; simp [lastDm, (share_w h4 h5 : share xc = _), (share_w g4 g5 : share xr = _), sameDm, zeroDm, shareDm, wholeDm, gpuB, hcr]
                  clear HGl
                  have hcr' : (xc / 100 == xr / 100) = true := beq_iff_eq.2 hcr
                  have HCR : Hid (xc / 100 = xr / 100) := hcr
                  clear hcr
                  clear HB2 hb3 hb3a hr6 HV hbl3
                  go_wp2
                  refine bodyPost_ret (v := .tuple #[.agg #[.string ⟨#[103, 112, 117]⟩, .int .i64 (xc / 100), .bool true, .int .i64 100, .int .i64 100, .int .i64 0, .bool false], .nilIface]) ?_ rfl ⟨_, rfl, .inl ⟨rfl, rfl⟩, ?_⟩
                  · simp [results, Ybaf.results6, go_sem, e0', e1', e2', e3', e4', e5', e6', c0, c1, c2, c3, c4, c5, c6, hs0, hs1, hs2, hs3, hs4]
                  · exact (bel_set7 hbw3 (Nat.le_succ _) _ _ _ _ _ _ _).al _
                obtain rfl : (zeroDm, false) = G := by rw [HGl.out]; simp [lastDm, (share_w h4 h5 : share xc = _), (share_w g4 g5 : share xr = _), sameDm, zeroDm, shareDm, wholeDm, gpuB, hcr]
                clear HGl
                have L4 : ∀ o, (Instr.lookup 22 (.map (some B)) (.string ⟨#[103, 112, 117, 45, 99, 111, 114, 101]⟩) false).run Ybaf.prog (w3.alloc o) = .ok (.int .i64 xc) (w3.alloc o) := fun o => (HV.out _ (hb3a o).dev).2.2.2.1
                have L5 : ∀ o, (Instr.lookup 22 (.map (some B)) (.string ⟨#[103, 112, 117, 45, 109, 101, 109, 111, 114, 121, 45, 114, 97, 116, 105, 111]⟩) false).run Ybaf.prog (w3.alloc o) = .ok (.int .i64 xr) (w3.alloc o) := fun o => (HV.out _ (hb3a o).dev).2.2.2.2
                have HL4 : Hid (∀ o, (Instr.lookup 22 (.map (some B)) (.string ⟨#[103, 112, 117, 45, 99, 111, 114, 101]⟩) false).run Ybaf.prog (w3.alloc o) = .ok (.int .i64 xc) (w3.alloc o)) := L4
                have HL5 : Hid (∀ o, (Instr.lookup 22 (.map (some B)) (.string ⟨#[103, 112, 117, 45, 109, 101, 109, 111, 114, 121, 45, 114, 97, 116, 105, 111]⟩) false).run Ybaf.prog (w3.alloc o) = .ok (.int .i64 xr) (w3.alloc o)) := L5
                clear HB2 hb3 hb3a HV hbl3 L4 L5
                go_wp2_with fail
                refine (amount10 (hr6 _) (HL4.out _)).mono ?_
                rintro e w' ⟨rfl, rfl⟩
                go_wp2_with fail
                refine (amount10 (hr6 _) (HL5.out _)).mono ?_
                rintro e w' ⟨rfl, rfl⟩
                go_wp2_with (go_at_call 9; refine (errorfC ⟨#[103, 112, 117, 45, 99, 111, 114, 101]⟩ ⟨#[103, 112, 117, 45, 109, 101, 109, 111, 114, 121, 45, 114, 97, 116, 105, 111]⟩ xc xr _ _ ?_ ?_ ?_ ?_).mono ?_; rotate_right; rintro e w' ⟨s, rfl, rfl⟩)
                · refine bodyPost_ret (v := .tuple #[agg7 zeroDm, .iface 52 (.pointer (some ⟨w3.heap.size + 1 + 1, 0, none⟩))]) ?_ rfl ⟨_, rfl, .inr ⟨rfl, _, rfl⟩, ?_⟩
                  · simp [results, Ybaf.results6, go_sem, zeroDm, e0', e1', e2', e3', e4', e5', e6', c0, c1, c2, c3, c4, c5, c6, hs0, hs1, hs2, hs3, hs4]
                  · exact ((((bel_set7 hbw3 (Nat.le_succ _) _ _ _ _ _ _ _).al _).al _).al _).drew
                all_goals (simp; done)
              · obtain rfl : (zeroDm, false) = G := by rw [HGl.out]; simp [lastDm, (share_n g4 g5 : share xr = _)]
                clear HGl
                refine (units12_bad (shared_n g4 g5) _ bl2 bh2 _).mono ?_
                rintro e w3 ⟨p, rfl, hbl3⟩
                have hb3 := (HB2.out _).next hB hfb hbl3
                have hbw3 : Below w.heap.size w w3 := hb3.bw
                have hz3 := hbl3.size
                simp only [World.size_alloc] at hz3
                obtain ⟨e0', e1', e2', e3', e4', e5', e6'⟩ := hb3.res
                obtain ⟨f0', f1', f2', f3', f4', f5', f6'⟩ := hb3.unf
                have hs0 : w.heap.size + 1 < w3.heap.size := by omega
                have hs1 : w.heap.size + 1 < w3.heap.size + 1 := by omega
                clear HB2 hb3 HV
                go_wp2
                refine bodyPost_ret (v := .tuple #[agg7 zeroDm, .iface 52 (.pointer (some p))]) ?_ rfl ⟨_, rfl, .inr ⟨rfl, _, rfl⟩, ?_⟩
                · simp [results, Ybaf.results6, go_sem, zeroDm, e0', e1', e2', e3', e4', e5', e6', hs0, hs1]
                · exact (bel_set7 hbw3 (Nat.le_succ _) _ _ _ _ _ _ _).al _
end Go.Proofs.YbulkabnaFmt
