/-
  Div64 at any two words: it returns some two words.
-/
import Derived.Test.YbulkabnoNorm
namespace Go.Proofs.Ybulkabno
open Go.RowKit Go.Shelf
set_option linter.unusedVariables false
set_option linter.unusedSimpArgs false
theorem word_wrap (a : Int) : 0 ≤ IntKind.u64.wrap a ∧ IntKind.u64.wrap a < 18446744073709551616 := by rw [IntKind.wrap_u64]; omega
theorem word_bits (op : BinOp) (a b : Int) : 0 ≤ bits op .u64 a b ∧ bits op .u64 a b < 18446744073709551616 := by
  have := bits_within op .u64 a b
  simp [IntKind.min, IntKind.max, IntKind.signed, IntKind.bits] at this
  omega
/-- What is left of U over y, as the text reckons it. -/
theorem rest_word (U y : Int) (h0 : 0 ≤ U) (h1 : U < 18446744073709551616) (hy : 1 ≤ y) : 0 ≤ U / y ∧ U / y < 18446744073709551616 ∧ IntKind.u64.wrap (U - IntKind.u64.wrap (U / y * y)) = U % y ∧ 0 ≤ U % y ∧ U % y < y := by
  have e := Int.mul_ediv_add_emod U y
  have m0 := Int.emod_nonneg U (show y ≠ 0 by omega)
  have m1 := Int.emod_lt_of_pos U (show 0 < y by omega)
  have q0 : 0 ≤ U / y := Int.ediv_nonneg h0 (by omega)
  have q1 : U / y ≤ U := Int.ediv_le_self _ h0
  have c : U / y * y = y * (U / y) := Int.mul_comm _ _
  obtain ⟨P, hP⟩ : ∃ P, U / y * y = P := ⟨_, rfl⟩
  rw [← c, hP] at e
  rw [hP]
  have p0 : 0 ≤ P := by rw [← hP]; exact Int.mul_nonneg q0 (by omega)
  refine ⟨q0, by omega, ?_, m0, m1⟩
  rw [IntKind.wrap_u64, IntKind.wrap_u64]
  omega

theorem word_shr (a : Int) (s : Nat) : 0 ≤ IntKind.u64.wrap a / 2 ^ s ∧ IntKind.u64.wrap a / 2 ^ s < 18446744073709551616 := by
  obtain ⟨h0, h1⟩ := word_wrap a
  have h2 : (0 : Int) ≤ 2 ^ s := Int.le_of_lt (Int.pow_pos (by decide))
  have := Int.ediv_le_self (2 ^ s) h0
  exact ⟨Int.ediv_nonneg h0 h2, by omega⟩

set_option maxRecDepth 100000 in
set_option maxHeartbeats 4000000 in
theorem div64_any (hi lo d : Int) (i0 : 1 ≤ hi) (i1 : hi < d) (h0 : 0 ≤ lo) (h1 : lo < 18446744073709551616) (hd' : d < 18446744073709551616) (w : World) :
    Calls Yba.prog 18 #[.int .u64 hi, .int .u64 lo, .int .u64 d] w fun e w' => ∃ q r, (0 ≤ q ∧ q < 18446744073709551616) ∧ (0 ≤ r ∧ r < 18446744073709551616) ∧ e = .returned (.tuple #[.int .u64 q, .int .u64 r]) ∧ ∃ n, w' = w.drewN n := by
  have q1 : (d == 0) = false := by simp; omega
  have q2 : ¬ d ≤ hi := by omega
  have q3 : (hi == 0) = false := by simp; omega
  have hlz := Yba.bits_LeadingZeros64 d w (by omega) (by omega)
  obtain ⟨s, hs, s0, s1, Y0, Y1⟩ := norm d (by omega) hd'
  rw [hs] at hlz
  obtain ⟨Y, hY⟩ : ∃ Y, d * 2 ^ s.toNat = Y := ⟨_, rfl⟩
  rw [hY] at Y0 Y1
  have hWY : IntKind.u64.wrap (d * 2 ^ s.toNat) = Y := by rw [hY, IntKind.wrap_u64]; omega
  obtain ⟨y0, hy0⟩ : ∃ y0, bits BinOp.and IntKind.u64 Y 4294967295 = y0 := ⟨_, rfl⟩
  obtain ⟨u1, hu1⟩ : ∃ u1, IntKind.u64.wrap (hi * 2 ^ s.toNat) = u1 := ⟨_, rfl⟩
  obtain ⟨u2, hu2⟩ : ∃ u2, lo / 2 ^ (64 - s).toNat = u2 := ⟨_, rfl⟩
  obtain ⟨U, hU⟩ : ∃ U, bits BinOp.or IntKind.u64 u1 u2 = U := ⟨_, rfl⟩
  obtain ⟨T, hT⟩ : ∃ T, IntKind.u64.wrap (lo * 2 ^ s.toNat) = T := ⟨_, rfl⟩
  obtain ⟨t0, ht0⟩ : ∃ t0, bits BinOp.and IntKind.u64 T 4294967295 = t0 := ⟨_, rfl⟩
  obtain ⟨t1, ht1⟩ : ∃ t1, T / 4294967296 = t1 := ⟨_, rfl⟩
  obtain ⟨y1, hy1⟩ : ∃ y1, Y / 4294967296 = y1 := ⟨_, rfl⟩
  obtain ⟨Ua, Ub⟩ : 0 ≤ U ∧ U < 18446744073709551616 := by rw [← hU]; exact word_bits _ _ _
  obtain ⟨ya, yb⟩ : 2147483648 ≤ y1 ∧ y1 < 4294967296 := by omega
  obtain ⟨Ta, Tb⟩ : 0 ≤ T ∧ T < 18446744073709551616 := by rw [← hT]; exact word_wrap _
  obtain ⟨ta, tb⟩ : 0 ≤ t1 ∧ t1 < 4294967296 := by omega
  obtain ⟨za, zb⟩ : 0 ≤ t0 ∧ t0 < 4294967296 := by rw [← ht0, and_low32 T Ta Tb]; omega
  have hyz : (y1 == 0) = false := by simp; omega
  obtain ⟨Qa, Qb, hR, Ra, Rb⟩ := rest_word U y1 Ua Ub (by omega)
  obtain ⟨Q, hQ⟩ : ∃ Q, U / y1 = Q := ⟨_, rfl⟩
  rw [hQ] at Qa Qb hR
  obtain ⟨R, hR'⟩ : ∃ R, U % y1 = R := ⟨_, rfl⟩
  rw [hR'] at hR Ra Rb
  have Rc : R < 4294967296 := by omega
  clear hs hY hR'
  go_enter Yba.func18, Yba.ntmps18
  go_wp2_with fail
  refine hlz.mono ?_
  rintro e w1 ⟨rfl, hw1⟩
  rw [hw1]
  clear hw1 w1 hlz
  go_upto_region 17 with fail
  rw [hQ]
  have ha : 0 ≤ Q ∧ Q < 18446744073709551616 := ⟨Qa, Qb⟩
  have HS : Hid ((0 ≤ Q ∧ Q < 18446744073709551616) ∧ 0 ≤ R ∧ R < 4294967296) := ⟨ha, Ra, Rc⟩
  clear ha hQ hR Qa Qb Ra Rb Rc hy1 ht1 ht0 hT hU hu2 hu1 hy0 hWY q1 q2 q3 hyz
  go_loopg [15, 16] (4294967296 - R).toNat (fun k qv rv wr => w = wr ∧ ∃ q rh : Int, qv = .int .u64 q ∧ rv = .int .u64 rh ∧ (0 ≤ q ∧ q < 18446744073709551616) ∧ (0 ≤ rh ∧ rh < 4294967296) ∧ k = (4294967296 - rh).toNat)
  case atStart => exact ⟨rfl, Q, R, rfl, rfl, HS.out.1, HS.out.2, rfl⟩
  case round =>
    obtain ⟨rfl, q, rh, rfl, rfl, ⟨qa, qb⟩, ⟨ra, rb⟩, rfl⟩ := hrel
    obtain ⟨a, ha⟩ : ∃ a, IntKind.u64.wrap (q * y0) = a := ⟨_, rfl⟩
    by_cases g1 : 4294967296 ≤ q
    · by_cases g3 : 4294967296 ≤ rh + y1
      · obtain ⟨V, hV⟩ : ∃ V, IntKind.u64.wrap (IntKind.u64.wrap (IntKind.u64.wrap (U * 4294967296) + t1) - IntKind.u64.wrap ((q - 1) * Y)) = V := ⟨_, rfl⟩
        obtain ⟨Va, Vb⟩ : 0 ≤ V ∧ V < 18446744073709551616 := by rw [← hV]; exact word_wrap _
        obtain ⟨Qa, Qb, hR, Ra, Rb⟩ := rest_word V y1 Va Vb (by omega)
        obtain ⟨Q2, hQ2⟩ : ∃ Q2, V / y1 = Q2 := ⟨_, rfl⟩
        rw [hQ2] at Qa Qb hR
        obtain ⟨R2, hR2⟩ : ∃ R2, V % y1 = R2 := ⟨_, rfl⟩
        rw [hR2] at hR Ra Rb
        have hyz : (y1 == 0) = false := by simp; omega
        have Rc : R2 < 4294967296 := by omega
        clear hR2
        go_upto_region 24 with fail
        have HQ2 : Hid (V / y1 = Q2) := hQ2
        clear hV hQ2 hR hyz ha
        have HS2 : Hid ((0 ≤ Q2 ∧ Q2 < 18446744073709551616) ∧ 0 ≤ R2 ∧ R2 < 4294967296) := ⟨⟨Qa, Qb⟩, Ra, Rc⟩
        clear Qa Qb Ra Rb Rc
        go_loopg [18, 16] (4294967296 - R2).toNat (fun k qv rv wr => w = wr ∧ ∃ q rh : Int, qv = .int .u64 q ∧ rv = .int .u64 rh ∧ (0 ≤ q ∧ q < 18446744073709551616) ∧ (0 ≤ rh ∧ rh < 4294967296) ∧ k = (4294967296 - rh).toNat)
        case atStart => first | exact ⟨rfl, Q2, R2, rfl, rfl, HS2.out.1, HS2.out.2, rfl⟩ | exact ⟨rfl, Q2, R2, by rw [HQ2.out], rfl, HS2.out.1, HS2.out.2, rfl⟩
        case round =>
          obtain ⟨rfl, q0, rh0, rfl, rfl, ⟨qa0, qb0⟩, ⟨ra0, rb0⟩, rfl⟩ := hrel
          obtain ⟨a, ha⟩ : ∃ a, IntKind.u64.wrap (q0 * y0) = a := ⟨_, rfl⟩
          by_cases g1 : 4294967296 ≤ q0
          · by_cases g3 : 4294967296 ≤ rh0 + y1
            · go_wp2
              simp [bodyPost, results, Yba.results18, go_sem]
              refine ⟨_, ?_, _, ?_, ⟨rfl, rfl⟩, 0, rfl⟩
              · first | exact word_wrap _ | (constructor <;> omega)
              · exact word_shr _ _
            · have hw := word_wrap (q0 - 1)
              go_wp2
              go_roundg (4294967296 - (rh0 + y1)).toNat
              case rel => first | exact ⟨rfl, _, _, rfl, rfl, hw, ⟨by omega, by omega⟩, rfl⟩ | exact ⟨rfl, _, _, rfl, rfl, ⟨by omega, by omega⟩, ⟨by omega, by omega⟩, rfl⟩
              case measure => omega
          · by_cases g2 : 4294967296 * rh0 + t0 < a
            · by_cases g3 : 4294967296 ≤ rh0 + y1
              · go_wp2
                simp [bodyPost, results, Yba.results18, go_sem]
                refine ⟨_, ?_, _, ?_, ⟨rfl, rfl⟩, 0, rfl⟩
                · first | exact word_wrap _ | (constructor <;> omega)
                · exact word_shr _ _
              · have hw := word_wrap (q0 - 1)
                go_wp2
                go_roundg (4294967296 - (rh0 + y1)).toNat
                case rel => first | exact ⟨rfl, _, _, rfl, rfl, hw, ⟨by omega, by omega⟩, rfl⟩ | exact ⟨rfl, _, _, rfl, rfl, ⟨by omega, by omega⟩, ⟨by omega, by omega⟩, rfl⟩
                case measure => omega
            · go_wp2
              simp [bodyPost, results, Yba.results18, go_sem]
              refine ⟨_, ?_, _, ?_, ⟨rfl, rfl⟩, 0, rfl⟩
              · first | exact word_wrap _ | (constructor <;> omega)
              · exact word_shr _ _
      · have hw := word_wrap (q - 1)
        go_wp2
        go_roundg (4294967296 - (rh + y1)).toNat
        case rel => first | exact ⟨rfl, _, _, rfl, rfl, hw, ⟨by omega, by omega⟩, rfl⟩ | exact ⟨rfl, _, _, rfl, rfl, ⟨by omega, by omega⟩, ⟨by omega, by omega⟩, rfl⟩
        case measure => omega
    · by_cases g2 : 4294967296 * rh + t1 < a
      · by_cases g3 : 4294967296 ≤ rh + y1
        · obtain ⟨V, hV⟩ : ∃ V, IntKind.u64.wrap (IntKind.u64.wrap (IntKind.u64.wrap (U * 4294967296) + t1) - IntKind.u64.wrap (IntKind.u64.wrap (q - 1) * Y)) = V := ⟨_, rfl⟩
          obtain ⟨Va, Vb⟩ : 0 ≤ V ∧ V < 18446744073709551616 := by rw [← hV]; exact word_wrap _
          obtain ⟨Qa, Qb, hR, Ra, Rb⟩ := rest_word V y1 Va Vb (by omega)
          obtain ⟨Q2, hQ2⟩ : ∃ Q2, V / y1 = Q2 := ⟨_, rfl⟩
          rw [hQ2] at Qa Qb hR
          obtain ⟨R2, hR2⟩ : ∃ R2, V % y1 = R2 := ⟨_, rfl⟩
          rw [hR2] at hR Ra Rb
          have hyz : (y1 == 0) = false := by simp; omega
          have Rc : R2 < 4294967296 := by omega
          clear hR2
          go_upto_region 24 with fail
          have HQ2 : Hid (V / y1 = Q2) := hQ2
          clear hV hQ2 hR hyz ha
          have HS2 : Hid ((0 ≤ Q2 ∧ Q2 < 18446744073709551616) ∧ 0 ≤ R2 ∧ R2 < 4294967296) := ⟨⟨Qa, Qb⟩, Ra, Rc⟩
          clear Qa Qb Ra Rb Rc
          go_loopg [18, 16] (4294967296 - R2).toNat (fun k qv rv wr => w = wr ∧ ∃ q rh : Int, qv = .int .u64 q ∧ rv = .int .u64 rh ∧ (0 ≤ q ∧ q < 18446744073709551616) ∧ (0 ≤ rh ∧ rh < 4294967296) ∧ k = (4294967296 - rh).toNat)
          case atStart => first | exact ⟨rfl, Q2, R2, rfl, rfl, HS2.out.1, HS2.out.2, rfl⟩ | exact ⟨rfl, Q2, R2, by rw [HQ2.out], rfl, HS2.out.1, HS2.out.2, rfl⟩
          case round =>
            obtain ⟨rfl, q0, rh0, rfl, rfl, ⟨qa0, qb0⟩, ⟨ra0, rb0⟩, rfl⟩ := hrel
            obtain ⟨a, ha⟩ : ∃ a, IntKind.u64.wrap (q0 * y0) = a := ⟨_, rfl⟩
            by_cases g1 : 4294967296 ≤ q0
            · by_cases g3 : 4294967296 ≤ rh0 + y1
              · go_wp2
                simp [bodyPost, results, Yba.results18, go_sem]
                refine ⟨_, ?_, _, ?_, ⟨rfl, rfl⟩, 0, rfl⟩
                · first | exact word_wrap _ | (constructor <;> omega)
                · exact word_shr _ _
              · have hw := word_wrap (q0 - 1)
                go_wp2
                go_roundg (4294967296 - (rh0 + y1)).toNat
                case rel => first | exact ⟨rfl, _, _, rfl, rfl, hw, ⟨by omega, by omega⟩, rfl⟩ | exact ⟨rfl, _, _, rfl, rfl, ⟨by omega, by omega⟩, ⟨by omega, by omega⟩, rfl⟩
                case measure => omega
            · by_cases g2 : 4294967296 * rh0 + t0 < a
              · by_cases g3 : 4294967296 ≤ rh0 + y1
                · go_wp2
                  simp [bodyPost, results, Yba.results18, go_sem]
                  refine ⟨_, ?_, _, ?_, ⟨rfl, rfl⟩, 0, rfl⟩
                  · first | exact word_wrap _ | (constructor <;> omega)
                  · exact word_shr _ _
                · have hw := word_wrap (q0 - 1)
                  go_wp2
                  go_roundg (4294967296 - (rh0 + y1)).toNat
                  case rel => first | exact ⟨rfl, _, _, rfl, rfl, hw, ⟨by omega, by omega⟩, rfl⟩ | exact ⟨rfl, _, _, rfl, rfl, ⟨by omega, by omega⟩, ⟨by omega, by omega⟩, rfl⟩
                  case measure => omega
              · go_wp2
                simp [bodyPost, results, Yba.results18, go_sem]
                refine ⟨_, ?_, _, ?_, ⟨rfl, rfl⟩, 0, rfl⟩
                · first | exact word_wrap _ | (constructor <;> omega)
                · exact word_shr _ _
        · have hw := word_wrap (q - 1)
          go_wp2
          go_roundg (4294967296 - (rh + y1)).toNat
          case rel => first | exact ⟨rfl, _, _, rfl, rfl, hw, ⟨by omega, by omega⟩, rfl⟩ | exact ⟨rfl, _, _, rfl, rfl, ⟨by omega, by omega⟩, ⟨by omega, by omega⟩, rfl⟩
          case measure => omega
      · obtain ⟨V, hV⟩ : ∃ V, IntKind.u64.wrap (IntKind.u64.wrap (IntKind.u64.wrap (U * 4294967296) + t1) - IntKind.u64.wrap (q * Y)) = V := ⟨_, rfl⟩
        obtain ⟨Va, Vb⟩ : 0 ≤ V ∧ V < 18446744073709551616 := by rw [← hV]; exact word_wrap _
        obtain ⟨Qa, Qb, hR, Ra, Rb⟩ := rest_word V y1 Va Vb (by omega)
        obtain ⟨Q2, hQ2⟩ : ∃ Q2, V / y1 = Q2 := ⟨_, rfl⟩
        rw [hQ2] at Qa Qb hR
        obtain ⟨R2, hR2⟩ : ∃ R2, V % y1 = R2 := ⟨_, rfl⟩
        rw [hR2] at hR Ra Rb
        have hyz : (y1 == 0) = false := by simp; omega
        have Rc : R2 < 4294967296 := by omega
        clear hR2
        go_upto_region 24 with fail
        have HQ2 : Hid (V / y1 = Q2) := hQ2
        clear hV hQ2 hR hyz ha
        have HS2 : Hid ((0 ≤ Q2 ∧ Q2 < 18446744073709551616) ∧ 0 ≤ R2 ∧ R2 < 4294967296) := ⟨⟨Qa, Qb⟩, Ra, Rc⟩
        clear Qa Qb Ra Rb Rc
        go_loopg [18, 16] (4294967296 - R2).toNat (fun k qv rv wr => w = wr ∧ ∃ q rh : Int, qv = .int .u64 q ∧ rv = .int .u64 rh ∧ (0 ≤ q ∧ q < 18446744073709551616) ∧ (0 ≤ rh ∧ rh < 4294967296) ∧ k = (4294967296 - rh).toNat)
        case atStart => first | exact ⟨rfl, Q2, R2, rfl, rfl, HS2.out.1, HS2.out.2, rfl⟩ | exact ⟨rfl, Q2, R2, by rw [HQ2.out], rfl, HS2.out.1, HS2.out.2, rfl⟩
        case round =>
          obtain ⟨rfl, q0, rh0, rfl, rfl, ⟨qa0, qb0⟩, ⟨ra0, rb0⟩, rfl⟩ := hrel
          obtain ⟨a, ha⟩ : ∃ a, IntKind.u64.wrap (q0 * y0) = a := ⟨_, rfl⟩
          by_cases g1 : 4294967296 ≤ q0
          · by_cases g3 : 4294967296 ≤ rh0 + y1
            · go_wp2
              simp [bodyPost, results, Yba.results18, go_sem]
              refine ⟨_, ?_, _, ?_, ⟨rfl, rfl⟩, 0, rfl⟩
              · first | exact word_wrap _ | (constructor <;> omega)
              · exact word_shr _ _
            · have hw := word_wrap (q0 - 1)
              go_wp2
              go_roundg (4294967296 - (rh0 + y1)).toNat
              case rel => first | exact ⟨rfl, _, _, rfl, rfl, hw, ⟨by omega, by omega⟩, rfl⟩ | exact ⟨rfl, _, _, rfl, rfl, ⟨by omega, by omega⟩, ⟨by omega, by omega⟩, rfl⟩
              case measure => omega
          · by_cases g2 : 4294967296 * rh0 + t0 < a
            · by_cases g3 : 4294967296 ≤ rh0 + y1
              · go_wp2
                simp [bodyPost, results, Yba.results18, go_sem]
                refine ⟨_, ?_, _, ?_, ⟨rfl, rfl⟩, 0, rfl⟩
                · first | exact word_wrap _ | (constructor <;> omega)
                · exact word_shr _ _
              · have hw := word_wrap (q0 - 1)
                go_wp2
                go_roundg (4294967296 - (rh0 + y1)).toNat
                case rel => first | exact ⟨rfl, _, _, rfl, rfl, hw, ⟨by omega, by omega⟩, rfl⟩ | exact ⟨rfl, _, _, rfl, rfl, ⟨by omega, by omega⟩, ⟨by omega, by omega⟩, rfl⟩
                case measure => omega
            · go_wp2
              simp [bodyPost, results, Yba.results18, go_sem]
              refine ⟨_, ?_, _, ?_, ⟨rfl, rfl⟩, 0, rfl⟩
              · first | exact word_wrap _ | (constructor <;> omega)
              · exact word_shr _ _

/-- Div64 at any two words, the high one below the divisor. -/
theorem div64_all (hi lo d : Int) (i0 : 0 ≤ hi) (i1 : hi < d) (h0 : 0 ≤ lo) (h1 : lo < 18446744073709551616) (hd' : d < 18446744073709551616) (w : World) :
    Calls Yba.prog 18 #[.int .u64 hi, .int .u64 lo, .int .u64 d] w fun e w' => ∃ q r, (0 ≤ q ∧ q < 18446744073709551616) ∧ (0 ≤ r ∧ r < 18446744073709551616) ∧ e = .returned (.tuple #[.int .u64 q, .int .u64 r]) ∧ ∃ n, w' = w.drewN n := by
  by_cases h : hi = 0
  · subst h
    refine (div64_zero lo d h0 h1 (by omega) hd' w).mono ?_
    rintro e w' ⟨rfl, n, rfl⟩
    have a1 := Int.ediv_le_self d h0
    have a2 := Int.ediv_nonneg h0 (show 0 ≤ d by omega)
    have a3 := Int.emod_nonneg lo (show d ≠ 0 by omega)
    have a4 := Int.emod_lt_of_pos lo (show 0 < d by omega)
    exact ⟨_, _, ⟨a2, by omega⟩, ⟨a3, by omega⟩, rfl, n, rfl⟩
  · exact div64_any hi lo d (by omega) i1 h0 h1 hd' w
end Go.Proofs.Ybulkabno
