import Derived.Test.YbulkabnoDivide
namespace Go.Proofs.Ybulkabno
theorem norm (d : Int) (h0 : 1 ≤ d) (h1 : d < 18446744073709551616) : ∃ s : Int, 64 - (Lib.bitLen d.toNat : Int) = s ∧ 0 ≤ s ∧ s ≤ 63 ∧ 9223372036854775808 ≤ d * 2 ^ s.toNat ∧ d * 2 ^ s.toNat < 18446744073709551616 := by
  obtain ⟨x, rfl⟩ := Int.eq_ofNat_of_zero_le (show 0 ≤ d by omega)
  have hx0 : x ≠ 0 := by omega
  have hx1 : x < 2 ^ 64 := by have : x < 18446744073709551616 := by omega
                              simpa using this
  have hk1 : 2 ^ x.log2 ≤ x := Nat.log2_self_le hx0
  have hk2 : x < 2 ^ (x.log2 + 1) := Nat.lt_log2_self
  have hk : x.log2 < 64 := (Nat.log2_lt hx0).2 hx1
  obtain ⟨k, hkk⟩ : ∃ k, k = x.log2 := ⟨_, rfl⟩
  rw [← hkk] at hk1 hk2 hk
  have hb : Lib.bitLen x = k + 1 := by
    rw [Lib.bitLen_shift k x hk1 hx1]
    have : x / 2 ^ k = 1 := by
      apply Nat.div_eq_of_lt_le
      · omega
      · rw [Nat.pow_succ] at hk2; omega
    rw [this]; rfl
  refine ⟨63 - (k : Int), ?_, by omega, by omega, ?_, ?_⟩
  · show 64 - ((Lib.bitLen (x : Int).toNat : Nat) : Int) = _
    rw [Int.toNat_natCast, hb]; omega
  · have e : (63 - (k : Int)).toNat = 63 - k := by omega
    rw [e]
    have h : 2 ^ k * 2 ^ (63 - k) ≤ x * 2 ^ (63 - k) := Nat.mul_le_mul_right _ hk1
    rw [← Nat.pow_add, show k + (63 - k) = 63 by omega] at h
    have h2 : ((2 ^ 63 : Nat) : Int) ≤ ((x * 2 ^ (63 - k) : Nat) : Int) := Int.ofNat_le.2 h
    simpa using h2
  · have e : (63 - (k : Int)).toNat = 63 - k := by omega
    rw [e]
    have h : x * 2 ^ (63 - k) < 2 ^ (k + 1) * 2 ^ (63 - k) := Nat.mul_lt_mul_of_pos_right hk2 (Nat.two_pow_pos _)
    rw [← Nat.pow_add, show k + 1 + (63 - k) = 64 by omega] at h
    have h2 : ((x * 2 ^ (63 - k) : Nat) : Int) < ((2 ^ 64 : Nat) : Int) := Int.ofNat_lt.2 h
    simpa using h2
end Go.Proofs.Ybulkabno
