import Derived.Laws.BitsLemmas
import Derived.RowKit
namespace Go.Proofs.Qxb6614125aMods.Cur

/-- isqrt's r behind the rounds for the bits from 31 down to k. -/
def rAt (R k : Nat) : Int := ((R / 2 ^ k * 2 ^ k : Nat) : Int)
/-- isqrt's bit there. -/
def bAt (k : Nat) : Int := ((2 ^ k / 2 : Nat) : Int)
/-- the candidate t of the round from k + 1 to k. -/
def tAt (R j : Nat) : Int := ((R / 2 ^ (j + 1) * 2 ^ (j + 1) + 2 ^ j : Nat) : Int)

theorem bAt_zero : bAt 0 = 0 := rfl
theorem bAt_succ (j : Nat) : bAt (j + 1) = ((2 ^ j : Nat) : Int) := by
  unfold bAt; rw [Nat.pow_succ, Nat.mul_div_cancel _ (by decide)]
theorem bAt_pos (j : Nat) : 0 < bAt (j + 1) := by
  rw [bAt_succ]; have := Nat.two_pow_pos j; omega
theorem bAt_half (j : Nat) : bAt (j + 1) / 2 = bAt j := by
  rw [bAt_succ]; unfold bAt; omega
theorem bAt_lt (j : Nat) : (bAt j).toNat < (bAt (j + 1)).toNat := by
  rw [bAt_succ]; unfold bAt; have := Nat.two_pow_pos j; omega
theorem bAt_32 : bAt 32 = 2147483648 := by decide

theorem pow_le32 (j : Nat) (hj : j < 32) : 2 ^ (j + 1) ≤ 4294967296 := Nat.pow_le_pow_right (n := 2) (by decide) (by omega : j + 1 ≤ 32)
theorem bAt_le (j : Nat) (hj : j ≤ 32) : bAt j ≤ 2147483648 := by
  have := Nat.pow_le_pow_right (n := 2) (by decide) hj
  unfold bAt; omega
theorem bAt_nonneg (j : Nat) : 0 ≤ bAt j := Int.natCast_nonneg _

theorem rAt_zero (R : Nat) : rAt R 0 = R := by unfold rAt; simp
theorem rAt_32 (R : Nat) (h : R < 4294967296) : rAt R 32 = 0 := by
  unfold rAt; rw [Nat.div_eq_of_lt h]; rfl
theorem rAt_nonneg (R k : Nat) : 0 ≤ rAt R k := by unfold rAt; omega
theorem rAt_le (R k : Nat) : rAt R k ≤ R := by
  unfold rAt; have := Nat.div_mul_le_self R (2 ^ k); omega
theorem rAt_lt (R k : Nat) (h : R < 4294967296) : rAt R k < 4294967296 := by
  have := rAt_le R k; omega

theorem tAt_pos (R j : Nat) : 0 < tAt R j := by
  unfold tAt; have := Nat.two_pow_pos j; omega
theorem tAt_le (R j : Nat) (h : R < 4294967296) (hj : j < 32) : tAt R j ≤ 8589934592 := by
  unfold tAt
  have h1 := Nat.div_mul_le_self R (2 ^ (j + 1))
  have h2 := pow_le32 j hj
  rw [Nat.pow_succ] at h2
  omega

theorem wraps_i64 (n : Int) (h₀ : 0 ≤ n) (h₁ : n < 2 ^ 63) : IntKind.i64.wrap n = n := by rw [IntKind.wrap_i64]; omega

theorem or_t (R j : Nat) (h : R < 4294967296) (hj : j < 32) : bits .or .i64 (rAt R (j + 1)) (bAt (j + 1)) = tAt R j := by
  have hr := rAt_lt R (j + 1) h
  have hb := bAt_le (j + 1) (by omega)
  have hp := Nat.two_pow_pos j
  rw [bits_join .i64 63 (by decide) wraps_i64 (j + 1) (rAt R (j + 1)) (bAt (j + 1)) (rAt_nonneg _ _) ?_ (by omega) (bAt_nonneg _) ?_ (by omega)]
  · rw [bAt_succ]; unfold rAt tAt; omega
  · unfold rAt
    have : R / 2 ^ (j + 1) * 2 ^ (j + 1) % 2 ^ (j + 1) = 0 := Nat.mul_mod_left _ _
    exact_mod_cast this
  · rw [bAt_succ]
    have : 2 ^ j < 2 ^ (j + 1) := Nat.pow_lt_pow_right (by decide) (by omega)
    exact_mod_cast this

theorem div_two (R j : Nat) : R / 2 ^ (j + 1) = R / 2 ^ j / 2 := by
  rw [Nat.pow_succ, Nat.div_div_eq_div_mul]

theorem rAt_hit (R j : Nat) (h : tAt R j ≤ R) : rAt R j = tAt R j := by
  unfold tAt at h ⊢; unfold rAt
  have hp := Nat.two_pow_pos j
  have d1 := Nat.div_add_mod R (2 ^ j)
  have m1 := Nat.mod_lt R hp
  rw [div_two, Nat.pow_succ] at h ⊢
  generalize hq : R / 2 ^ j = q at *
  generalize hP : 2 ^ j = P at *
  have e : q / 2 * (P * 2) = P * (q / 2 * 2) := by rw [Nat.mul_comm P 2, ← Nat.mul_assoc, Nat.mul_comm]
  rcases Nat.mod_two_eq_zero_or_one q with hm | hm
  · exfalso
    have : q / 2 * 2 = q := by omega
    rw [e, this] at h; omega
  · have : q = q / 2 * 2 + 1 := by omega
    have e2 : q * P = P * (q / 2 * 2) + P := by conv => lhs; rw [this, Nat.add_mul, Nat.one_mul, Nat.mul_comm]
    rw [e, e2]

theorem rAt_miss (R j : Nat) (h : (R : Int) < tAt R j) : rAt R j = rAt R (j + 1) := by
  unfold tAt at h; unfold rAt
  have hp := Nat.two_pow_pos j
  have d1 := Nat.div_add_mod R (2 ^ j)
  have m1 := Nat.mod_lt R hp
  rw [div_two, Nat.pow_succ] at h ⊢
  generalize hq : R / 2 ^ j = q at *
  generalize hP : 2 ^ j = P at *
  have e : q / 2 * (P * 2) = P * (q / 2 * 2) := by rw [Nat.mul_comm P 2, ← Nat.mul_assoc, Nat.mul_comm]
  rcases Nat.mod_two_eq_zero_or_one q with hm | hm
  · have : q = q / 2 * 2 := by omega
    rw [e, ← this, Nat.mul_comm]
  · exfalso
    have : q = q / 2 * 2 + 1 := by omega
    have e2 : P * q = P * (q / 2 * 2) + P := by conv => lhs; rw [this, Nat.mul_add, Nat.mul_one]
    rw [e] at h; omega

theorem le_div_of (R : Nat) (n t : Int) (h1 : (R : Int) * R ≤ n) (ht : 0 < t) (h : t ≤ R) : t ≤ n / t := by
  rw [Int.le_ediv_iff_mul_le ht]
  exact Int.le_trans (Int.mul_le_mul h h (by omega) (by omega)) h1
theorem div_lt_of (R : Nat) (n t : Int) (h2 : n < ((R : Int) + 1) * (R + 1)) (ht : 0 < t) (h : (R : Int) < t) : n / t < t := by
  apply Int.ediv_lt_of_lt_mul ht
  exact Int.lt_of_lt_of_le h2 (Int.mul_le_mul (by omega) (by omega) (by omega) (by omega))

/-- There is a root, and it is small. -/
theorem root_ex (n : Nat) : ∃ R : Nat, R * R ≤ n ∧ n < (R + 1) * (R + 1) := by
  induction n with
  | zero => exact ⟨0, by decide, by decide⟩
  | succ n ih =>
    obtain ⟨R, h1, h2⟩ := ih
    by_cases h : n + 1 < (R + 1) * (R + 1)
    · exact ⟨R, by omega, h⟩
    · refine ⟨R + 1, by omega, ?_⟩
      have e : (R + 1 + 1) * (R + 1 + 1) = (R + 1) * (R + 1) + 2 * R + 3 := by
        simp only [Nat.add_mul, Nat.mul_add, Nat.one_mul, Nat.mul_one]; omega
      omega
theorem root_small (R : Nat) (n : Int) (h : (R : Int) * R ≤ n) (hn : n ≤ 1152921504606846976) : R ≤ 1073741824 := by
  by_cases hc : R ≤ 1073741824
  · exact hc
  · exfalso
    have h1 : (1073741825 : Int) ≤ R := by omega
    have h2 : (1073741825 : Int) * 1073741825 ≤ R * R := Int.mul_le_mul h1 h1 (by decide) (by omega)
    omega
end Go.Proofs.Qxb6614125aMods.Cur
