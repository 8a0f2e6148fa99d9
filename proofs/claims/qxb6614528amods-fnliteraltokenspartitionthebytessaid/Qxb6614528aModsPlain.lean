import Derived.Laws.BitsAllLaws
import Derived.RowKit
namespace Go.Proofs.Qxb6614528aMods.Lit

/-- One letter of foldText: bit j + 1 of the second word becomes bit j + 33. -/
def fw (x : Nat) : Nat → Nat
  | 0 => x
  | j + 1 => if (fw x j).testBit (j + 33) then fw x j ||| 2 ^ (j + 1) else fw x j &&& (18446744073709551615 - 2 ^ (j + 1))
/-- The words of the set that holds c alone. -/
def wd (c i : Nat) : Nat := if c / 64 = i then 2 ^ (c % 64) else 0
/-- The words of literal(c, fold). -/
def litW (c : Nat) (fold : Bool) (i : Nat) : Nat := if fold && i == 1 then fw (wd c 1) 26 else wd c i
/-- git's lower-casing. -/
def lowN (d : Nat) : Nat := if 65 ≤ d ∧ d ≤ 90 then d + 32 else d

/-- The second word of literal(c, true), in closed form. -/
def foldW (c : Nat) : Nat := if 97 ≤ c ∧ c ≤ 122 then 2 ^ (c - 64) ||| 2 ^ (c - 96) else if 65 ≤ c ∧ c ≤ 90 then 0 else wd c 1
theorem fw_closed : ∀ c : Fin 256, fw (wd c.val 1) 26 = foldW c.val := by decide +kernel

theorem two_pow_lt {k : Nat} (h : k < 64) : 2 ^ k < 18446744073709551616 := Nat.pow_lt_pow_right (n := 64) (by decide) h
theorem wd_lt (c i : Nat) : wd c i < 18446744073709551616 := by
  unfold wd; split
  · exact two_pow_lt (Nat.mod_lt _ (by decide))
  · decide
theorem fw_lt (x : Nat) (h : x < 18446744073709551616) : ∀ j, j ≤ 26 → fw x j < 18446744073709551616
  | 0, _ => h
  | j + 1, hj => by
    have ih := fw_lt x h j (by omega)
    unfold fw
    split
    · exact Nat.or_lt_two_pow (n := 64) ih (two_pow_lt (by omega))
    · exact Nat.and_lt_two_pow (n := 64) _ (Nat.lt_of_le_of_lt (Nat.sub_le _ _) (by decide))
theorem litW_lt (c : Nat) (fold : Bool) (i : Nat) : litW c fold i < 18446744073709551616 := by
  unfold litW; split
  · exact fw_lt _ (wd_lt _ _) 26 (by omega)
  · exact wd_lt _ _

theorem wd_bit (c d : Nat) : (wd c (d / 64)).testBit (d % 64) = (d == c) := by
  unfold wd
  by_cases h : c / 64 = d / 64
  · rw [if_pos h, Nat.testBit_two_pow]
    by_cases e : d = c
    · subst e; simp
    · have : ¬ c % 64 = d % 64 := by omega
      simp [e, this]
  · rw [if_neg h, Nat.zero_testBit]
    have : ¬ d = c := fun e => h (by rw [e])
    simp [this]

/-- THE PLAIN LAW: which bytes literal(c, fold) takes. -/
theorem lit_bit (c d : Nat) (hc : c < 256) (fold : Bool) : (litW c fold (d / 64)).testBit (d % 64) = if fold then lowN d == c else d == c := by
  cases fold with
  | false => show (wd c (d / 64)).testBit (d % 64) = _; rw [wd_bit]; rfl
  | true =>
    show (if (true && d / 64 == 1) = true then fw (wd c 1) 26 else wd c (d / 64)).testBit (d % 64) = (lowN d == c)
    by_cases h1 : d / 64 = 1
    · have hf := fw_closed ⟨c, hc⟩
      simp only at hf
      rw [if_pos (by simp [h1]), hf]
      unfold foldW lowN
      by_cases g1 : 97 ≤ c ∧ c ≤ 122
      · rw [if_pos g1, Nat.testBit_or, Nat.testBit_two_pow, Nat.testBit_two_pow]
        by_cases g2 : 65 ≤ d ∧ d ≤ 90
        · rw [if_pos g2]
          have e1 : ¬ c - 64 = d % 64 := by omega
          by_cases e : d + 32 = c
          · have : c - 96 = d % 64 := by omega
            simp [e, this]
          · have : ¬ c - 96 = d % 64 := by omega
            simp [e, this, e1]
        · rw [if_neg g2]
          have e1 : ¬ c - 96 = d % 64 := by omega
          by_cases e : d = c
          · have : c - 64 = d % 64 := by omega
            simp [e, this]
          · have : ¬ c - 64 = d % 64 := by omega
            simp [e, this, e1]
      · rw [if_neg g1]
        by_cases g3 : 65 ≤ c ∧ c ≤ 90
        · rw [if_pos g3, Nat.zero_testBit]
          split
          · have : ¬ d + 32 = c := by omega
            simp [this]
          · have : ¬ d = c := by omega
            simp [this]
        · rw [if_neg g3, ← h1, wd_bit]
          split
          · have a : ¬ d + 32 = c := by omega
            have b : ¬ d = c := by omega
            rw [beq_false_of_ne a, beq_false_of_ne b]
          · rfl
    · rw [if_neg (by simp [h1]), wd_bit]
      unfold lowN
      rw [if_neg (by omega)]

/-! ### The walk's spellings -/
theorem wrap_pow (k : Nat) (h : k < 64) : IntKind.u64.wrap ((2 : Int) ^ k) = ((2 ^ k : Nat) : Int) := by
  have := two_pow_lt h
  have e : (2 : Int) ^ k = ((2 ^ k : Nat) : Int) := by simp
  rw [IntKind.wrap_u64, e]
  exact Int.emod_eq_of_lt (Int.natCast_nonneg _) (Int.ofNat_lt.2 this)
theorem has_is (x k : Nat) (hx : x < 18446744073709551616) (hk : k < 64) : (bits .and .u64 (x : Int) (IntKind.u64.wrap ((2 : Int) ^ k)) != 0) = x.testBit k := by
  rw [wrap_pow k hk, u64_and_nat x _ hx (two_pow_lt hk), nat_bit]
  have hp : 0 < 2 ^ k := Nat.two_pow_pos k
  rw [Nat.testBit_eq_decide_div_mod_eq]
  rcases Nat.mod_two_eq_zero_or_one (x / 2 ^ k) with h | h
  · rw [h]; simp
  · rw [h]
    have e : ¬ ((1 * 2 ^ k : Nat) : Int) = 0 := by omega
    rw [bne_iff_ne.2 e]
    rfl
theorem sethas_is (x k : Nat) (hx : x < 18446744073709551616) : (bits .and .u64 ((x : Int) / (2 : Int) ^ k) 1 == 1) = x.testBit k := by
  have e : (x : Int) / (2 : Int) ^ k = ((x / 2 ^ k : Nat) : Int) := by simp
  have hl : x / 2 ^ k < 18446744073709551616 := Nat.lt_of_le_of_lt (Nat.div_le_self _ _) hx
  rw [e, show (1 : Int) = ((1 : Nat) : Int) from rfl, u64_and_nat _ 1 hl (by decide), Nat.and_one_is_mod, Nat.testBit_eq_decide_div_mod_eq]
  rcases Nat.mod_two_eq_zero_or_one (x / 2 ^ k) with h | h
  · rw [h]; simp
  · rw [h]; simp
theorem or_is (x k : Nat) (hx : x < 18446744073709551616) (hk : k < 64) : bits .or .u64 (x : Int) (IntKind.u64.wrap ((2 : Int) ^ k)) = ((x ||| 2 ^ k : Nat) : Int) := by
  rw [wrap_pow k hk, u64_or_nat x _ hx (two_pow_lt hk)]
theorem clr_is (x k : Nat) (hx : x < 18446744073709551616) (hk : k < 64) : bits .andNot .u64 (x : Int) (IntKind.u64.wrap ((2 : Int) ^ k)) = ((x &&& (18446744073709551615 - 2 ^ k) : Nat) : Int) := by
  rw [wrap_pow k hk, u64_andNot_nat x _ hx (two_pow_lt hk)]
end Go.Proofs.Qxb6614528aMods.Lit
