import Derived.Test.Qxb6614528aModsRows
import Derived.Test.Qxb6614528aModsPlain
import Derived.WalkKit
import Derived.ProofKit
import Derived.WalkLawsBesides
import Derived.RowKit3
namespace Go.Proofs.Qxb6614528aMods.Lit
open Go.RowKit

theorem ret_int {k : IntKind} {a b : Int} (h : a = b) : Ending.returned (.int k a) = .returned (.int k b) := by rw [h]

/-- git's lower-casing of a byte. -/
def lowP (c : Int) : Int := if 65 ≤ c ∧ c ≤ 90 then c + 32 else c

theorem lower_letter (c : Int) (h0 : 65 ≤ c) (h1 : c ≤ 90) (w : World) :
    Calls Trym.prog 12 #[.int .u8 c] w fun e w' => e = .returned (.int .u8 (c + 32)) ∧ w' = w := by
  go_enter Trym.func12, Trym.ntmps12
  go_wp2
  go_ret
  exact ⟨ret_int (by omega), rfl⟩

theorem fold_any (c : Int) (h0 : 0 ≤ c) (h1 : c ≤ 255) (w : World) :
    Calls Trym.prog 6 #[.int .u8 c] w fun e w' => e = .returned (.int .u8 (lowP c)) ∧ w' = w := by
  unfold lowP
  by_cases g : 65 ≤ c
  · by_cases g' : c ≤ 90
    · rw [if_pos ⟨g, g'⟩]
      go_enter Trym.func6, Trym.ntmps6
      go_wp2
      go_ret
      exact ⟨ret_int (by omega), rfl⟩
    · rw [if_neg (by omega)]
      go_enter Trym.func6, Trym.ntmps6
      go_wp2
      go_ret
      exact ⟨rfl, rfl⟩
  · rw [if_neg (by omega)]
    go_enter Trym.func6, Trym.ntmps6
    go_wp2
    go_ret
    exact ⟨rfl, rfl⟩

/-- has, at a lower-case letter: bit j + 33 of the second word. -/
theorem has_any (j x : Nat) (b : Nat) (hj : j < 26) (hx : x < 18446744073709551616) (w : World) (k : w.cell? ⟨b, 2, none⟩ = some (.int .u64 x)) :
    Calls Trym.prog 11 #[.pointer (some ⟨b, 1, none⟩), .int .u8 (65 + j + 32)] w fun e w' => e = .returned (.bool (x.testBit (j + 33))) ∧ w' = w := by
  have hd : (65 + (j : Int) + 32) / 64 = 1 := by omega
  have hm : ((65 + (j : Int) + 32) % 64).toNat = j + 33 := by omega
  have hi := has_is x (j + 33) hx (by omega)
  go_enter Trym.func11, Trym.ntmps11
  go_wp2
  go_ret
  exact ⟨rfl, rfl⟩

theorem setHas_any (f : Nat → Nat) (hf : ∀ i, f i < 18446744073709551616) (d : Nat) (h1 : d < 256) (w : World) :
    Calls Trym.prog 7 #[.agg #[.int .u64 (f 0), .int .u64 (f 1), .int .u64 (f 2), .int .u64 (f 3)], .int .u8 d] w fun e w' => e = .returned (.bool ((f (d / 64)).testBit (d % 64))) ∧ Grown w w' := by
  have hi := sethas_is (f (d / 64)) (d % 64) (hf _)
  have hm : ((d : Int) % 64).toNat = d % 64 := by omega
  have hq : d / 64 = 0 ∨ d / 64 = 1 ∨ d / 64 = 2 ∨ d / 64 = 3 := by omega
  rcases hq with h | h | h | h
  all_goals
    rw [h] at hi
    have hd : ((d : Int) / 64) = ((d / 64 : Nat) : Int) := by omega
    rw [h] at hd
    rw [h]
    go_enter Trym.func7, Trym.ntmps7
    go_wp2
    go_ret
    exact ⟨rfl, (Grown.refl _).alloc _ _⟩
end Go.Proofs.Qxb6614528aMods.Lit
