import Derived.Test.Qxb6614125aModsRows
import Derived.Test.Qxb6614125aModsPlain
import Derived.Lib.BitFns
import Derived.WalkKit
import Derived.ProofKit
import Derived.WalkLawsBesides
import Derived.Deep.QuietTactic
import Derived.BigQuiet
namespace Go.Proofs.Qxb6614125aMods.Cur
open Go.RowKit

theorem ret_int {k : IntKind} {a b : Int} (h : a = b) : Ending.returned (.int k a) = .returned (.int k b) := by rw [h]

/-- |ny - nx|, at most 2^20. -/
def offP (nx ny : Int) : Int := if ny - nx < 0 then (if 1048576 < nx - ny then 1048576 else nx - ny) else (if 1048576 < ny - nx then 1048576 else ny - nx)
theorem offP_bd (nx ny : Int) : 0 ≤ offP nx ny ∧ offP nx ny ≤ 1048576 := by unfold offP; split <;> split <;> omega

theorem zzOffset_any (nx ny : Int) (h0 : 0 ≤ nx) (h1 : nx ≤ 1152921504606846976) (h2 : 0 ≤ ny) (h3 : ny ≤ 1152921504606846976) (w : World) :
    Calls Trym.prog 20 #[.int .i64 nx, .int .i64 ny] w fun e w' => e = .returned (.int .i64 (offP nx ny)) ∧ w' = w := by
  go_enter Trym.func20, Trym.ntmps20
  go_wp2
  all_goals (go_ret; refine ⟨ret_int ?_, rfl⟩; unfold offP; repeat' split
             all_goals omega)

theorem offset_any (nx ny : Int) (b : Nat) (h0 : 0 ≤ nx) (h1 : nx ≤ 1152921504606846976) (h2 : 0 ≤ ny) (h3 : ny ≤ 1152921504606846976) (w : World)
    (k1 : w.cell? ⟨b, 1, none⟩ = some (.int .i64 nx)) (k3 : w.cell? ⟨b, 3, none⟩ = some (.int .i64 ny)) :
    Calls Trym.prog 28 #[.pointer (some ⟨b, 0, none⟩)] w fun e w' => e = .returned (.int .u64 (offP nx ny)) ∧ ∃ n, w' = w.drewN n := by
  go_enter Trym.func28, Trym.ntmps28
  go_wp2
  go_quiet (fail)
  go_wp2
  all_goals (go_ret; refine ⟨ret_int ?_, _, rfl⟩; unfold offP; repeat' split
             all_goals omega)

theorem zzBitLen_any (x : Nat) (h : x < 18446744073709551616) (w : World) :
    Calls Trym.prog 22 #[.int .u64 x] w fun e w' => e = .returned (.int .i64 (Lib.bitLen x : Nat)) ∧ w' = w := by
  go_enter Trym.func22, Trym.ntmps22
  go_wp2
  go_loop [0, 3] (fun v n => ∃ y c : Nat, y < 18446744073709551616 ∧ c ≤ 64 ∧ v = .int .u64 y ∧ n = .int .i64 c ∧ Hid (c + Lib.bitLen y = Lib.bitLen x)) (fun v _ => (intOf v).toNat)
  case atStart => exact ⟨x, 0, h, by omega, rfl, rfl, by show 0 + _ = _; omega⟩
  case round =>
    obtain ⟨y, c, hy, hc, rfl, rfl, hx⟩ := hrel
    by_cases hy0 : y = 0
    · subst hy0
      go_wp2
      go_ret
      refine ⟨ret_int ?_, rfl⟩
      have := hx.out
      simp [Lib.bitLen, Lib.bitLenAux] at this ⊢
      omega
    · have hp : (0 : Int) < (y : Int) := by omega
      have hh := Lib.bitLen_half y hy0 (by omega)
      have hl := Lib.bitLen_le x 64 (by omega) (by omega)
      have hx' := hx.out
      have hb : Hid ((c + 1) + Lib.bitLen (y / 2) = Lib.bitLen x) := by show _ = _; omega
      have hc' : c + 1 ≤ 64 := by omega
      clear hh hl hx'
      go_wp2
      go_round
      case rel => exact ⟨y / 2, c + 1, by omega, hc', by go_num, by go_num, hb⟩
      case measure => simp [intOf]; omega

/-- Where base is off + q + 32, q a quarter of the root. -/
theorem zzIsBase_yes (base q off nx : Int) (hb : base = off + q + 32) (h0 : 0 ≤ q) (h1 : q ≤ 268435456) (o0 : 0 ≤ off) (o1 : off ≤ 1048576) (p1 : (4 * q) * (4 * q) ≤ nx) (p2 : nx < (4 * q + 4) * (4 * q + 4)) (w : World) :
    Calls Trym.prog 21 #[.int .i64 base, .int .i64 off, .int .i64 nx] w fun e w' => e = .returned (.bool true) ∧ w' = w := by
  have m0 : 0 ≤ (4 * q) * (4 * q) := Int.mul_nonneg (by omega) (by omega)
  have m1 : (4 * q) * (4 * q) ≤ 1073741824 * 1073741824 := Int.mul_le_mul (by omega) (by omega) (by omega) (by omega)
  have m2 : 0 ≤ (4 * q + 4) * (4 * q + 4) := Int.mul_nonneg (by omega) (by omega)
  have m3 : (4 * q + 4) * (4 * q + 4) ≤ 1073741828 * 1073741828 := Int.mul_le_mul (by omega) (by omega) (by omega) (by omega)
  have e1 : wrap64 ((4 * q) * (4 * q)) = (4 * q) * (4 * q) := by unfold wrap64; omega
  have e2 : wrap64 ((4 * q + 4) * (4 * q + 4)) = (4 * q + 4) * (4 * q + 4) := by unfold wrap64; omega
  have t1 : wrap64 ((4 * q) * (4 * q)) ≤ nx := by rw [e1]; exact p1
  have t2 : nx < wrap64 ((4 * q + 4) * (4 * q + 4)) := by rw [e2]; exact p2
  clear e1 e2 m0 m1 m2 m3 p1 p2
  have hq : base - off - 32 = q := by omega
  have b0 : 0 ≤ base := by omega
  have b1 : base ≤ 1000000000 := by omega
  clear hb
  go_enter Trym.func21, Trym.ntmps21
  go_wp2
  go_ret
  exact ⟨by simp, rfl⟩
end Go.Proofs.Qxb6614125aMods.Cur
