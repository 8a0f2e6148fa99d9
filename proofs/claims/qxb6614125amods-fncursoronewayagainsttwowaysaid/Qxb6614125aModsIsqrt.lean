import Derived.Test.Qxb6614125aModsRows
import Derived.Test.Qxb6614125aModsPlain
import Derived.WalkKit
import Derived.ProofKit
namespace Go.Proofs.Qxb6614125aMods.Cur
open Go.RowKit

set_option maxHeartbeats 400000 in
theorem isqrt_any (n : Int) (R : Nat) (h0 : 0 ≤ n) (hn : n ≤ 1152921504606846976) (h1 : (R : Int) * R ≤ n) (h2 : n < ((R : Int) + 1) * (R + 1)) (w : World) :
    Calls Trym.prog 29 #[.int .i64 n] w fun e w' => e = .returned (.int .i64 R) ∧ w' = w := by
  have hR := root_small R n h1 hn
  have H1 : Hid ((R : Int) * R ≤ n) := h1
  have H2 : Hid (n < ((R : Int) + 1) * (R + 1)) := h2
  clear h1 h2
  go_enter Trym.func29, Trym.ntmps29
  go_wp2
  go_loop [3, 4] (fun r b => ∃ k : Nat, k ≤ 32 ∧ r = .int .i64 (rAt R k) ∧ b = .int .i64 (bAt k)) (fun _ b => (intOf b).toNat)
  case atStart => exact ⟨32, by omega, by rw [rAt_32 R (by omega)], by rw [bAt_32]⟩
  case round =>
    obtain ⟨k, hk, rfl, rfl⟩ := hrel
    match k, hk with
    | 0, _ =>
      have e0 := bAt_zero
      have e1 := rAt_zero R
      go_wp2
      go_ret
      exact ⟨rfl, rfl⟩
    | j + 1, hk =>
      have hb := bAt_pos j
      have hor := or_t R j (by omega) (by omega)
      have htp := tAt_pos R j
      have htl := tAt_le R j (by omega) (by omega)
      have hbl := bAt_le (j + 1) (by omega)
      by_cases hc : tAt R j ≤ R
      · have hd := le_div_of R n (tAt R j) H1.out htp hc
        go_wp2
        go_round
        case rel => exact ⟨j, by omega, by rw [rAt_hit R j hc], by rw [bAt_half]⟩
        case measure => simp only [intOf, bAt_half]; exact bAt_lt j
      · have hd := div_lt_of R n (tAt R j) H2.out htp (by omega)
        go_wp2
        go_round
        case rel => exact ⟨j, by omega, by rw [rAt_miss R j (by omega)], by rw [bAt_half]⟩
        case measure => simp only [intOf, bAt_half]; exact bAt_lt j
end Go.Proofs.Qxb6614125aMods.Cur
