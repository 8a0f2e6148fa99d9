import Derived.Test.Qxb6614125aModsIsqrt
import Derived.Test.Qxb6614125aModsLeaves
namespace Go.Proofs.Qxb6614125aMods.Cur
open Go.RowKit

/-- The window's base. -/
def basP (nx ny : Int) (R : Nat) : Int := offP nx ny + (R : Int) / 4 + 32
/-- The window behind k rounds. -/
def winP (ny b : Int) : Nat → Int
  | 0 => b
  | k + 1 => if 4 * winP ny b k ≤ ny then 4 * winP ny b k else ny
/-- How many rounds. -/
def misN (m : Int) : Nat := if m ≤ 16 then m.toNat else 16

theorem basP_bd (nx ny : Int) (R : Nat) (h : R ≤ 1073741824) : 32 ≤ basP nx ny R ∧ basP nx ny R ≤ 300000000 := by
  have := offP_bd nx ny; unfold basP; omega
theorem winP_bd (ny b : Int) (h0 : 0 ≤ ny) (h1 : ny ≤ 1152921504606846976) (b0 : 0 ≤ b) (b1 : b ≤ 300000000) : ∀ k, 0 ≤ winP ny b k ∧ winP ny b k ≤ 1152921504606846976
  | 0 => by unfold winP; omega
  | k + 1 => by have := winP_bd ny b h0 h1 b0 b1 k; unfold winP; split <;> omega

theorem winP_le (ny b : Int) (k : Nat) (h : 4 * winP ny b k ≤ ny) : winP ny b (k + 1) = 4 * winP ny b k := by
  show (if 4 * winP ny b k ≤ ny then 4 * winP ny b k else ny) = _; rw [if_pos h]
theorem winP_gt (ny b : Int) (k : Nat) (h : ¬ 4 * winP ny b k ≤ ny) : winP ny b (k + 1) = ny := by
  show (if 4 * winP ny b k ≤ ny then 4 * winP ny b k else ny) = _; rw [if_neg h]

set_option maxHeartbeats 1000000 in
theorem searchWindow_any (nx ny m : Int) (R b : Nat) (h0 : 0 ≤ nx) (h1 : nx ≤ 1152921504606846976) (h2 : 0 ≤ ny) (h3 : ny ≤ 1152921504606846976) (r1 : (R : Int) * R ≤ nx) (r2 : nx < ((R : Int) + 1) * (R + 1)) (w : World)
    (k1 : w.cell? ⟨b, 1, none⟩ = some (.int .i64 nx)) (k3 : w.cell? ⟨b, 3, none⟩ = some (.int .i64 ny)) (k12 : w.cell? ⟨b, 16, none⟩ = some (.int .i64 m)) :
    Calls Trym.prog 26 #[.pointer (some ⟨b, 0, none⟩)] w fun e w' => e = .returned (.tuple #[.int .i64 (winP ny (basP nx ny R) (misN m)), .int .i64 (basP nx ny R)]) ∧ ∃ n, w' = w.drewN n := by
  have hR := root_small R nx r1 h1
  obtain ⟨o0, o1⟩ := offP_bd nx ny
  have HI : ∀ w, Hid (Calls Trym.prog 29 #[.int .i64 nx] w fun e w' => e = .returned (.int .i64 R) ∧ w' = w) := fun w => isqrt_any nx R h0 h1 r1 r2 w
  clear r1 r2
  obtain ⟨B, hB⟩ : ∃ B, B = basP nx ny R := ⟨_, rfl⟩
  have hbd := basP_bd nx ny R hR
  rw [← hB] at hbd ⊢
  have hB' : Hid (offP nx ny + (R : Int) / 4 + 32 = B) := hB.symm
  clear hB
  obtain ⟨N, hN⟩ : ∃ N : Nat, N = misN m := ⟨_, rfl⟩
  rw [← hN]
  have hN' : Hid (N = misN m) := hN
  clear hN
  by_cases hm : m ≤ 16
  · have hlim : ∀ k : Nat, (k : Int) < m → k < N := fun k h => by have := hN'.out; unfold misN at this; rw [if_pos hm] at this; omega
    have hlim' : ∀ k : Nat, k ≤ N → ¬ (k : Int) < m → k = N := fun k h h' => by have := hN'.out; unfold misN at this; rw [if_pos hm] at this; omega
    have hm16 : ¬ 16 < m := by omega
    go_enter Trym.func26, Trym.ntmps26
    go_wp2
    go_quiet (first
      | (go_at_call 28; exact Calls.quiet_of (offset_any nx ny b h0 h1 h2 h3 _ (by simpa using k1) (by simpa using k3)))
      | (go_at_call 29; exact Calls.quiet_of_same (HI _).out))
    go_wp2
    rw [hB'.out]
    go_loop [2, 21] (fun v i => ∃ k : Nat, k ≤ N ∧ v = .int .i64 (winP ny B k) ∧ i = .int .i64 k) (fun _ i => N - (intOf i).toNat)
    case atStart => exact ⟨0, by omega, rfl, rfl⟩
    case round =>
      obtain ⟨k, hk, rfl, rfl⟩ := hrel
      obtain ⟨wb0, wb1⟩ := winP_bd ny B h2 h3 (by omega) (by omega) k
      by_cases hlt : (k : Int) < m
      · have hkN := hlim k hlt
        by_cases h4 : 4 * winP ny B k ≤ ny
        · have h4' : ¬ ny < 4 * winP ny B k := by omega
          go_wp2
          go_round
          case rel => exact ⟨k + 1, by omega, by rw [winP_le ny B k h4], by go_num⟩
          case measure => simp [intOf]; omega
        · have h4' : ny < 4 * winP ny B k := by omega
          go_wp2
          go_round
          case rel => exact ⟨k + 1, by omega, by rw [winP_gt ny B k h4], by go_num⟩
          case measure => simp [intOf]; omega
      · go_wp2
        go_ret2
        have hkN := hlim' k hk (by omega)
        exact ⟨by rw [← hkN]; rfl, nq, rfl⟩
  · have hlim : ∀ k : Nat, (k : Int) < 16 → k < N := fun k h => by have := hN'.out; unfold misN at this; rw [if_neg hm] at this; omega
    have hlim' : ∀ k : Nat, k ≤ N → ¬ (k : Int) < 16 → k = N := fun k h h' => by have := hN'.out; unfold misN at this; rw [if_neg hm] at this; omega
    have hm16 : 16 < m := by omega
    go_enter Trym.func26, Trym.ntmps26
    go_wp2
    go_quiet (first
      | (go_at_call 28; exact Calls.quiet_of (offset_any nx ny b h0 h1 h2 h3 _ (by simpa using k1) (by simpa using k3)))
      | (go_at_call 29; exact Calls.quiet_of_same (HI _).out))
    go_wp2
    rw [hB'.out]
    go_loop [2, 21] (fun v i => ∃ k : Nat, k ≤ N ∧ v = .int .i64 (winP ny B k) ∧ i = .int .i64 k) (fun _ i => N - (intOf i).toNat)
    case atStart => exact ⟨0, by omega, rfl, rfl⟩
    case round =>
      obtain ⟨k, hk, rfl, rfl⟩ := hrel
      obtain ⟨wb0, wb1⟩ := winP_bd ny B h2 h3 (by omega) (by omega) k
      by_cases hlt : (k : Int) < 16
      · have hkN := hlim k hlt
        by_cases h4 : 4 * winP ny B k ≤ ny
        · have h4' : ¬ ny < 4 * winP ny B k := by omega
          go_wp2
          go_round
          case rel => exact ⟨k + 1, by omega, by rw [winP_le ny B k h4], by go_num⟩
          case measure => simp [intOf]; omega
        · have h4' : ny < 4 * winP ny B k := by omega
          go_wp2
          go_round
          case rel => exact ⟨k + 1, by omega, by rw [winP_gt ny B k h4], by go_num⟩
          case measure => simp [intOf]; omega
      · go_wp2
        go_ret2
        have hkN := hlim' k hk (by omega)
        exact ⟨by rw [← hkN]; rfl, nq, rfl⟩
end Go.Proofs.Qxb6614125aMods.Cur
