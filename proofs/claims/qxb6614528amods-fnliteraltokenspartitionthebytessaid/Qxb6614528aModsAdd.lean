import Derived.Test.Qxb6614528aModsFold
import Derived.Laws.BitsLemmas
namespace Go.Proofs.Qxb6614528aMods.Lit
open Go.RowKit

theorem wd_at (c q : Nat) (h : c / 64 = q) : wd c q = 2 ^ (c % 64) := by unfold wd; rw [if_pos h]
theorem wd_no (c q : Nat) (h : ¬ c / 64 = q) : wd c q = 0 := by unfold wd; rw [if_neg h]

theorem wraps_i64 (n : Int) (h₀ : 0 ≤ n) (h₁ : n < 2 ^ 63) : IntKind.i64.wrap n = n := by rw [IntKind.wrap_i64]; omega
theorem i64_and63 (x : Int) (h₀ : 0 ≤ x) (h₁ : x < 256) : bits .and .i64 x 63 = x % 64 := bits_mask .i64 63 (by decide) wraps_i64 6 (by decide) x h₀ (by omega)

set_option maxHeartbeats 1000000 in
theorem add_any (c : Nat) (hc : c < 256) (v : World) (n0 : Nat) :
    Calls Trym.prog 9 #[.pointer (some ⟨v.heap.size, 1, none⟩), .int .u8 c, .int .u8 c] ((v.alloc (.cells (tokC 0 0 0 0) 32)).drewN n0) fun r w' =>
      r = .returned (.tuple #[]) ∧ ∃ n, w' = (v.alloc (.cells (tokC (wd c 0) (wd c 1) (wd c 2) (wd c 3)) 32)).drewN n := by
  have hq : c / 64 = 0 ∨ c / 64 = 1 ∨ c / 64 = 2 ∨ c / 64 = 3 := by omega
  have ho : bits .or .u64 0 (IntKind.u64.wrap ((2 : Int) ^ (c % 64))) = ((2 ^ (c % 64) : Nat) : Int) := by
    have := or_is 0 (c % 64) (by decide) (Nat.mod_lt _ (by decide))
    simpa using this
  obtain ⟨P, hP⟩ : ∃ P : Nat, P = 2 ^ (c % 64) := ⟨_, rfl⟩
  rw [← hP] at ho
  have hw : ∀ q, c / 64 = q → wd c q = P := fun q h => (wd_at c q h).trans hP.symm
  clear hP
  have HW : Hid (∀ q, c / 64 = q → wd c q = P) := hw
  clear hw
  have h63 := i64_and63 c (by omega) (by omega)
  unfold tokC
  rcases hq with h | h | h | h
  · rw [HW.out 0 h, wd_no c 1 (by omega), wd_no c 2 (by omega), wd_no c 3 (by omega)]
    have hd : (c : Int) / 64 = 0 := by omega
    have hm : ((c : Int) % 64).toNat = c % 64 := by omega
    clear h HW
    go_enter Trym.func9, Trym.ntmps9
    go_wp2
    go_loopw [6] (fun i wr => ∃ k n : Nat, k ≤ 1 ∧ i = .int .i64 (c + k) ∧ wr = (v.alloc (.cells (if k = 0 then #[.int .u8 0, .int .u64 0, .int .u64 0, .int .u64 0, .int .u64 0] else #[.int .u8 0, .int .u64 P, .int .u64 0, .int .u64 0, .int .u64 0]) 32)).drewN n) (fun i _ => (300 - intOf i).toNat)
    case atStart => exact ⟨0, n0, by omega, by simp, rfl⟩
    case round =>
      obtain ⟨k, n, hk, rfl, rfl⟩ := hrel
      match k, hk with
      | 0, _ =>
        go_wp2
        refine QuietLast.wp_region_quiet_last 12 (by kernel_rfl) (by kernel_rfl) (by kernel_rfl) ?_
        simp only [List.take_succ_cons, List.take_zero, List.drop_succ_cons, List.drop_zero]
        repeat (first | go_big_quiet_step (fail) | quiet_step (fail))
        refine wpQuiet_nil ?_
        intro w2 hw2
        obtain ⟨k, rfl⟩ := hw2
        go_wp2
        go_roundw
        case rel => exact ⟨1, n + k, by omega, by simp, by rw [setCell_new]; rfl⟩
        case measure => simp [intOf]; omega
      | 1, _ =>
        go_wp2
        go_end0
        exact ⟨rfl, n, rfl⟩
  · rw [wd_no c 0 (by omega), HW.out 1 h, wd_no c 2 (by omega), wd_no c 3 (by omega)]
    have hd : (c : Int) / 64 = 1 := by omega
    have hm : ((c : Int) % 64).toNat = c % 64 := by omega
    clear h HW
    go_enter Trym.func9, Trym.ntmps9
    go_wp2
    go_loopw [6] (fun i wr => ∃ k n : Nat, k ≤ 1 ∧ i = .int .i64 (c + k) ∧ wr = (v.alloc (.cells (if k = 0 then #[.int .u8 0, .int .u64 0, .int .u64 0, .int .u64 0, .int .u64 0] else #[.int .u8 0, .int .u64 0, .int .u64 P, .int .u64 0, .int .u64 0]) 32)).drewN n) (fun i _ => (300 - intOf i).toNat)
    case atStart => exact ⟨0, n0, by omega, by simp, rfl⟩
    case round =>
      obtain ⟨k, n, hk, rfl, rfl⟩ := hrel
      match k, hk with
      | 0, _ =>
        go_wp2
        refine QuietLast.wp_region_quiet_last 12 (by kernel_rfl) (by kernel_rfl) (by kernel_rfl) ?_
        simp only [List.take_succ_cons, List.take_zero, List.drop_succ_cons, List.drop_zero]
        repeat (first | go_big_quiet_step (fail) | quiet_step (fail))
        refine wpQuiet_nil ?_
        intro w2 hw2
        obtain ⟨k, rfl⟩ := hw2
        go_wp2
        go_roundw
        case rel => exact ⟨1, n + k, by omega, by simp, by rw [setCell_new]; rfl⟩
        case measure => simp [intOf]; omega
      | 1, _ =>
        go_wp2
        go_end0
        exact ⟨rfl, n, rfl⟩
  · rw [wd_no c 0 (by omega), wd_no c 1 (by omega), HW.out 2 h, wd_no c 3 (by omega)]
    have hd : (c : Int) / 64 = 2 := by omega
    have hm : ((c : Int) % 64).toNat = c % 64 := by omega
    clear h HW
    go_enter Trym.func9, Trym.ntmps9
    go_wp2
    go_loopw [6] (fun i wr => ∃ k n : Nat, k ≤ 1 ∧ i = .int .i64 (c + k) ∧ wr = (v.alloc (.cells (if k = 0 then #[.int .u8 0, .int .u64 0, .int .u64 0, .int .u64 0, .int .u64 0] else #[.int .u8 0, .int .u64 0, .int .u64 0, .int .u64 P, .int .u64 0]) 32)).drewN n) (fun i _ => (300 - intOf i).toNat)
    case atStart => exact ⟨0, n0, by omega, by simp, rfl⟩
    case round =>
      obtain ⟨k, n, hk, rfl, rfl⟩ := hrel
      match k, hk with
      | 0, _ =>
        go_wp2
        refine QuietLast.wp_region_quiet_last 12 (by kernel_rfl) (by kernel_rfl) (by kernel_rfl) ?_
        simp only [List.take_succ_cons, List.take_zero, List.drop_succ_cons, List.drop_zero]
        repeat (first | go_big_quiet_step (fail) | quiet_step (fail))
        refine wpQuiet_nil ?_
        intro w2 hw2
        obtain ⟨k, rfl⟩ := hw2
        go_wp2
        go_roundw
        case rel => exact ⟨1, n + k, by omega, by simp, by rw [setCell_new]; rfl⟩
        case measure => simp [intOf]; omega
      | 1, _ =>
        go_wp2
        go_end0
        exact ⟨rfl, n, rfl⟩
  · rw [wd_no c 0 (by omega), wd_no c 1 (by omega), wd_no c 2 (by omega), HW.out 3 h]
    have hd : (c : Int) / 64 = 3 := by omega
    have hm : ((c : Int) % 64).toNat = c % 64 := by omega
    clear h HW
    go_enter Trym.func9, Trym.ntmps9
    go_wp2
    go_loopw [6] (fun i wr => ∃ k n : Nat, k ≤ 1 ∧ i = .int .i64 (c + k) ∧ wr = (v.alloc (.cells (if k = 0 then #[.int .u8 0, .int .u64 0, .int .u64 0, .int .u64 0, .int .u64 0] else #[.int .u8 0, .int .u64 0, .int .u64 0, .int .u64 0, .int .u64 P]) 32)).drewN n) (fun i _ => (300 - intOf i).toNat)
    case atStart => exact ⟨0, n0, by omega, by simp, rfl⟩
    case round =>
      obtain ⟨k, n, hk, rfl, rfl⟩ := hrel
      match k, hk with
      | 0, _ =>
        go_wp2
        refine QuietLast.wp_region_quiet_last 12 (by kernel_rfl) (by kernel_rfl) (by kernel_rfl) ?_
        simp only [List.take_succ_cons, List.take_zero, List.drop_succ_cons, List.drop_zero]
        repeat (first | go_big_quiet_step (fail) | quiet_step (fail))
        refine wpQuiet_nil ?_
        intro w2 hw2
        obtain ⟨k, rfl⟩ := hw2
        go_wp2
        go_roundw
        case rel => exact ⟨1, n + k, by omega, by simp, by rw [setCell_new]; rfl⟩
        case measure => simp [intOf]; omega
      | 1, _ =>
        go_wp2
        go_end0
        exact ⟨rfl, n, rfl⟩
end Go.Proofs.Qxb6614528aMods.Lit
