import Derived.Test.Qxb6614528aModsLeaves
import Derived.Test.Qxb6614528aModsQuietLast
namespace Go.Proofs.Qxb6614528aMods.Lit
open Go.RowKit

/-- A token's cells: the kind, then the four words. -/
def tokC (x0 x1 x2 x3 : Int) : Array Value := #[.int .u8 0, .int .u64 x0, .int .u64 x1, .int .u64 x2, .int .u64 x3]

theorem setCell_new (v : World) (C : Array Value) (t : TypeId) (n i : Nat) (u : Value) : ((v.alloc (.cells C t)).drewN n).setCell ⟨v.heap.size, i, none⟩ u = (v.alloc (.cells (C.setIfInBounds i u) t)).drewN n := by
  have h := World.setCell_alloc_at (w := v) C t v.heap.size i u rfl
  exact congrArg (fun w => World.drewN w n) h

theorem fw_hit (x j : Nat) (h : (fw x j).testBit (j + 33) = true) : fw x (j + 1) = fw x j ||| 2 ^ (j + 1) := by
  show (if (fw x j).testBit (j + 33) = true then _ else _) = _; rw [if_pos h]
theorem fw_miss (x j : Nat) (h : (fw x j).testBit (j + 33) = false) : fw x (j + 1) = fw x j &&& (18446744073709551615 - 2 ^ (j + 1)) := by
  show (if (fw x j).testBit (j + 33) = true then _ else _) = _; rw [if_neg (by rw [h]; decide)]

set_option maxHeartbeats 1000000 in
theorem foldText_any (x0 x2 x3 : Int) (x : Nat) (hx : x < 18446744073709551616) (v : World) (n0 : Nat) :
    Calls Trym.prog 10 #[.pointer (some ⟨v.heap.size, 1, none⟩)] ((v.alloc (.cells (tokC x0 x x2 x3) 32)).drewN n0) fun r w' =>
      r = .returned (.tuple #[]) ∧ ∃ n, w' = (v.alloc (.cells (tokC x0 (fw x 26) x2 x3) 32)).drewN n := by
  unfold tokC
  go_enter Trym.func10, Trym.ntmps10
  go_wp2
  go_loopw [2] (fun cc wr => ∃ j n : Nat, j ≤ 26 ∧ cc = .int .u8 (65 + j) ∧ wr = (v.alloc (.cells #[.int .u8 0, .int .u64 x0, .int .u64 (fw x j), .int .u64 x2, .int .u64 x3] 32)).drewN n) (fun cc _ => (91 - intOf cc).toNat)
  case atStart => exact ⟨0, n0, by omega, rfl, rfl⟩
  case round =>
    obtain ⟨j, n, hj, rfl, rfl⟩ := hrel
    by_cases hlt : j < 26
    · have hl : 65 + (j : Int) ≤ 90 := by omega
      have hfl := fw_lt x hx j hj
      have HL : ∀ w, Hid (Calls Trym.prog 12 #[.int .u8 (65 + j)] w fun e w' => e = .returned (.int .u8 (65 + j + 32)) ∧ w' = w) := fun w => lower_letter (65 + j) (by omega) (by omega) w
      have HH : Hid (Calls Trym.prog 11 #[.pointer (some ⟨v.heap.size, 1, none⟩), .int .u8 (65 + j + 32)] ((v.alloc (.cells #[.int .u8 0, .int .u64 x0, .int .u64 (fw x j), .int .u64 x2, .int .u64 x3] 32)).drewN n) fun e w' => e = .returned (.bool ((fw x j).testBit (j + 33))) ∧ w' = (v.alloc (.cells #[.int .u8 0, .int .u64 x0, .int .u64 (fw x j), .int .u64 x2, .int .u64 x3] 32)).drewN n) := has_any j (fw x j) v.heap.size hlt hfl _ (by simp)
      have hd : (65 + (j : Int)) / 64 = 1 := by omega
      have hm : ((65 + (j : Int)) % 64).toNat = j + 1 := by omega
      cases hb : (fw x j).testBit (j + 33)
      · have hc := clr_is (fw x j) (j + 1) hfl (by omega)
        rw [hb] at HH
        have HB : Hid (fw x (j + 1) = _) := fw_miss x j hb
        clear hb
        go_wp2_with (first
          | (go_at_call 12; refine (HL _).out.mono ?_; rintro e w' ⟨rfl, rfl⟩)
          | (go_at_call 11; refine HH.out.mono ?_; rintro e w' ⟨rfl, rfl⟩))
        refine QuietLast.wp_region_quiet_last 12 (by kernel_rfl) (by kernel_rfl) (by kernel_rfl) ?_
        simp only [List.take_succ_cons, List.take_zero, List.drop_succ_cons, List.drop_zero]
        repeat (first | go_big_quiet_step (fail) | quiet_step (fail))
        refine wpQuiet_nil ?_
        intro w2 hw2
        obtain ⟨k, rfl⟩ := hw2
        go_wp2
        go_roundw
        case rel => exact ⟨j + 1, n + k, by omega, by go_num, by rw [setCell_new, HB.out]; rfl⟩
        case measure => simp [intOf]; omega
      · have hc := or_is (fw x j) (j + 1) hfl (by omega)
        rw [hb] at HH
        have HB : Hid (fw x (j + 1) = _) := fw_hit x j hb
        clear hb
        go_wp2_with (first
          | (go_at_call 12; refine (HL _).out.mono ?_; rintro e w' ⟨rfl, rfl⟩)
          | (go_at_call 11; refine HH.out.mono ?_; rintro e w' ⟨rfl, rfl⟩))
        refine QuietLast.wp_region_quiet_last 12 (by kernel_rfl) (by kernel_rfl) (by kernel_rfl) ?_
        simp only [List.take_succ_cons, List.take_zero, List.drop_succ_cons, List.drop_zero]
        repeat (first | go_big_quiet_step (fail) | quiet_step (fail))
        refine wpQuiet_nil ?_
        intro w2 hw2
        obtain ⟨k, rfl⟩ := hw2
        go_wp2
        go_roundw
        case rel => exact ⟨j + 1, n + k, by omega, by go_num, by rw [setCell_new, HB.out]; rfl⟩
        case measure => simp [intOf]; omega
    · have hj26 : j = 26 := by omega
      subst hj26
      go_wp2
      go_end0
      exact ⟨rfl, n, rfl⟩
end Go.Proofs.Qxb6614528aMods.Lit
