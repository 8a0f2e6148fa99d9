import Derived.Test.Qxb6614155aModsQueue
import Derived.WalkKit
import Derived.ProofKit
import Derived.WalkLawsBesides
import Derived.RowKit3
namespace Go.Proofs.Qxb6614155aMods.Chain
open Go.RowKit

theorem grown_trans {a b c : World} (h : Grown a b) (k : Grown b c) : Grown a c :=
  ⟨World.keptBut_trans h.1 k.1, fun x => (k.2.1 x).trans (h.2.1 x), Nat.le_trans h.2.2 k.2.2⟩
theorem ret_true {b : Bool} (h : b = true) : Ending.returned (.bool b) = .returned (.bool true) := by rw [h]

/-- How many of the first k runs are queued. -/
def qP (d0 : Int) (k : Nat) : Int := if d0 ≤ 10 then (if (k : Int) < 11 - d0 then k else 11 - d0) else 0

theorem qP_zero (d0 : Int) : qP d0 0 = 0 := by unfold qP; split <;> (try split) <;> omega
theorem qP_low (d0 : Int) (k : Nat) (h : d0 + k ≤ 10) (_h0 : 0 ≤ d0) : qP d0 k = k ∧ qP d0 (k + 1) = k + 1 := by
  unfold qP; constructor <;> (split <;> (try split)) <;> omega
theorem qP_high (d0 : Int) (k : Nat) (h : 10 < d0 + k) (_h0 : 0 ≤ d0) : qP d0 (k + 1) = qP d0 k := by
  unfold qP; split <;> (try (split <;> split)) <;> omega
theorem qP_bd (d0 : Int) (k : Nat) (h0 : 0 ≤ d0) : 0 ≤ qP d0 k ∧ qP d0 k ≤ k := by
  unfold qP; split <;> (try split) <;> omega

/-- The law's 'want'. -/
theorem qP_want1 (d0 : Int) (N : Nat) (h8 : d0 ≤ 10) (h9 : (N : Int) < 11 - d0) : qP d0 N = N := by
  unfold qP; rw [if_pos h8, if_pos h9]
theorem qP_want2 (d0 : Int) (N : Nat) (h8 : d0 ≤ 10) (h9 : ¬ (N : Int) < 11 - d0) : qP d0 N = 11 - d0 := by
  unfold qP; rw [if_pos h8, if_neg h9]
theorem qP_want3 (d0 : Int) (N : Nat) (h8 : ¬ d0 ≤ 10) : qP d0 N = 0 := by
  unfold qP; rw [if_neg h8]

set_option maxHeartbeats 1000000 in
set_option maxRecDepth 100000 in
theorem main1 (d0 : Int) (N : Nat) (s e : ByteArray) (c1 : ¬ 1048576 < (s.size : Int)) (c2 : ¬ 1048576 < (e.size : Int)) (c3 : ¬ 1048576 < (s.size : Int) + e.size) (c5 : ¬ 65536 < (N : Int)) (c6 : ¬ d0 < 0) (c7 : ¬ 1073741824 < d0) (c8 : d0 ≤ 10) (c9 : (N : Int) < 11 - d0) (w : World) :
    Calls Trym.prog 3 #[.int .i64 d0, .int .i64 N, .string s, .string e] w fun r w' => r = .returned (.bool true) ∧ Grown w w' := by
  have HWN : Hid (qP d0 N = N) := qP_want1 d0 N c8 c9
  go_enter Trym.func3, Trym.ntmps3
  go_wp2
  go_loopw [11, 12, 13] (fun q k i wr => ∃ c : Nat, c ≤ N ∧ i = .int .i64 c ∧ q = .int .i64 (qP d0 c) ∧ k = .int .i64 (c - qP d0 c) ∧ Grown w wr) (fun _ _ i _ => N - (intOf i).toNat)
  case atStart => exact ⟨0, by omega, rfl, by rw [qP_zero], by rw [qP_zero]; rfl, Grown.refl _⟩
  case round =>
    obtain ⟨c, hc, rfl, rfl, rfl, hg⟩ := hrel
    have GH : Hid (Grown w wr) := hg
    clear hg
    obtain ⟨b0, b1⟩ := qP_bd d0 c (by omega)
    by_cases hlt : (c : Int) < N
    · by_cases hd : d0 + c ≤ 10
      · have HQ : Hid (qP d0 c = c ∧ qP d0 (c + 1) = c + 1) := qP_low d0 c hd (by omega)
        have hz : ¬ 0 < (c : Int) - qP d0 c := by have := HQ.out.1; omega
        have HC : Hid (Calls Trym.prog 6 #[.pointer (some ⟨wr.heap.size, 0, none⟩)] (wr.alloc (.cells #[.string ⟨#[]⟩, .string ⟨#[]⟩, .int .u64 0, .int .i64 0, .pointer none, .int .u64 0, .int .i64 0, .pointer none, .int .u64 0, .int .i64 0, .pointer none, .string s, .pointer none, .int .i64 0, .pointer none, .string e, .string ⟨#[]⟩, .string ⟨#[]⟩, .string ⟨#[]⟩, .int .i64 (d0 + c)] 37)) fun r w' =>
          r = .returned (.tuple #[]) ∧ w' = wr.alloc (.cells #[.string ⟨#[]⟩, .string ⟨#[]⟩, .int .u64 0, .int .i64 0, .pointer none, .int .u64 0, .int .i64 0, .pointer none, .int .u64 0, .int .i64 0, .pointer none, .string ⟨#[113, 117, 101, 117, 101, 100]⟩, .pointer none, .int .i64 0, .pointer none, .string e, .string ⟨#[]⟩, .string ⟨#[]⟩, .string ⟨#[]⟩, .int .i64 (d0 + c)] 37)) := zzQueue_low s e (d0 + c) (by omega) wr
        go_wp2_with (first
          | (refine wpList_store_new rfl 37 (.tmp 14) (.tmp 60) rfl rfl wr _ _ _ rfl rfl (by kernel_rfl) rfl (runCells_one s e _) ?_)
          | (go_at_call 6; refine HC.out.mono ?_; rintro r w' ⟨rfl, rfl⟩))
        go_roundw
        case rel => exact ⟨c + 1, by omega, by go_num, by have := HQ.out; exact congrArg (Value.int .i64) (by omega), by have := HQ.out; exact congrArg (Value.int .i64) (by omega), GH.out.alloc _ _⟩
        case measure => simp [intOf]; omega
      · exfalso; omega
    · have hcN : c = N := by omega
      subst hcN
      have h2 := HWN.out
      go_wp2
      go_ret
      exact ⟨by simp, GH.out⟩

set_option maxHeartbeats 1000000 in
set_option maxRecDepth 100000 in
theorem main2 (d0 : Int) (N : Nat) (s e : ByteArray) (c1 : ¬ 1048576 < (s.size : Int)) (c2 : ¬ 1048576 < (e.size : Int)) (c3 : ¬ 1048576 < (s.size : Int) + e.size) (c5 : ¬ 65536 < (N : Int)) (c6 : ¬ d0 < 0) (c7 : ¬ 1073741824 < d0) (c8 : d0 ≤ 10) (c9 : ¬ (N : Int) < 11 - d0) (w : World) :
    Calls Trym.prog 3 #[.int .i64 d0, .int .i64 N, .string s, .string e] w fun r w' => r = .returned (.bool true) ∧ Grown w w' := by
  have HWN : Hid (qP d0 N = 11 - d0) := qP_want2 d0 N c8 c9
  go_enter Trym.func3, Trym.ntmps3
  go_wp2
  go_loopw [11, 12, 13] (fun q k i wr => ∃ c : Nat, c ≤ N ∧ i = .int .i64 c ∧ q = .int .i64 (qP d0 c) ∧ k = .int .i64 (c - qP d0 c) ∧ Grown w wr) (fun _ _ i _ => N - (intOf i).toNat)
  case atStart => exact ⟨0, by omega, rfl, by rw [qP_zero], by rw [qP_zero]; rfl, Grown.refl _⟩
  case round =>
    obtain ⟨c, hc, rfl, rfl, rfl, hg⟩ := hrel
    have GH : Hid (Grown w wr) := hg
    clear hg
    obtain ⟨b0, b1⟩ := qP_bd d0 c (by omega)
    by_cases hlt : (c : Int) < N
    · by_cases hd : d0 + c ≤ 10
      · have HQ : Hid (qP d0 c = c ∧ qP d0 (c + 1) = c + 1) := qP_low d0 c hd (by omega)
        have hz : ¬ 0 < (c : Int) - qP d0 c := by have := HQ.out.1; omega
        have HC : Hid (Calls Trym.prog 6 #[.pointer (some ⟨wr.heap.size, 0, none⟩)] (wr.alloc (.cells #[.string ⟨#[]⟩, .string ⟨#[]⟩, .int .u64 0, .int .i64 0, .pointer none, .int .u64 0, .int .i64 0, .pointer none, .int .u64 0, .int .i64 0, .pointer none, .string s, .pointer none, .int .i64 0, .pointer none, .string e, .string ⟨#[]⟩, .string ⟨#[]⟩, .string ⟨#[]⟩, .int .i64 (d0 + c)] 37)) fun r w' =>
          r = .returned (.tuple #[]) ∧ w' = wr.alloc (.cells #[.string ⟨#[]⟩, .string ⟨#[]⟩, .int .u64 0, .int .i64 0, .pointer none, .int .u64 0, .int .i64 0, .pointer none, .int .u64 0, .int .i64 0, .pointer none, .string ⟨#[113, 117, 101, 117, 101, 100]⟩, .pointer none, .int .i64 0, .pointer none, .string e, .string ⟨#[]⟩, .string ⟨#[]⟩, .string ⟨#[]⟩, .int .i64 (d0 + c)] 37)) := zzQueue_low s e (d0 + c) (by omega) wr
        go_wp2_with (first
          | (refine wpList_store_new rfl 37 (.tmp 14) (.tmp 60) rfl rfl wr _ _ _ rfl rfl (by kernel_rfl) rfl (runCells_one s e _) ?_)
          | (go_at_call 6; refine HC.out.mono ?_; rintro r w' ⟨rfl, rfl⟩))
        go_roundw
        case rel => exact ⟨c + 1, by omega, by go_num, by have := HQ.out; exact congrArg (Value.int .i64) (by omega), by have := HQ.out; exact congrArg (Value.int .i64) (by omega), GH.out.alloc _ _⟩
        case measure => simp [intOf]; omega
      · have HQ : Hid (qP d0 (c + 1) = qP d0 c) := qP_high d0 c (by omega) (by omega)
        have HC : Hid (Calls Trym.prog 6 #[.pointer (some ⟨wr.heap.size, 0, none⟩)] (wr.alloc (.cells #[.string ⟨#[]⟩, .string ⟨#[]⟩, .int .u64 0, .int .i64 0, .pointer none, .int .u64 0, .int .i64 0, .pointer none, .int .u64 0, .int .i64 0, .pointer none, .string s, .pointer none, .int .i64 0, .pointer none, .string e, .string ⟨#[]⟩, .string ⟨#[]⟩, .string ⟨#[]⟩, .int .i64 (d0 + c)] 37)) fun r w' =>
          r = .returned (.tuple #[]) ∧ w' = wr.alloc (.cells #[.string ⟨#[]⟩, .string ⟨#[]⟩, .int .u64 0, .int .i64 0, .pointer none, .int .u64 0, .int .i64 0, .pointer none, .int .u64 0, .int .i64 0, .pointer none, .string ⟨#[115, 107, 105, 112, 112, 101, 100]⟩, .pointer none, .int .i64 0, .pointer none, .string ⟨#[99, 97, 115, 99, 97, 100, 101, 95, 108, 105, 109, 105, 116]⟩, .string ⟨#[]⟩, .string ⟨#[]⟩, .string ⟨#[]⟩, .int .i64 (d0 + c)] 37)) := zzQueue_high s e (d0 + c) (by omega) wr
        go_wp2_with (first
          | (refine wpList_store_new rfl 37 (.tmp 14) (.tmp 60) rfl rfl wr _ _ _ rfl rfl (by kernel_rfl) rfl (runCells_one s e _) ?_)
          | (go_at_call 6; refine HC.out.mono ?_; rintro r w' ⟨rfl, rfl⟩))
        go_roundw
        case rel => exact ⟨c + 1, by omega, by go_num, by rw [HQ.out], by have := HQ.out; exact congrArg (Value.int .i64) (by omega), GH.out.alloc _ _⟩
        case measure => simp [intOf]; omega
    · have hcN : c = N := by omega
      subst hcN
      have h2 := HWN.out
      go_wp2
      go_ret
      exact ⟨by simp, GH.out⟩

set_option maxHeartbeats 1000000 in
set_option maxRecDepth 100000 in
theorem main3 (d0 : Int) (N : Nat) (s e : ByteArray) (c1 : ¬ 1048576 < (s.size : Int)) (c2 : ¬ 1048576 < (e.size : Int)) (c3 : ¬ 1048576 < (s.size : Int) + e.size) (c5 : ¬ 65536 < (N : Int)) (c6 : ¬ d0 < 0) (c7 : ¬ 1073741824 < d0) (c8 : ¬ d0 ≤ 10) (w : World) :
    Calls Trym.prog 3 #[.int .i64 d0, .int .i64 N, .string s, .string e] w fun r w' => r = .returned (.bool true) ∧ Grown w w' := by
  have HWN : Hid (qP d0 N = 0) := qP_want3 d0 N c8
  go_enter Trym.func3, Trym.ntmps3
  go_wp2
  go_loopw [11, 12, 13] (fun q k i wr => ∃ c : Nat, c ≤ N ∧ i = .int .i64 c ∧ q = .int .i64 (qP d0 c) ∧ k = .int .i64 (c - qP d0 c) ∧ Grown w wr) (fun _ _ i _ => N - (intOf i).toNat)
  case atStart => exact ⟨0, by omega, rfl, by rw [qP_zero], by rw [qP_zero]; rfl, Grown.refl _⟩
  case round =>
    obtain ⟨c, hc, rfl, rfl, rfl, hg⟩ := hrel
    have GH : Hid (Grown w wr) := hg
    clear hg
    obtain ⟨b0, b1⟩ := qP_bd d0 c (by omega)
    by_cases hlt : (c : Int) < N
    · by_cases hd : d0 + c ≤ 10
      · exfalso; omega
      · have HQ : Hid (qP d0 (c + 1) = qP d0 c) := qP_high d0 c (by omega) (by omega)
        have HC : Hid (Calls Trym.prog 6 #[.pointer (some ⟨wr.heap.size, 0, none⟩)] (wr.alloc (.cells #[.string ⟨#[]⟩, .string ⟨#[]⟩, .int .u64 0, .int .i64 0, .pointer none, .int .u64 0, .int .i64 0, .pointer none, .int .u64 0, .int .i64 0, .pointer none, .string s, .pointer none, .int .i64 0, .pointer none, .string e, .string ⟨#[]⟩, .string ⟨#[]⟩, .string ⟨#[]⟩, .int .i64 (d0 + c)] 37)) fun r w' =>
          r = .returned (.tuple #[]) ∧ w' = wr.alloc (.cells #[.string ⟨#[]⟩, .string ⟨#[]⟩, .int .u64 0, .int .i64 0, .pointer none, .int .u64 0, .int .i64 0, .pointer none, .int .u64 0, .int .i64 0, .pointer none, .string ⟨#[115, 107, 105, 112, 112, 101, 100]⟩, .pointer none, .int .i64 0, .pointer none, .string ⟨#[99, 97, 115, 99, 97, 100, 101, 95, 108, 105, 109, 105, 116]⟩, .string ⟨#[]⟩, .string ⟨#[]⟩, .string ⟨#[]⟩, .int .i64 (d0 + c)] 37)) := zzQueue_high s e (d0 + c) (by omega) wr
        go_wp2_with (first
          | (refine wpList_store_new rfl 37 (.tmp 14) (.tmp 60) rfl rfl wr _ _ _ rfl rfl (by kernel_rfl) rfl (runCells_one s e _) ?_)
          | (go_at_call 6; refine HC.out.mono ?_; rintro r w' ⟨rfl, rfl⟩))
        go_roundw
        case rel => exact ⟨c + 1, by omega, by go_num, by rw [HQ.out], by have := HQ.out; exact congrArg (Value.int .i64) (by omega), GH.out.alloc _ _⟩
        case measure => simp [intOf]; omega
    · have hcN : c = N := by omega
      subst hcN
      have h2 := HWN.out
      go_wp2
      go_ret
      exact ⟨by simp, GH.out⟩

set_option maxHeartbeats 1000000 in
set_option maxRecDepth 100000 in
theorem law (d0 n : Int) (s e : ByteArray) (hs : s.size ≤ maxLen) (he : e.size ≤ maxLen) (w : World) :
    Calls Trym.prog 3 #[.int .i64 d0, .int .i64 n, .string s, .string e] w fun r w' => r = .returned (.bool true) ∧ Grown w w' := by
  unfold maxLen at hs he
  by_cases c1 : 1048576 < (s.size : Int)
  · go_enter Trym.func3, Trym.ntmps3
    go_wp2
    go_ret
    exact ⟨rfl, Grown.refl _⟩
  by_cases c2 : 1048576 < (e.size : Int)
  · go_enter Trym.func3, Trym.ntmps3
    go_wp2
    go_ret
    exact ⟨rfl, Grown.refl _⟩
  by_cases c3 : 1048576 < (s.size : Int) + e.size
  · go_enter Trym.func3, Trym.ntmps3
    go_wp2
    go_ret
    exact ⟨rfl, Grown.refl _⟩
  by_cases c4 : n < 0
  · go_enter Trym.func3, Trym.ntmps3
    go_wp2
    go_ret
    exact ⟨rfl, Grown.refl _⟩
  by_cases c5 : 65536 < n
  · go_enter Trym.func3, Trym.ntmps3
    go_wp2
    go_ret
    exact ⟨rfl, Grown.refl _⟩
  by_cases c6 : d0 < 0
  · go_enter Trym.func3, Trym.ntmps3
    go_wp2
    go_ret
    exact ⟨rfl, Grown.refl _⟩
  by_cases c7 : 1073741824 < d0
  · go_enter Trym.func3, Trym.ntmps3
    go_wp2
    go_ret
    exact ⟨rfl, Grown.refl _⟩
  obtain ⟨N, rfl⟩ := Int.eq_ofNat_of_zero_le (by omega : 0 ≤ n)
  by_cases c8 : d0 ≤ 10
  · by_cases c9 : (N : Int) < 11 - d0
    · exact main1 d0 N s e c1 c2 c3 c5 c6 c7 c8 c9 w
    · exact main2 d0 N s e c1 c2 c3 c5 c6 c7 c8 c9 w
  · exact main3 d0 N s e c1 c2 c3 c5 c6 c7 c8 w
end Go.Proofs.Qxb6614155aMods.Chain
