import Derived.Test.Qxb6614528aModsAdd
namespace Go.Proofs.Qxb6614528aMods.Lit
open Go.RowKit

theorem grown_trans {a b c : World} (h : Grown a b) (k : Grown b c) : Grown a c :=
  ⟨World.keptBut_trans h.1 k.1, fun x => (k.2.1 x).trans (h.2.1 x), Nat.le_trans h.2.2 k.2.2⟩
theorem grown_block {a b : World} (h : Grown a b) (i : Nat) (hi : i < a.heap.size) : b.heap[i]? = a.heap[i]? := by
  obtain ⟨⟨_, _, h3⟩, _, _⟩ := h
  have := h3 i hi
  revert this
  split
  · rename_i c t fr c' t' fr' e1 e2
    rintro ⟨rfl, rfl, hs, hc⟩
    have : c' = c := Array.ext_getElem? (fun j => hc j (fun f => f))
    rw [e1, e2, this]
  · rename_i e1 e2
    rintro (f | ⟨rfl, rfl⟩)
    · exact f.elim
    · rw [e1, e2]
  · exact fun h => h
theorem grown_cell {a b : World} (h : Grown a b) {p : Addr} (hp : p.block < a.heap.size) : b.cell? p = a.cell? p := World.cell?_of_block (w := a) (grown_block h p.block hp)
theorem grown_drewN {a b : World} (n : Nat) (h : Grown a b) : Grown a (b.drewN n) := h

theorem add_at (c : Nat) (hc : c < 256) (w : World) (R : Array Value) :
    Calls Trym.prog 9 #[.pointer (some ⟨w.heap.size + 1, 1, none⟩), .int .u8 c, .int .u8 c] ((w.alloc (.cells R 32)).alloc (.cells #[.int .u8 0, .int .u64 0, .int .u64 0, .int .u64 0, .int .u64 0] 32)) fun r w' =>
      r = .returned (.tuple #[]) ∧ ∃ n, w' = ((w.alloc (.cells R 32)).alloc (.cells #[.int .u8 0, .int .u64 (wd c 0), .int .u64 (wd c 1), .int .u64 (wd c 2), .int .u64 (wd c 3)] 32)).drewN n := by
  have h := add_any c hc (w.alloc (.cells R 32)) 0
  have e : (w.alloc (.cells R 32)).heap.size = w.heap.size + 1 := by simp
  rw [e, World.drewN_zero] at h
  exact h
theorem foldText_at (x0 x2 x3 : Int) (x : Nat) (hx : x < 18446744073709551616) (w : World) (R : Array Value) (n0 : Nat) :
    Calls Trym.prog 10 #[.pointer (some ⟨w.heap.size + 1, 1, none⟩)] (((w.alloc (.cells R 32)).alloc (.cells #[.int .u8 0, .int .u64 x0, .int .u64 x, .int .u64 x2, .int .u64 x3] 32)).drewN n0) fun r w' =>
      r = .returned (.tuple #[]) ∧ ∃ n, w' = ((w.alloc (.cells R 32)).alloc (.cells #[.int .u8 0, .int .u64 x0, .int .u64 (fw x 26), .int .u64 x2, .int .u64 x3] 32)).drewN n := by
  have h := foldText_any x0 x2 x3 x hx (w.alloc (.cells R 32)) n0
  have e : (w.alloc (.cells R 32)).heap.size = w.heap.size + 1 := by simp
  rw [e] at h
  exact h

set_option maxHeartbeats 1000000 in
theorem literal_any (c : Nat) (hc : c < 256) (fold : Bool) (w : World) :
    Calls Trym.prog 8 #[.int .u8 c, .bool fold] w fun e w' =>
      e = .returned (.agg #[.int .u8 0, .int .u64 (litW c fold 0), .int .u64 (litW c fold 1), .int .u64 (litW c fold 2), .int .u64 (litW c fold 3)]) ∧ Grown w w' := by
  cases fold
  · show Calls Trym.prog 8 #[.int .u8 c, .bool false] w fun e w' =>
      e = .returned (.agg #[.int .u8 0, .int .u64 (wd c 0), .int .u64 (wd c 1), .int .u64 (wd c 2), .int .u64 (wd c 3)]) ∧ Grown w w'
    have HA : ∀ R, Hid (Calls Trym.prog 9 #[.pointer (some ⟨w.heap.size + 1, 1, none⟩), .int .u8 c, .int .u8 c] ((w.alloc (.cells R 32)).alloc (.cells #[.int .u8 0, .int .u64 0, .int .u64 0, .int .u64 0, .int .u64 0] 32)) fun r w' =>
      r = .returned (.tuple #[]) ∧ ∃ n, w' = ((w.alloc (.cells R 32)).alloc (.cells #[.int .u8 0, .int .u64 (wd c 0), .int .u64 (wd c 1), .int .u64 (wd c 2), .int .u64 (wd c 3)] 32)).drewN n) := fun R => add_at c hc w R
    generalize wd c 0 = u0 at *
    generalize wd c 1 = u1 at *
    generalize wd c 2 = u2 at *
    generalize wd c 3 = u3 at *
    go_enter Trym.func8, Trym.ntmps8
    go_wp2_with (go_at_call 9; refine (HA _).out.mono ?_; rintro e w' ⟨rfl, n, rfl⟩)
    refine bodyPost_ret (v := .agg #[.int .u8 0, .int .u64 u0, .int .u64 u1, .int .u64 u2, .int .u64 u3]) (by simp [results, Trym.results8, go_sem]) rfl ⟨rfl, ?_⟩
    repeat (refine Grown.setCell ?_ (Nat.le_refl _) _)
    exact grown_drewN _ (((Grown.refl _).alloc _ _).alloc _ _)
  · show Calls Trym.prog 8 #[.int .u8 c, .bool true] w fun e w' =>
      e = .returned (.agg #[.int .u8 0, .int .u64 (wd c 0), .int .u64 (fw (wd c 1) 26), .int .u64 (wd c 2), .int .u64 (wd c 3)]) ∧ Grown w w'
    have hx := wd_lt c 1
    have HA : ∀ R, Hid (Calls Trym.prog 9 #[.pointer (some ⟨w.heap.size + 1, 1, none⟩), .int .u8 c, .int .u8 c] ((w.alloc (.cells R 32)).alloc (.cells #[.int .u8 0, .int .u64 0, .int .u64 0, .int .u64 0, .int .u64 0] 32)) fun r w' =>
      r = .returned (.tuple #[]) ∧ ∃ n, w' = ((w.alloc (.cells R 32)).alloc (.cells #[.int .u8 0, .int .u64 (wd c 0), .int .u64 (wd c 1), .int .u64 (wd c 2), .int .u64 (wd c 3)] 32)).drewN n) := fun R => add_at c hc w R
    generalize wd c 0 = u0 at *
    generalize wd c 1 = u1 at *
    generalize wd c 2 = u2 at *
    generalize wd c 3 = u3 at *
    have HF : ∀ R n0, Hid (Calls Trym.prog 10 #[.pointer (some ⟨w.heap.size + 1, 1, none⟩)] (((w.alloc (.cells R 32)).alloc (.cells #[.int .u8 0, .int .u64 u0, .int .u64 u1, .int .u64 u2, .int .u64 u3] 32)).drewN n0) fun r w' =>
      r = .returned (.tuple #[]) ∧ ∃ n, w' = ((w.alloc (.cells R 32)).alloc (.cells #[.int .u8 0, .int .u64 u0, .int .u64 (fw u1 26), .int .u64 u2, .int .u64 u3] 32)).drewN n) := fun R n0 => foldText_at u0 u2 u3 u1 hx w R n0
    go_enter Trym.func8, Trym.ntmps8
    go_wp2_with (first
      | (go_at_call 9; refine (HA _).out.mono ?_; rintro e w' ⟨rfl, n, rfl⟩)
      | (go_at_call 10; refine (HF _ _).out.mono ?_; rintro e w' ⟨rfl, n1, rfl⟩))
    refine bodyPost_ret (v := .agg #[.int .u8 0, .int .u64 u0, .int .u64 (fw u1 26), .int .u64 u2, .int .u64 u3]) (by simp [results, Trym.results8, go_sem]) rfl ⟨rfl, ?_⟩
    repeat (refine Grown.setCell ?_ (Nat.le_refl _) _)
    exact grown_drewN _ (((Grown.refl _).alloc _ _).alloc _ _)

set_option maxHeartbeats 1000000 in
theorem zzLiteral_any (c : Nat) (hc : c < 256) (fold : Bool) (w : World) :
    Calls Trym.prog 5 #[.int .u8 c, .bool fold] w fun e w' =>
      e = .returned (.tuple #[.int .u8 0, .agg #[.int .u64 (litW c fold 0), .int .u64 (litW c fold 1), .int .u64 (litW c fold 2), .int .u64 (litW c fold 3)]]) ∧ Grown w w' := by
  have HL : ∀ w, Hid (Calls Trym.prog 8 #[.int .u8 c, .bool fold] w fun e w' =>
      e = .returned (.agg #[.int .u8 0, .int .u64 (litW c fold 0), .int .u64 (litW c fold 1), .int .u64 (litW c fold 2), .int .u64 (litW c fold 3)]) ∧ Grown w w') := fun w => literal_any c hc fold w
  generalize litW c fold 0 = u0 at *
  generalize litW c fold 1 = u1 at *
  generalize litW c fold 2 = u2 at *
  generalize litW c fold 3 = u3 at *
  go_enter Trym.func5, Trym.ntmps5
  go_wp2_with (go_at_call 8; refine (HL _).out.mono ?_; rintro e w1 ⟨rfl, hg⟩)
  have hz : w.heap.size < w1.heap.size := by have := hg.2.2; simp at this; omega
  have hcell : ∀ i, w1.cell? ⟨w.heap.size, i, none⟩ = (w.alloc (.cells #[.int .u64 0, .int .u64 0, .int .u64 0, .int .u64 0] 23)).cell? ⟨w.heap.size, i, none⟩ := fun i => grown_cell hg (by simp)
  have k0 := hcell 0
  have k1 := hcell 1
  have k2 := hcell 2
  have k3 := hcell 3
  have hfr : ∀ i, w1.frozen? ⟨w.heap.size, i, none⟩ = false := fun i => by rw [hg.2.1]; simp
  rw [World.cell?_alloc_new] at k0 k1 k2 k3
  clear hcell
  have GH : Hid (Grown w w1) := grown_trans ((Grown.refl w).alloc _ _) hg
  clear hg
  refine QuietLast.wp_region_quiet_last 5 (by kernel_rfl) (by kernel_rfl) (by kernel_rfl) ?_
  simp only [List.take_succ_cons, List.take_zero, List.drop_succ_cons, List.drop_zero]
  repeat (first | go_big_quiet_step (fail) | quiet_step (fail))
  refine wpQuiet_nil ?_
  intro w2 hw2
  obtain ⟨k, rfl⟩ := hw2
  go_wp2
  refine bodyPost_ret (v := .tuple #[.int .u8 0, .agg #[.int .u64 u0, .int .u64 u1, .int .u64 u2, .int .u64 u3]]) (by simp [results, Trym.results5, go_sem, k0, k1, k2, k3, hz]) rfl ⟨rfl, ?_⟩
  repeat (refine Grown.setCell ?_ (Nat.le_refl _) _)
  exact grown_drewN _ (GH.out.alloc _ _)
end Go.Proofs.Qxb6614528aMods.Lit
