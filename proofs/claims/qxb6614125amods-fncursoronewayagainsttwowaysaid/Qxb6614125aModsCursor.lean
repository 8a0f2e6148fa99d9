import Derived.Test.Qxb6614125aModsAnchor
import Derived.RowKit3
import Derived.Test.Qxb6614125aModsQuietLast
namespace Go.Proofs.Qxb6614125aMods.Cur
open Go.RowKit

theorem grown_trans {a b c : World} (h : Grown a b) (k : Grown b c) : Grown a c :=
  ⟨World.keptBut_trans h.1 k.1, fun x => (k.2.1 x).trans (h.2.1 x), Nat.le_trans h.2.2 k.2.2⟩
theorem grown_block {a b : World} (h : Grown a b) (i : Nat) (hi : i < a.heap.size) : b.heap[i]? = a.heap[i]? := by
  obtain ⟨⟨_, _, h3⟩, _, _⟩ := h
  have := h3 i hi
  revert this
  split
  · rename_i c t fr c' t' fr' e1 e2
    rintro ⟨rfl, rfl, hs, hc⟩
    have : c' = c := Array.ext_getElem? (fun j => hc j (fun f => f))
    rw [e1, e2, this]
  · rename_i e1 e2
    rintro (f | ⟨rfl, rfl⟩)
    · exact f.elim
    · rw [e1, e2]
  · exact fun h => h
theorem grown_cell {a b : World} (h : Grown a b) {p : Addr} (hp : p.block < a.heap.size) : b.cell? p = a.cell? p := World.cell?_of_block (w := a) (grown_block h p.block hp)
theorem grown_drewN (a : World) (n : Nat) : Grown a (a.drewN n) := (Grown.refl a : Grown a a)
theorem grown_drewN' {a b : World} (n : Nat) (h : Grown a b) : Grown a (b.drewN n) := grown_trans h (grown_drewN b n)

/-- What the two plans and the piece hold, of what is read. -/
structure Lies (w : World) (b c : Nat) (x nx y ny m A : Int) (on : Bool) : Prop where
  b0 : w.cell? ⟨b, 0, none⟩ = some (.int .i64 x)
  b1 : w.cell? ⟨b, 1, none⟩ = some (.int .i64 nx)
  b2 : w.cell? ⟨b, 2, none⟩ = some (.int .i64 y)
  b3 : w.cell? ⟨b, 3, none⟩ = some (.int .i64 ny)
  b16 : w.cell? ⟨b, 16, none⟩ = some (.int .i64 m)
  c0 : w.cell? ⟨c, 0, none⟩ = some (.int .i64 A)
  c10 : w.cell? ⟨c, 10, none⟩ = some (.bool on)
  bs : b < w.heap.size
  cs : c < w.heap.size
theorem Lies.grown {w w' : World} {b c : Nat} {x nx y ny m A : Int} {on : Bool} (h : Lies w b c x nx y ny m A on) (g : Grown w w') : Lies w' b c x nx y ny m A on :=
  ⟨(grown_cell g h.bs).trans h.b0, (grown_cell g h.bs).trans h.b1, (grown_cell g h.bs).trans h.b2, (grown_cell g h.bs).trans h.b3, (grown_cell g h.bs).trans h.b16, (grown_cell g h.cs).trans h.c0, (grown_cell g h.cs).trans h.c10, Nat.lt_of_lt_of_le h.bs g.2.2, Nat.lt_of_lt_of_le h.cs g.2.2⟩

/-- The anchor's length. -/
def ancP (A nx ny m : Int) (R : Nat) (on : Bool) : Int := if on = true ∧ m = 0 then oneP A (offP nx ny) else twoP A (winP ny (basP nx ny R) (misN m)) (basP nx ny R)

theorem anchor_any (x nx y ny m A : Int) (R b c : Nat) (on : Bool) (h0 : 0 ≤ nx) (h1 : nx ≤ 1152921504606846976) (h2 : 0 ≤ ny) (h3 : ny ≤ 1152921504606846976) (r1 : (R : Int) * R ≤ nx) (r2 : nx < ((R : Int) + 1) * (R + 1)) (a0 : 8 ≤ A) (a1 : A ≤ 64) (w : World)
    (L : Lies w b c x nx y ny m A on) :
    Calls Trym.prog 27 #[.pointer (some ⟨c, 0, none⟩), .pointer (some ⟨b, 0, none⟩)] w fun e w' => e = .returned (.int .i64 (ancP A nx ny m R on)) ∧ ∃ n, w' = w.drewN n := by
  unfold ancP
  by_cases h : on = true ∧ m = 0
  · rw [if_pos h]
    obtain ⟨rfl, rfl⟩ := h
    exact anchor_one nx ny A b c h0 h1 h2 h3 a0 a1 w L.b1 L.b3 L.b16 L.c0 L.c10
  · rw [if_neg h]
    exact anchor_two nx ny A m R b c on h0 h1 h2 h3 r1 r2 a0 a1 w L.b1 L.b3 L.b16 L.c0 L.c10 (by cases on; exact .inl rfl; exact .inr (fun hm => h ⟨rfl, hm⟩))

set_option maxHeartbeats 1000000 in
theorem cursor_any (x nx y ny m A : Int) (R b c : Nat) (on : Bool) (h0 : 0 ≤ nx) (h1 : nx ≤ 1152921504606846976) (h2 : 0 ≤ ny) (h3 : ny ≤ 1152921504606846976) (r1 : (R : Int) * R ≤ nx) (r2 : nx < ((R : Int) + 1) * (R + 1)) (a0 : 8 ≤ A) (a1 : A ≤ 64) (w : World)
    (L : Lies w b c x nx y ny m A on) :
    Calls Trym.prog 25 #[.pointer (some ⟨c, 0, none⟩), .pointer (some ⟨b, 0, none⟩)] w fun e w' =>
      e = .returned (.agg #[.pointer (some ⟨b, 0, none⟩), .int .i64 (ancP A nx ny m R on), .int .i64 x, .int .i64 y, .int .i64 (winP ny (basP nx ny R) (misN m)), .bool (on && (m == 0))]) ∧ Grown w w' := by
  have HS : ∀ w : World, Lies w b c x nx y ny m A on → Hid (Calls Trym.prog 26 #[.pointer (some ⟨b, 0, none⟩)] w fun e w' => e = .returned (.tuple #[.int .i64 (winP ny (basP nx ny R) (misN m)), .int .i64 (basP nx ny R)]) ∧ ∃ n, w' = w.drewN n) :=
    fun w L => searchWindow_any nx ny m R b h0 h1 h2 h3 r1 r2 w L.b1 L.b3 L.b16
  have HA : ∀ w : World, Lies w b c x nx y ny m A on → Hid (Calls Trym.prog 27 #[.pointer (some ⟨c, 0, none⟩), .pointer (some ⟨b, 0, none⟩)] w fun e w' => e = .returned (.int .i64 (ancP A nx ny m R on)) ∧ ∃ n, w' = w.drewN n) :=
    fun w L => anchor_any x nx y ny m A R b c on h0 h1 h2 h3 r1 r2 a0 a1 w L
  have HL : ∀ ob, Lies (w.alloc (.cells ob 69)) b c x nx y ny m A on := fun ob => L.grown ((Grown.refl _).alloc _ _)
  clear r1 r2
  generalize ancP A nx ny m R on = AN at *
  generalize winP ny (basP nx ny R) (misN m) = W at *
  generalize basP nx ny R = B at *
  go_enter Trym.func25, Trym.ntmps25
  go_wp2_with (go_at_call 26; refine (HS _ (HL _)).out.mono ?_; rintro e w1 ⟨rfl, hn⟩)
  have L1 : Lies w1 b c x nx y ny m A on := by obtain ⟨n, rfl⟩ := hn; exact (HL _).grown (grown_drewN _ _)
  have HA1 : ∀ k, Hid (Calls Trym.prog 27 #[.pointer (some ⟨c, 0, none⟩), .pointer (some ⟨b, 0, none⟩)] (w1.drewN k) fun e w' => e = .returned (.int .i64 AN) ∧ ∃ n, w' = (w1.drewN k).drewN n) := fun k => HA _ (L1.grown (grown_drewN _ _))
  obtain ⟨l0, l1, l2, l3, l16, lc0, lc10, lb, lc⟩ := L1
  clear HL HS HA L
  cases on
  · refine QuietLast.wp_region_quiet_last 26 (by kernel_rfl) (by kernel_rfl) (by kernel_rfl) ?_
    simp only [List.take_succ_cons, List.take_zero, List.drop_succ_cons, List.drop_zero]
    repeat (first | go_big_quiet_step ((go_at_call 27; exact Calls.quiet_of (HA1 _).out)) | quiet_step ((go_at_call 27; exact Calls.quiet_of (HA1 _).out)))
    refine wpQuiet_nil ?_
    intro w2 hw2
    obtain ⟨k, rfl⟩ := hw2
    obtain ⟨n, rfl⟩ := hn
    clear l0 l1 l2 l3 l16 lc0 lc10 lb lc HA1
    go_wp2
    refine bodyPost_ret (v := .agg #[.pointer (some ⟨b, 0, none⟩), .int .i64 AN, .int .i64 x, .int .i64 y, .int .i64 W, .bool (false)]) (by simp [results, Trym.results25, go_sem]) rfl ⟨by simp, ?_⟩
    repeat (refine Grown.setCell ?_ (Nat.le_refl _) _)
    exact grown_drewN' _ ((Grown.refl _).alloc _ _)
  · refine QuietLast.wp_region_quiet_last 26 (by kernel_rfl) (by kernel_rfl) (by kernel_rfl) ?_
    simp only [List.take_succ_cons, List.take_zero, List.drop_succ_cons, List.drop_zero]
    repeat (first | go_big_quiet_step ((go_at_call 27; exact Calls.quiet_of (HA1 _).out)) | quiet_step ((go_at_call 27; exact Calls.quiet_of (HA1 _).out)))
    refine wpQuiet_nil ?_
    intro w2 hw2
    obtain ⟨k, rfl⟩ := hw2
    obtain ⟨n, rfl⟩ := hn
    clear l0 l1 l2 l3 l16 lc0 lc10 lb lc HA1
    go_wp2
    refine bodyPost_ret (v := .agg #[.pointer (some ⟨b, 0, none⟩), .int .i64 AN, .int .i64 x, .int .i64 y, .int .i64 W, .bool (m == 0)]) (by simp [results, Trym.results25, go_sem]) rfl ⟨by simp, ?_⟩
    repeat (refine Grown.setCell ?_ (Nat.le_refl _) _)
    exact grown_drewN' _ ((Grown.refl _).alloc _ _)
end Go.Proofs.Qxb6614125aMods.Cur
