import Derived.Test.Qxb6614125aModsCursor
namespace Go.Proofs.Qxb6614125aMods.Cur
open Go.RowKit

set_option maxHeartbeats 1000000 in
theorem zzCursor_any (x nx y ny m A : Int) (R b c : Nat) (on : Bool) (h0 : 0 ≤ nx) (h1 : nx ≤ 1152921504606846976) (h2 : 0 ≤ ny) (h3 : ny ≤ 1152921504606846976) (r1 : (R : Int) * R ≤ nx) (r2 : nx < ((R : Int) + 1) * (R + 1)) (a0 : 8 ≤ A) (a1 : A ≤ 64) (w : World)
    (L : Lies w b c x nx y ny m A on) :
    Calls Trym.prog 18 #[.pointer (some ⟨c, 0, none⟩), .pointer (some ⟨b, 0, none⟩)] w fun e w' =>
      e = .returned (.tuple #[.pointer (some ⟨b, 0, none⟩), .int .i64 (ancP A nx ny m R on), .int .i64 x, .int .i64 y, .int .i64 (winP ny (basP nx ny R) (misN m)), .bool (on && (m == 0))]) ∧ Grown w w' := by
  have HC : ∀ w : World, Lies w b c x nx y ny m A on → Hid (Calls Trym.prog 25 #[.pointer (some ⟨c, 0, none⟩), .pointer (some ⟨b, 0, none⟩)] w fun e w' =>
      e = .returned (.agg #[.pointer (some ⟨b, 0, none⟩), .int .i64 (ancP A nx ny m R on), .int .i64 x, .int .i64 y, .int .i64 (winP ny (basP nx ny R) (misN m)), .bool (on && (m == 0))]) ∧ Grown w w') :=
    fun w L => cursor_any x nx y ny m A R b c on h0 h1 h2 h3 r1 r2 a0 a1 w L
  clear r1 r2
  generalize ancP A nx ny m R on = AN at *
  generalize winP ny (basP nx ny R) (misN m) = W at *
  generalize (on && (m == 0)) = O at *
  go_enter Trym.func18, Trym.ntmps18
  go_wp2_with (go_at_call 25; refine (HC _ L).out.mono ?_; rintro e w1 ⟨rfl, hg⟩)
  go_quiet (fail)
  go_wp2
  refine bodyPost_ret (v := .tuple #[.pointer (some ⟨b, 0, none⟩), .int .i64 AN, .int .i64 x, .int .i64 y, .int .i64 W, .bool O]) (by simp [results, Trym.results18, go_sem]) rfl ⟨rfl, ?_⟩
  exact grown_drewN' _ (hg.alloc _ _)

theorem newPiece (x nx y ny m : Int) (w : World) :
    Calls Trym.prog 17 #[.int .i64 x, .int .i64 nx, .int .i64 y, .int .i64 ny, .int .i64 m] w fun e w' =>
      e = .returned (.pointer (some ⟨w.heap.size, 0, none⟩)) ∧ ∃ cs : Array Value, w' = w.alloc (.cells cs 67) ∧ cs[0]? = some (.int .i64 x) ∧ cs[1]? = some (.int .i64 nx) ∧ cs[2]? = some (.int .i64 y) ∧ cs[3]? = some (.int .i64 ny) ∧ cs[16]? = some (.int .i64 m) := by
  go_enter Trym.func17, Trym.ntmps17
  go_wp2
  go_ret
  exact ⟨rfl, _, rfl, rfl, rfl, rfl, rfl, rfl⟩

theorem newPlan (A H : Int) (on : Bool) (w : World) :
    Calls Trym.prog 19 #[.int .i64 A, .int .i64 H, .bool on] w fun e w' =>
      e = .returned (.pointer (some ⟨w.heap.size, 0, none⟩)) ∧ ∃ cs : Array Value, w' = w.alloc (.cells cs 79) ∧ cs[0]? = some (.int .i64 A) ∧ cs[10]? = some (.bool on) := by
  go_enter Trym.func19, Trym.ntmps19
  go_wp2
  go_ret
  exact ⟨rfl, _, rfl, rfl, rfl⟩
end Go.Proofs.Qxb6614125aMods.Cur
