import Derived.Test.Qxb6614125aModsRows
import Derived.WalkKit
import Derived.ProofKit
namespace Go.Proofs.Qxb6614125aMods.Cont
open Go.RowKit

/-- 'match.continuedBy', plainly. -/
def cont (a b n c d m : Int) : Bool := (wrap64 (a + n) == c) && ((wrap64 (b + n) == d) && decide (n ≤ wrap64 (9223372036854775807 - m)))

theorem continuedBy (a b n c d m : Int) (w : World) :
    Calls Trym.prog 23 #[.agg #[.int .i64 a, .int .i64 b, .int .i64 n], .agg #[.int .i64 c, .int .i64 d, .int .i64 m]] w fun e w' =>
      e = .returned (.bool (cont a b n c d m)) ∧ ∃ c1 c2 : Array Value, w' = (w.alloc (.cells c1 52)).alloc (.cells c2 52) := by
  unfold cont
  go_enter Trym.func23, Trym.ntmps23
  go_wp2
  all_goals (go_ret; exact ⟨by simp [*], _, _, rfl⟩)

/-- The shim hands on. -/
theorem shim (a b n c d m : Int) (w : World) :
    Calls Trym.prog 7 #[.int .i64 a, .int .i64 b, .int .i64 n, .int .i64 c, .int .i64 d, .int .i64 m] w fun e w' =>
      e = .returned (.bool (cont a b n c d m)) ∧ ∃ c1 c2 : Array Value, w' = (w.alloc (.cells c1 52)).alloc (.cells c2 52) := by
  go_enter Trym.func7, Trym.ntmps7
  go_wp2_with (go_at_call 23; refine (continuedBy a b n c d m _).mono ?_; rintro e w' ⟨rfl, c1, c2, rfl⟩)
  go_ret
  exact ⟨rfl, _, _, rfl⟩

end Go.Proofs.Qxb6614125aMods.Cont
