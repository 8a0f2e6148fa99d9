/-
  No cell of these rows narrows 'for every input' (looked for: loops, veiled, ifaces, maps, wideKeys, modest, calm, conditions, laid).
  DERIVED. THE GIVEN ROWS OF THIS SEAT. 1 by the template 'for every input the law returns true; each argument reads behind the call as it read before'; 0 by the template 'total and deterministic' (their statements: Qxb6614155aModsTotals.lean).
  GIVEN WITH THE SEED: the statements are not yours to turn. If you find one false, say at which input.
  Laid BY PROGRAM, IN A SANDBOX (cutbox-rows.mjs): the forced cells as the released guide's own fill.sh prints them over the translation 34630a66865a0d23… (all of the seat's roots in one cut). By AI agents, Wed Nov 11 2026. No macro, syntax, notation, axiom, sorry.
-/
import Derived.Test.Qxb6614155aModsChecked
import GoSem.Claim
import GoSem.ClaimJoined
import GoSem.ClaimMapViews
import Derived.JoinedTies
import Derived.KernelRfl
namespace Go.Proofs.Qxb6614155aMods
/- THE CELL 'sum', in the pinned program and in every row, IS THE sha256 OF THE DUMP (.gsa) THAT Qxb6614155aModsProg.lean LOADS. Nothing in Lean hashes anything: it is a label: what it is worth is what the hold of that sum in a sandbox is worth. -/
noncomputable def Trym.pinned : Pinned := { name := "qxb6614155amods", sum := "34630a66865a0d238a4a3e96bc349cca2af00b0b415ba641922968d215dff3af", checked := Trym.checked }
namespace Rows
def none {H : Type} : Left H := { results := [], args := [] }

/-- 'zzlaws_internal_store_b1.FnQueueChainStopsPastMaxDepth': WHATEVER THE INPUT: true; the input reads as it did. -/
def fnQueueChainStopsPastMaxDepthSpec : ChangeSpec := { name := "fnQueueChainStopsPastMaxDepth", fn := fun _ => fun
  | [d1, d2, d3, d4] => { results := [.lit (.bool true)], args := [d1, d2, d3, d4] }
  | _ => none }
def fnQueueChainStopsPastMaxDepthRow : OpenClaim := { program := "qxb6614155amods", sum := "34630a66865a0d238a4a3e96bc349cca2af00b0b415ba641922968d215dff3af", func := "example.com/wakeline/wakeline/zzlaws_internal_store_b1.FnQueueChainStopsPastMaxDepth", spec := "fnQueueChainStopsPastMaxDepth", make := .lifted ["publicsums"], apart := false }
def FnQueueChainStopsPastMaxDepthSaid : Prop := fnQueueChainStopsPastMaxDepthRow.holds Trym.pinned (OpenSpec.ofChange fnQueueChainStopsPastMaxDepthSpec)

/-- ITS FALSE NEIGHBOUR: 'it returns false'. Refute it at one input. -/
def fnQueueChainStopsPastMaxDepthWrong : ChangeSpec := { name := "fnQueueChainStopsPastMaxDepth", fn := fun _ => fun
  | [d1, d2, d3, d4] => { results := [.lit (.bool false)], args := [d1, d2, d3, d4] }
  | _ => none }
def FnQueueChainStopsPastMaxDepthWrongFalsely : Prop := fnQueueChainStopsPastMaxDepthRow.holds Trym.pinned (OpenSpec.ofChange fnQueueChainStopsPastMaxDepthWrong)

end Rows
end Go.Proofs.Qxb6614155aMods
