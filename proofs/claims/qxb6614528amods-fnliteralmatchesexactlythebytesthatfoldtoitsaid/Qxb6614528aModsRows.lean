/-
  No cell of these rows narrows 'for every input' (looked for: loops, veiled, ifaces, maps, wideKeys, modest, calm, conditions, laid).
  DERIVED. THE GIVEN ROWS OF THIS SEAT. 2 by the template 'for every input the law returns true; each argument reads behind the call as it read before'; 0 by the template 'total and deterministic' (their statements: Qxb6614528aModsTotals.lean).
  GIVEN WITH THE SEED: the statements are not yours to turn. If you find one false, say at which input.
  Laid BY PROGRAM, IN A SANDBOX (cutbox-rows.mjs): the forced cells as the released guide's own fill.sh prints them over the translation d91eec74a17c364a… (all of the seat's roots in one cut). By AI agents, Wed Nov 11 2026. No macro, syntax, notation, axiom, sorry.
-/
import Derived.Test.Qxb6614528aModsChecked
import GoSem.Claim
import GoSem.ClaimJoined
import GoSem.ClaimMapViews
import Derived.JoinedTies
import Derived.KernelRfl
namespace Go.Proofs.Qxb6614528aMods
/- THE CELL 'sum', in the pinned program and in every row, IS THE sha256 OF THE DUMP (.gsa) THAT Qxb6614528aModsProg.lean LOADS. Nothing in Lean hashes anything: it is a label: what it is worth is what the hold of that sum in a sandbox is worth. -/
noncomputable def Trym.pinned : Pinned := { name := "qxb6614528amods", sum := "d91eec74a17c364a818e40c662bd0c33237e9cd44c3012f05e1f33176d1bb0d2", checked := Trym.checked }
namespace Rows
def none {H : Type} : Left H := { results := [], args := [] }

/-- 'zzlaws_internal_ignore_b1.FnLiteralMatchesExactlyTheBytesThatFoldToIt': WHATEVER THE INPUT: true; the input reads as it did. -/
def fnLiteralMatchesExactlyTheBytesThatFoldToItSpec : ChangeSpec := { name := "fnLiteralMatchesExactlyTheBytesThatFoldToIt", fn := fun _ => fun
  | [d1, d2] => { results := [.lit (.bool true)], args := [d1, d2] }
  | _ => none }
def fnLiteralMatchesExactlyTheBytesThatFoldToItRow : OpenClaim := { program := "qxb6614528amods", sum := "d91eec74a17c364a818e40c662bd0c33237e9cd44c3012f05e1f33176d1bb0d2", func := "example.com/globtrot/globtrot/zzlaws_internal_ignore_b1.FnLiteralMatchesExactlyTheBytesThatFoldToIt", spec := "fnLiteralMatchesExactlyTheBytesThatFoldToIt", make := .lifted ["publicsums"], apart := false }
def FnLiteralMatchesExactlyTheBytesThatFoldToItSaid : Prop := fnLiteralMatchesExactlyTheBytesThatFoldToItRow.holds Trym.pinned (OpenSpec.ofChange fnLiteralMatchesExactlyTheBytesThatFoldToItSpec)

/-- ITS FALSE NEIGHBOUR: 'it returns false'. Refute it at one input. -/
def fnLiteralMatchesExactlyTheBytesThatFoldToItWrong : ChangeSpec := { name := "fnLiteralMatchesExactlyTheBytesThatFoldToIt", fn := fun _ => fun
  | [d1, d2] => { results := [.lit (.bool false)], args := [d1, d2] }
  | _ => none }
def FnLiteralMatchesExactlyTheBytesThatFoldToItWrongFalsely : Prop := fnLiteralMatchesExactlyTheBytesThatFoldToItRow.holds Trym.pinned (OpenSpec.ofChange fnLiteralMatchesExactlyTheBytesThatFoldToItWrong)

/-- 'zzlaws_internal_ignore_b1.FnLiteralTokensPartitionTheBytes': WHATEVER THE INPUT: true; the input reads as it did. -/
def fnLiteralTokensPartitionTheBytesSpec : ChangeSpec := { name := "fnLiteralTokensPartitionTheBytes", fn := fun _ => fun
  | [d1, d2] => { results := [.lit (.bool true)], args := [d1, d2] }
  | _ => none }
def fnLiteralTokensPartitionTheBytesRow : OpenClaim := { program := "qxb6614528amods", sum := "d91eec74a17c364a818e40c662bd0c33237e9cd44c3012f05e1f33176d1bb0d2", func := "example.com/globtrot/globtrot/zzlaws_internal_ignore_b1.FnLiteralTokensPartitionTheBytes", spec := "fnLiteralTokensPartitionTheBytes", make := .lifted ["publicsums"], apart := false }
def FnLiteralTokensPartitionTheBytesSaid : Prop := fnLiteralTokensPartitionTheBytesRow.holds Trym.pinned (OpenSpec.ofChange fnLiteralTokensPartitionTheBytesSpec)

/-- ITS FALSE NEIGHBOUR: 'it returns false'. Refute it at one input. -/
def fnLiteralTokensPartitionTheBytesWrong : ChangeSpec := { name := "fnLiteralTokensPartitionTheBytes", fn := fun _ => fun
  | [d1, d2] => { results := [.lit (.bool false)], args := [d1, d2] }
  | _ => none }
def FnLiteralTokensPartitionTheBytesWrongFalsely : Prop := fnLiteralTokensPartitionTheBytesRow.holds Trym.pinned (OpenSpec.ofChange fnLiteralTokensPartitionTheBytesWrong)

end Rows
end Go.Proofs.Qxb6614528aMods
