/-
  No cell of these rows narrows 'for every input' (looked for: loops, veiled, ifaces, maps, wideKeys, modest, calm, conditions, laid).
  DERIVED. THE GIVEN ROWS OF THIS SEAT. 4 by the template 'for every input the law returns true; each argument reads behind the call as it read before'; 0 by the template 'total and deterministic' (their statements: Qxb6614125aModsTotals.lean).
  GIVEN WITH THE SEED: the statements are not yours to turn. If you find one false, say at which input.
  Laid BY PROGRAM, IN A SANDBOX (cutbox-rows.mjs): the forced cells as the released guide's own fill.sh prints them over the translation 071003cfe8173439… (all of the seat's roots in one cut). By AI agents, Wed Nov 11 2026. No macro, syntax, notation, axiom, sorry.
-/
import Derived.Test.Qxb6614125aModsChecked
import GoSem.Claim
import GoSem.ClaimJoined
import GoSem.ClaimMapViews
import Derived.JoinedTies
import Derived.KernelRfl
namespace Go.Proofs.Qxb6614125aMods
/- THE CELL 'sum', in the pinned program and in every row, IS THE sha256 OF THE DUMP (.gsa) THAT Qxb6614125aModsProg.lean LOADS. Nothing in Lean hashes anything: it is a label: what it is worth is what the hold of that sum in a sandbox is worth. -/
noncomputable def Trym.pinned : Pinned := { name := "qxb6614125amods", sum := "071003cfe8173439cc9833357afacdeeccd125bb867b23de800a9cf714c6b880", checked := Trym.checked }
namespace Rows
def none {H : Type} : Left H := { results := [], args := [] }

/-- 'zzlaws_splice_b1.FnMatchCutContinues': WHATEVER THE INPUT: true; the input reads as it did. -/
def fnMatchCutContinuesSpec : ChangeSpec := { name := "fnMatchCutContinues", fn := fun _ => fun
  | [d1, d2, d3, d4, d5, d6, d7] => { results := [.lit (.bool true)], args := [d1, d2, d3, d4, d5, d6, d7] }
  | _ => none }
def fnMatchCutContinuesRow : OpenClaim := { program := "qxb6614125amods", sum := "071003cfe8173439cc9833357afacdeeccd125bb867b23de800a9cf714c6b880", func := "example.com/splicewire/splicewire/zzlaws_splice_b1.FnMatchCutContinues", spec := "fnMatchCutContinues", make := .lifted ["publicsums"], apart := false }
def FnMatchCutContinuesSaid : Prop := fnMatchCutContinuesRow.holds Trym.pinned (OpenSpec.ofChange fnMatchCutContinuesSpec)

/-- ITS FALSE NEIGHBOUR: 'it returns false'. Refute it at one input. -/
def fnMatchCutContinuesWrong : ChangeSpec := { name := "fnMatchCutContinues", fn := fun _ => fun
  | [d1, d2, d3, d4, d5, d6, d7] => { results := [.lit (.bool false)], args := [d1, d2, d3, d4, d5, d6, d7] }
  | _ => none }
def FnMatchCutContinuesWrongFalsely : Prop := fnMatchCutContinuesRow.holds Trym.pinned (OpenSpec.ofChange fnMatchCutContinuesWrong)

/-- 'zzlaws_splice_b1.FnMatchThreeCutsAdjacentOnly': WHATEVER THE INPUT: true; the input reads as it did. -/
def fnMatchThreeCutsAdjacentOnlySpec : ChangeSpec := { name := "fnMatchThreeCutsAdjacentOnly", fn := fun _ => fun
  | [d1, d2, d3, d4, d5] => { results := [.lit (.bool true)], args := [d1, d2, d3, d4, d5] }
  | _ => none }
def fnMatchThreeCutsAdjacentOnlyRow : OpenClaim := { program := "qxb6614125amods", sum := "071003cfe8173439cc9833357afacdeeccd125bb867b23de800a9cf714c6b880", func := "example.com/splicewire/splicewire/zzlaws_splice_b1.FnMatchThreeCutsAdjacentOnly", spec := "fnMatchThreeCutsAdjacentOnly", make := .lifted ["publicsums"], apart := false }
def FnMatchThreeCutsAdjacentOnlySaid : Prop := fnMatchThreeCutsAdjacentOnlyRow.holds Trym.pinned (OpenSpec.ofChange fnMatchThreeCutsAdjacentOnlySpec)

/-- ITS FALSE NEIGHBOUR: 'it returns false'. Refute it at one input. -/
def fnMatchThreeCutsAdjacentOnlyWrong : ChangeSpec := { name := "fnMatchThreeCutsAdjacentOnly", fn := fun _ => fun
  | [d1, d2, d3, d4, d5] => { results := [.lit (.bool false)], args := [d1, d2, d3, d4, d5] }
  | _ => none }
def FnMatchThreeCutsAdjacentOnlyWrongFalsely : Prop := fnMatchThreeCutsAdjacentOnlyRow.holds Trym.pinned (OpenSpec.ofChange fnMatchThreeCutsAdjacentOnlyWrong)

/-- 'zzlaws_splice_b1.FnBlockPolysAddThenFind': WHATEVER THE INPUT: true; the input reads as it did. -/
def fnBlockPolysAddThenFindSpec : ChangeSpec := { name := "fnBlockPolysAddThenFind", fn := fun _ => fun
  | [d1, d2, d3] => { results := [.lit (.bool true)], args := [d1, d2, d3] }
  | _ => none }
def fnBlockPolysAddThenFindRow : OpenClaim := { program := "qxb6614125amods", sum := "071003cfe8173439cc9833357afacdeeccd125bb867b23de800a9cf714c6b880", func := "example.com/splicewire/splicewire/zzlaws_splice_b1.FnBlockPolysAddThenFind", spec := "fnBlockPolysAddThenFind", make := .lifted ["publicsums"], apart := false }
def FnBlockPolysAddThenFindSaid : Prop := fnBlockPolysAddThenFindRow.holds Trym.pinned (OpenSpec.ofChange fnBlockPolysAddThenFindSpec)

/-- ITS FALSE NEIGHBOUR: 'it returns false'. Refute it at one input. -/
def fnBlockPolysAddThenFindWrong : ChangeSpec := { name := "fnBlockPolysAddThenFind", fn := fun _ => fun
  | [d1, d2, d3] => { results := [.lit (.bool false)], args := [d1, d2, d3] }
  | _ => none }
def FnBlockPolysAddThenFindWrongFalsely : Prop := fnBlockPolysAddThenFindRow.holds Trym.pinned (OpenSpec.ofChange fnBlockPolysAddThenFindWrong)

/-- 'zzlaws_splice_b1.FnCursorOneWayAgainstTwoWay': WHATEVER THE INPUT: true; the input reads as it did. -/
def fnCursorOneWayAgainstTwoWaySpec : ChangeSpec := { name := "fnCursorOneWayAgainstTwoWay", fn := fun _ => fun
  | [d1, d2, d3, d4, d5, d6, d7] => { results := [.lit (.bool true)], args := [d1, d2, d3, d4, d5, d6, d7] }
  | _ => none }
def fnCursorOneWayAgainstTwoWayRow : OpenClaim := { program := "qxb6614125amods", sum := "071003cfe8173439cc9833357afacdeeccd125bb867b23de800a9cf714c6b880", func := "example.com/splicewire/splicewire/zzlaws_splice_b1.FnCursorOneWayAgainstTwoWay", spec := "fnCursorOneWayAgainstTwoWay", make := .lifted ["publicsums"], apart := false }
def FnCursorOneWayAgainstTwoWaySaid : Prop := fnCursorOneWayAgainstTwoWayRow.holds Trym.pinned (OpenSpec.ofChange fnCursorOneWayAgainstTwoWaySpec)

/-- ITS FALSE NEIGHBOUR: 'it returns false'. Refute it at one input. -/
def fnCursorOneWayAgainstTwoWayWrong : ChangeSpec := { name := "fnCursorOneWayAgainstTwoWay", fn := fun _ => fun
  | [d1, d2, d3, d4, d5, d6, d7] => { results := [.lit (.bool false)], args := [d1, d2, d3, d4, d5, d6, d7] }
  | _ => none }
def FnCursorOneWayAgainstTwoWayWrongFalsely : Prop := fnCursorOneWayAgainstTwoWayRow.holds Trym.pinned (OpenSpec.ofChange fnCursorOneWayAgainstTwoWayWrong)

end Rows
end Go.Proofs.Qxb6614125aMods
