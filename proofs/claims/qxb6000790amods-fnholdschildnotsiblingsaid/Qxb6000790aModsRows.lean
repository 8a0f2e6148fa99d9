/-
  No cell of these rows narrows 'for every input' (looked for: loops, veiled, ifaces, maps, wideKeys, modest, calm, conditions, laid).
  DERIVED. THE GIVEN ROWS OF THIS SEAT. 5 by the template 'for every input the law returns true; each argument reads behind the call as it read before'; 0 by the template 'total and deterministic' (their statements: Qxb6000790aModsTotals.lean).
  GIVEN WITH THE SEED: the statements are not yours to turn. If you find one false, say at which input.
  Laid BY PROGRAM, IN A SANDBOX (cutbox-rows.mjs): the forced cells as the released guide's own fill.sh prints them over the translation 19c7b47ac3f74898… (all of the seat's roots in one cut). By AI agents, Wed Nov 11 2026. No macro, syntax, notation, axiom, sorry.
-/
import Derived.Test.Qxb6000790aModsChecked
import GoSem.Claim
import GoSem.ClaimJoined
import GoSem.ClaimMapViews
import Derived.JoinedTies
import Derived.KernelRfl
namespace Go.Proofs.Qxb6000790aMods
/- THE CELL 'sum', in the pinned program and in every row, IS THE sha256 OF THE DUMP (.gsa) THAT Qxb6000790aModsProg.lean LOADS. Nothing in Lean hashes anything: it is a label: what it is worth is what the hold of that sum in a sandbox is worth. -/
noncomputable def Trym.pinned : Pinned := { name := "qxb6000790amods", sum := "19c7b47ac3f748983411469cfa3d111d7238e24b9b55b063ffe9eacf41226cbb", checked := Trym.checked }
namespace Rows
def none {H : Type} : Left H := { results := [], args := [] }

/-- 'zzlaws_pkg_transfer_b1.FnHoldsTransitive': WHATEVER THE INPUT: true; the input reads as it did. -/
def fnHoldsTransitiveSpec : ChangeSpec := { name := "fnHoldsTransitive", fn := fun _ => fun
  | [d1, d2, d3] => { results := [.lit (.bool true)], args := [d1, d2, d3] }
  | _ => none }
def fnHoldsTransitiveRow : OpenClaim := { program := "qxb6000790amods", sum := "19c7b47ac3f748983411469cfa3d111d7238e24b9b55b063ffe9eacf41226cbb", func := "example.com/tacitferry/tacitferry/zzlaws_pkg_transfer_b1.FnHoldsTransitive", spec := "fnHoldsTransitive", make := .lifted ["publicsums"], apart := false }
def FnHoldsTransitiveSaid : Prop := fnHoldsTransitiveRow.holds Trym.pinned (OpenSpec.ofChange fnHoldsTransitiveSpec)

/-- ITS FALSE NEIGHBOUR: 'it returns false'. Refute it at one input. -/
def fnHoldsTransitiveWrong : ChangeSpec := { name := "fnHoldsTransitive", fn := fun _ => fun
  | [d1, d2, d3] => { results := [.lit (.bool false)], args := [d1, d2, d3] }
  | _ => none }
def FnHoldsTransitiveWrongFalsely : Prop := fnHoldsTransitiveRow.holds Trym.pinned (OpenSpec.ofChange fnHoldsTransitiveWrong)

/-- 'zzlaws_pkg_transfer_b1.FnHoldsStrictOrder': WHATEVER THE INPUT: true; the input reads as it did. -/
def fnHoldsStrictOrderSpec : ChangeSpec := { name := "fnHoldsStrictOrder", fn := fun _ => fun
  | [d1, d2] => { results := [.lit (.bool true)], args := [d1, d2] }
  | _ => none }
def fnHoldsStrictOrderRow : OpenClaim := { program := "qxb6000790amods", sum := "19c7b47ac3f748983411469cfa3d111d7238e24b9b55b063ffe9eacf41226cbb", func := "example.com/tacitferry/tacitferry/zzlaws_pkg_transfer_b1.FnHoldsStrictOrder", spec := "fnHoldsStrictOrder", make := .lifted ["publicsums"], apart := false }
def FnHoldsStrictOrderSaid : Prop := fnHoldsStrictOrderRow.holds Trym.pinned (OpenSpec.ofChange fnHoldsStrictOrderSpec)

/-- ITS FALSE NEIGHBOUR: 'it returns false'. Refute it at one input. -/
def fnHoldsStrictOrderWrong : ChangeSpec := { name := "fnHoldsStrictOrder", fn := fun _ => fun
  | [d1, d2] => { results := [.lit (.bool false)], args := [d1, d2] }
  | _ => none }
def FnHoldsStrictOrderWrongFalsely : Prop := fnHoldsStrictOrderRow.holds Trym.pinned (OpenSpec.ofChange fnHoldsStrictOrderWrong)

/-- 'zzlaws_pkg_transfer_b1.FnHoldsChildNotSibling': WHATEVER THE INPUT: true; the input reads as it did. -/
def fnHoldsChildNotSiblingSpec : ChangeSpec := { name := "fnHoldsChildNotSibling", fn := fun _ => fun
  | [d1, d2, d3] => { results := [.lit (.bool true)], args := [d1, d2, d3] }
  | _ => none }
def fnHoldsChildNotSiblingRow : OpenClaim := { program := "qxb6000790amods", sum := "19c7b47ac3f748983411469cfa3d111d7238e24b9b55b063ffe9eacf41226cbb", func := "example.com/tacitferry/tacitferry/zzlaws_pkg_transfer_b1.FnHoldsChildNotSibling", spec := "fnHoldsChildNotSibling", make := .lifted ["publicsums"], apart := false }
def FnHoldsChildNotSiblingSaid : Prop := fnHoldsChildNotSiblingRow.holds Trym.pinned (OpenSpec.ofChange fnHoldsChildNotSiblingSpec)

/-- ITS FALSE NEIGHBOUR: 'it returns false'. Refute it at one input. -/
def fnHoldsChildNotSiblingWrong : ChangeSpec := { name := "fnHoldsChildNotSibling", fn := fun _ => fun
  | [d1, d2, d3] => { results := [.lit (.bool false)], args := [d1, d2, d3] }
  | _ => none }
def FnHoldsChildNotSiblingWrongFalsely : Prop := fnHoldsChildNotSiblingRow.holds Trym.pinned (OpenSpec.ofChange fnHoldsChildNotSiblingWrong)

/-- 'zzlaws_pkg_transfer_b1.FnChunkMessageParsesBack': WHATEVER THE INPUT: true; the input reads as it did. -/
def fnChunkMessageParsesBackSpec : ChangeSpec := { name := "fnChunkMessageParsesBack", fn := fun _ => fun
  | [d1, d2, d3] => { results := [.lit (.bool true)], args := [d1, d2, d3] }
  | _ => none }
def fnChunkMessageParsesBackRow : OpenClaim := { program := "qxb6000790amods", sum := "19c7b47ac3f748983411469cfa3d111d7238e24b9b55b063ffe9eacf41226cbb", func := "example.com/tacitferry/tacitferry/zzlaws_pkg_transfer_b1.FnChunkMessageParsesBack", spec := "fnChunkMessageParsesBack", make := .lifted ["publicsums"], apart := false }
def FnChunkMessageParsesBackSaid : Prop := fnChunkMessageParsesBackRow.holds Trym.pinned (OpenSpec.ofChange fnChunkMessageParsesBackSpec)

/-- ITS FALSE NEIGHBOUR: 'it returns false'. Refute it at one input. -/
def fnChunkMessageParsesBackWrong : ChangeSpec := { name := "fnChunkMessageParsesBack", fn := fun _ => fun
  | [d1, d2, d3] => { results := [.lit (.bool false)], args := [d1, d2, d3] }
  | _ => none }
def FnChunkMessageParsesBackWrongFalsely : Prop := fnChunkMessageParsesBackRow.holds Trym.pinned (OpenSpec.ofChange fnChunkMessageParsesBackWrong)

/-- 'zzlaws_pkg_transfer_b1.FnChunkMessageBufferIrrelevant': WHATEVER THE INPUT: true; the input reads as it did. -/
def fnChunkMessageBufferIrrelevantSpec : ChangeSpec := { name := "fnChunkMessageBufferIrrelevant", fn := fun _ => fun
  | [d1, d2, d3, d4, d5, d6] => { results := [.lit (.bool true)], args := [d1, d2, d3, d4, d5, d6] }
  | _ => none }
def fnChunkMessageBufferIrrelevantRow : OpenClaim := { program := "qxb6000790amods", sum := "19c7b47ac3f748983411469cfa3d111d7238e24b9b55b063ffe9eacf41226cbb", func := "example.com/tacitferry/tacitferry/zzlaws_pkg_transfer_b1.FnChunkMessageBufferIrrelevant", spec := "fnChunkMessageBufferIrrelevant", make := .lifted ["publicsums"], apart := false }
def FnChunkMessageBufferIrrelevantSaid : Prop := fnChunkMessageBufferIrrelevantRow.holds Trym.pinned (OpenSpec.ofChange fnChunkMessageBufferIrrelevantSpec)

/-- ITS FALSE NEIGHBOUR: 'it returns false'. Refute it at one input. -/
def fnChunkMessageBufferIrrelevantWrong : ChangeSpec := { name := "fnChunkMessageBufferIrrelevant", fn := fun _ => fun
  | [d1, d2, d3, d4, d5, d6] => { results := [.lit (.bool false)], args := [d1, d2, d3, d4, d5, d6] }
  | _ => none }
def FnChunkMessageBufferIrrelevantWrongFalsely : Prop := fnChunkMessageBufferIrrelevantRow.holds Trym.pinned (OpenSpec.ofChange fnChunkMessageBufferIrrelevantWrong)

end Rows
end Go.Proofs.Qxb6000790aMods
