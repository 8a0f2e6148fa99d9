/-
  Laid by the kit's own tools (lay-shelf, then lay-plain) at this seat's translation; the module renamed, the remarks struck.
-/
import Derived.Shelf.Strings.Prefix
import Derived.Test.Qxb6000790aModsProg
namespace Go.Proofs
open Go.Shelf
def Trym.lays206_ren : Go.Shelf.Ren := ⟨fun | 206 => 23 | n => n, fun | 9 => 9 | 4 => 4 | 3 => 3 | n => n, fun | n => n⟩
theorem Trym.lays206 : Go.Proofs.Lays.n206 Trym.prog Trym.lays206_ren := {
  mixed := by kernel_rfl
  f206 := Trym.func23.trans (congrArg some (by kernel_rfl))
  t3 := Trym.underlying3
  a3 := Trym.isAgg3
  z3 := Trym.sizeOf3
  v3 := Trym.zeroValue3
  t4 := Trym.underlying4
  a4 := Trym.isAgg4
  z4 := Trym.sizeOf4
  v4 := Trym.zeroValue4
  t9 := Trym.underlying9
  a9 := Trym.isAgg9
  z9 := Trym.sizeOf9
  v9 := Trym.zeroValue9 }
open Go.RowKit Go.Lib in
theorem Trym.stringslite_HasPrefix (s p : ByteArray) (w : World) :
    Calls Trym.prog 23 #[.string s, .string p] w fun e w' => e = .returned (.bool (Lib.hasPrefix s.data.toList p.data.toList)) ∧ w' = w := Any.stringslite_HasPrefix Trym.lays206 s p w
def Trym.lays99_ren : Go.Shelf.Ren := ⟨fun | 99 => 21 | 206 => 23 | n => n, fun | 9 => 9 | 4 => 4 | 3 => 3 | n => n, fun | n => n⟩
theorem Trym.lays99 : Go.Proofs.Lays.n99 Trym.prog Trym.lays99_ren := {
  mixed := by kernel_rfl
  f99 := Trym.func21.trans (congrArg some (by kernel_rfl))
  f206 := Trym.func23.trans (congrArg some (by kernel_rfl))
  t3 := Trym.underlying3
  a3 := Trym.isAgg3
  z3 := Trym.sizeOf3
  v3 := Trym.zeroValue3
  t4 := Trym.underlying4
  a4 := Trym.isAgg4
  z4 := Trym.sizeOf4
  v4 := Trym.zeroValue4
  t9 := Trym.underlying9
  a9 := Trym.isAgg9
  z9 := Trym.sizeOf9
  v9 := Trym.zeroValue9 }
open Go.RowKit Go.Lib in
theorem Trym.strings_HasPrefix (s p : ByteArray) (w : World) :
    Calls Trym.prog 21 #[.string s, .string p] w fun e w' => e = .returned (.bool (Lib.hasPrefix s.data.toList p.data.toList)) ∧ w' = w := Any.strings_HasPrefix Trym.lays99 s p w
end Go.Proofs
