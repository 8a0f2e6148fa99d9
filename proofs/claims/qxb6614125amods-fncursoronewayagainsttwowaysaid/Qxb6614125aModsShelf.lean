/-
  Laid by the kit's own tools (lay-shelf, then lay-plain) at this seat's translation; the module renamed, the remarks struck.
-/
import Derived.Shelf.Strconv.Itoa0
import Derived.Test.Qxb6614125aModsProg
namespace Go.Proofs
open Go.Shelf
def Trym.lays129_ren : Go.Shelf.Ren := ⟨fun | 129 => 30 | n => n, fun | 53 => 29 | 3 => 3 | 4 => 4 | 46 => 80 | 5 => 5 | 9 => 9 | n => n, fun | n => n⟩
theorem Trym.lays129 : Go.Proofs.Lays.n129 Trym.prog Trym.lays129_ren := {
  mixed := by kernel_rfl
  f129 := Trym.func30.trans (congrArg some (by kernel_rfl))
  t3 := Trym.underlying3
  a3 := Trym.isAgg3
  z3 := Trym.sizeOf3
  v3 := Trym.zeroValue3
  t4 := Trym.underlying4
  a4 := Trym.isAgg4
  z4 := Trym.sizeOf4
  v4 := Trym.zeroValue4
  t5 := Trym.underlying5
  a5 := Trym.isAgg5
  z5 := Trym.sizeOf5
  v5 := Trym.zeroValue5
  t9 := Trym.underlying9
  a9 := Trym.isAgg9
  z9 := Trym.sizeOf9
  v9 := Trym.zeroValue9
  t46 := Trym.underlying80
  a46 := Trym.isAgg80
  z46 := Trym.sizeOf80
  v46 := Trym.zeroValue80
  t53 := Trym.underlying29
  a53 := Trym.isAgg29
  z53 := Trym.sizeOf29
  v53 := Trym.zeroValue29 }
theorem Trym.bits_Len64 (x : Int) (w : World) (h0 : 0 ≤ x) (h1 : x ≤ 18446744073709551615) :
    Calls Trym.prog 30 #[.int .u64 x] w fun e w' => e = .returned (.int .i64 (Lib.bitLen x.toNat)) ∧ w' = w := Any.bits_Len64 Trym.lays129 x w h0 h1
end Go.Proofs
