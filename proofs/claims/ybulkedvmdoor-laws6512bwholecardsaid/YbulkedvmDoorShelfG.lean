import Derived.Shelf.Spec.SlicesGrow
import Derived.Shelf.SlGeneric
import Derived.Test.YbulkedvmDoorProg
namespace Go.Proofs
open Go.Shelf
set_option maxRecDepth 1000000
def Ybad.growL_ren : Go.Shelf.Ren := ⟨fun | 4 => 39 | n => n, fun | 22 => 23 | 25 => 5 | 3 => 3 | 4 => 4 | 9 => 9 | 20 => 20 | 0 => 0 | n => n, fun | n => n⟩
theorem Ybad.growL : Go.Proofs.Lays8.n4 Ybad.prog Ybad.growL_ren := {
  mixed := by kernel_rfl
  f4 := ⟨Ybad.f39.name, by decide, Ybad.func39.trans (congrArg some (by kernel_rfl))⟩
  t0 := Ybad.underlying0
  a0 := Ybad.isAgg0
  z0 := Ybad.sizeOf0
  v0 := Ybad.zeroValue0
  t3 := Ybad.underlying3
  a3 := Ybad.isAgg3
  z3 := Ybad.sizeOf3
  v3 := Ybad.zeroValue3
  t4 := Ybad.underlying4
  a4 := Ybad.isAgg4
  z4 := Ybad.sizeOf4
  v4 := Ybad.zeroValue4
  t9 := Ybad.underlying9
  a9 := Ybad.isAgg9
  z9 := Ybad.sizeOf9
  v9 := Ybad.zeroValue9
  t20 := Ybad.underlying20
  a20 := Ybad.isAgg20
  z20 := Ybad.sizeOf20
  v20 := Ybad.zeroValue20
  t22 := Ybad.underlying23
  a22 := Ybad.isAgg23
  z22 := Ybad.sizeOf23
  v22 := Ybad.zeroValue23 }
end Go.Proofs
