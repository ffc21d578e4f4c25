/- The contract of slices.Grow at this program, in plain words (laid by program). -/
import Derived.Shelf.Spec.SlicesGrow
import Derived.Test.YbulkccwProg
namespace Go.Proofs
open Go.Shelf
def Yba.growM_ren : Go.Shelf.Ren := ⟨fun | 4 => 16 | n => n, fun | 22 => 23 | 25 => 32 | 3 => 3 | 4 => 4 | 9 => 9 | 20 => 20 | 0 => 0 | n => n, fun | n => n⟩
theorem Yba.growM : Go.Proofs.Lays8.n4 Yba.prog Yba.growM_ren := {
  mixed := by kernel_rfl
  f4 := ⟨Yba.f16.name, by decide, Yba.func16.trans (congrArg some (by kernel_rfl))⟩
  t0 := Yba.underlying0
  a0 := Yba.isAgg0
  z0 := Yba.sizeOf0
  v0 := Yba.zeroValue0
  t3 := Yba.underlying3
  a3 := Yba.isAgg3
  z3 := Yba.sizeOf3
  v3 := Yba.zeroValue3
  t4 := Yba.underlying4
  a4 := Yba.isAgg4
  z4 := Yba.sizeOf4
  v4 := Yba.zeroValue4
  t9 := Yba.underlying9
  a9 := Yba.isAgg9
  z9 := Yba.sizeOf9
  v9 := Yba.zeroValue9
  t20 := Yba.underlying20
  a20 := Yba.isAgg20
  z20 := Yba.sizeOf20
  v20 := Yba.zeroValue20
  t22 := Yba.underlying23
  a22 := Yba.isAgg23
  z22 := Yba.sizeOf23
  v22 := Yba.zeroValue23 }
end Go.Proofs
