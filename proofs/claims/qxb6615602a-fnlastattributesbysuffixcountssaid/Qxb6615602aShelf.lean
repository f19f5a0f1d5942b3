/- The contract of slices.Reverse, laid at this program by the tool of the kit, in plain words. -/
import Derived.Shelf.SlicesE.Reverse
import Derived.Ground.SlgnProg
import Derived.Test.Qxb6615602aProg
namespace Go.Proofs
open Go.Shelf
def Try.revR_ren : Go.Shelf.Ren := ⟨fun | 35 => 20 | n => n, fun | 22 => 39 | 23 => 41 | 3 => 3 | 4 => 4 | 0 => 0 | n => n, fun | n => n⟩
theorem Try.revR : Go.Proofs.SlLaysE.n35 Try.prog Try.revR_ren := {
  mixed := by kernel_rfl
  f35 := ⟨Try.f20.name, by decide, Try.func20.trans (congrArg some (by kernel_rfl))⟩
  t0 := Try.underlying0
  a0 := Try.isAgg0
  z0 := Try.sizeOf0
  v0 := Try.zeroValue0
  t3 := Try.underlying3
  a3 := Try.isAgg3
  z3 := Try.sizeOf3
  v3 := Try.zeroValue3
  t4 := Try.underlying4
  a4 := Try.isAgg4
  z4 := Try.sizeOf4
  v4 := Try.zeroValue4
  t22 := Try.underlying39
  a22 := Try.isAgg39
  z22 := Try.sizeOf39
  v22 := Try.zeroValue39
  a23 := Try.isAgg41
  z23 := Try.sizeOf41 }
end Go.Proofs
