/- slices.Insert[[]int,int] at this dump: the kit's contract for it, laid by hand. -/
import Derived.Test.YtdapdadcninidaaGreatDoorShelf
import Derived.Shelf.Spec.SlicesInsert
import Derived.Shelf.Spec.SlicesInsertGrow
namespace Go.Proofs.YtdapdadcninidaaGreatDoor
open Go.RowKit
def insRen : Go.Shelf.Ren := ⟨fun | 21 => 49 | 27 => 90 | 28 => 91 | 35 => 139 | 39 => 170 | n => n, fun | 22 => 53 | n => n, fun n => n⟩
theorem insLay : Go.Proofs.Lays2.n21 Tryz.prog insRen := {
  mixed := by kernel_rfl
  f21 := Tryz.func49.trans (congrArg some (by kernel_rfl))
  f27 := Tryz.func90.trans (congrArg some (by kernel_rfl))
  f28 := Tryz.func91.trans (congrArg some (by kernel_rfl))
  f35 := Tryz.func139.trans (congrArg some (by kernel_rfl))
  f39 := Tryz.func170.trans (congrArg some (by kernel_rfl))
  t0 := Tryz.underlying0
  a0 := Tryz.isAgg0
  z0 := Tryz.sizeOf0
  v0 := Tryz.zeroValue0
  t3 := Tryz.underlying3
  a3 := Tryz.isAgg3
  z3 := Tryz.sizeOf3
  v3 := Tryz.zeroValue3
  t4 := Tryz.underlying4
  a4 := Tryz.isAgg4
  z4 := Tryz.sizeOf4
  v4 := Tryz.zeroValue4
  t22 := Tryz.underlying53
  a22 := Tryz.isAgg53
  z22 := Tryz.sizeOf53
  v22 := Tryz.zeroValue53
  i3 := by kernel_rfl }
end Go.Proofs.YtdapdadcninidaaGreatDoor
