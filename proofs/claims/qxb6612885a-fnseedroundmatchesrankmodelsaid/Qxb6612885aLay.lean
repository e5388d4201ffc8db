/-
  The library's texts of sort.SliceStable, as this program lays them: the plain text of the shelf's laying.
-/
import Derived.Test.Qxb6612885aProg
import Derived.Shelf.GgSortMore.Stable
namespace Go.Proofs.Qxb6612885a
open Go.Shelf Go.RowKit Go.Lib Go.Sort

def Try.sl8_ren : Go.Shelf.Ren := ⟨fun | 8 => 30 | 13 => 34 | 14 => 35 | 16 => 37 | 15 => 36 | 29 => 48 | 30 => 49 | 42 => 53 | 49 => 56 | n => n, fun | 20 => 20 | 26 => 63 | 36 => 68 | 0 => 0 | 38 => 70 | 42 => 74 | 3 => 3 | 4 => 4 | 47 => 87 | 17 => 17 | 33 => 65 | 34 => 66 | 89 => 104 | 12 => 12 | 56 => 82 | 82 => 97 | 5 => 5 | 83 => 98 | 84 => 99 | 85 => 100 | 86 => 101 | 87 => 102 | n => n, fun n => n⟩

theorem Try.sl8 : LaysGt.n8 Try.prog Try.sl8_ren := {
  mixed := by kernel_rfl
  f8 := Try.func30.trans (by kernel_rfl)
  f13 := Try.func34.trans (by kernel_rfl)
  f14 := Try.func35.trans (by kernel_rfl)
  f15 := Try.func36.trans (by kernel_rfl)
  f16 := Try.func37.trans (by kernel_rfl)
  f29 := Try.func48.trans (by kernel_rfl)
  f30 := Try.func49.trans (by kernel_rfl)
  f42 := Try.func53.trans (by kernel_rfl)
  f49 := Try.func56.trans (by kernel_rfl)
  t0 := Try.underlying0.trans (by kernel_rfl)
  a0 := fun w => by kernel_rfl
  z0 := fun w => by kernel_rfl
  v0 := fun w => by kernel_rfl
  i0 := by kernel_rfl
  t3 := Try.underlying3.trans (by kernel_rfl)
  a3 := fun w => by kernel_rfl
  z3 := fun w => by kernel_rfl
  v3 := fun w => by kernel_rfl
  i3 := by kernel_rfl
  t4 := Try.underlying4.trans (by kernel_rfl)
  a4 := fun w => by kernel_rfl
  z4 := fun w => by kernel_rfl
  v4 := fun w => by kernel_rfl
  i4 := by kernel_rfl
  t5 := Try.underlying5.trans (by kernel_rfl)
  a5 := fun w => by kernel_rfl
  z5 := fun w => by kernel_rfl
  v5 := fun w => by kernel_rfl
  i5 := by kernel_rfl
  t12 := Try.underlying12.trans (by kernel_rfl)
  a12 := fun w => by kernel_rfl
  z12 := fun w => by kernel_rfl
  v12 := fun w => by kernel_rfl
  i12 := by kernel_rfl
  t17 := Try.underlying17.trans (by kernel_rfl)
  a17 := fun w => by kernel_rfl
  z17 := fun w => by kernel_rfl
  v17 := fun w => by kernel_rfl
  i17 := by kernel_rfl
  t20 := Try.underlying20.trans (by kernel_rfl)
  a20 := fun w => by kernel_rfl
  z20 := fun w => by kernel_rfl
  v20 := fun w => by kernel_rfl
  i20 := by kernel_rfl
  t26 := Try.underlying63.trans (by kernel_rfl)
  a26 := fun w => by kernel_rfl
  z26 := fun w => by kernel_rfl
  v26 := fun w => by kernel_rfl
  i26 := by kernel_rfl
  t33 := Try.underlying65.trans (by kernel_rfl)
  a33 := fun w => by kernel_rfl
  z33 := fun w => by kernel_rfl
  v33 := fun w => by kernel_rfl
  i33 := by kernel_rfl
  t34 := Try.underlying66.trans (by kernel_rfl)
  a34 := fun w => by kernel_rfl
  z34 := fun w => by kernel_rfl
  v34 := fun w => by kernel_rfl
  i34 := by kernel_rfl
  t36 := Try.underlying68.trans (by kernel_rfl)
  a36 := fun w => by kernel_rfl
  z36 := fun w => by kernel_rfl
  v36 := fun w => by kernel_rfl
  i36 := by kernel_rfl
  t38 := Try.underlying70.trans (by kernel_rfl)
  a38 := fun w => by kernel_rfl
  z38 := fun w => by kernel_rfl
  v38 := fun w => by kernel_rfl
  i38 := by kernel_rfl
  t42 := Try.underlying74.trans (by kernel_rfl)
  a42 := fun w => by kernel_rfl
  z42 := fun w => by kernel_rfl
  v42 := fun w => by kernel_rfl
  i42 := by kernel_rfl
  t47 := Try.underlying87.trans (by kernel_rfl)
  a47 := fun w => by kernel_rfl
  z47 := fun w => by kernel_rfl
  v47 := fun w => by kernel_rfl
  i47 := by kernel_rfl
  t56 := Try.underlying82.trans (by kernel_rfl)
  a56 := fun w => by kernel_rfl
  z56 := fun w => by kernel_rfl
  v56 := fun w => by kernel_rfl
  i56 := by kernel_rfl
  t82 := Try.underlying97.trans (by kernel_rfl)
  a82 := fun w => by kernel_rfl
  z82 := fun w => by kernel_rfl
  v82 := fun w => by kernel_rfl
  i82 := by kernel_rfl
  t83 := Try.underlying98.trans (by kernel_rfl)
  a83 := fun w => by kernel_rfl
  z83 := fun w => by kernel_rfl
  v83 := fun w => by kernel_rfl
  i83 := by kernel_rfl
  t84 := Try.underlying99.trans (by kernel_rfl)
  a84 := fun w => by kernel_rfl
  z84 := fun w => by kernel_rfl
  v84 := fun w => by kernel_rfl
  i84 := by kernel_rfl
  t85 := Try.underlying100.trans (by kernel_rfl)
  a85 := fun w => by kernel_rfl
  z85 := fun w => by kernel_rfl
  v85 := fun w => by kernel_rfl
  i85 := by kernel_rfl
  t86 := Try.underlying101.trans (by kernel_rfl)
  a86 := fun w => by kernel_rfl
  z86 := fun w => by kernel_rfl
  v86 := fun w => by kernel_rfl
  i86 := by kernel_rfl
  t87 := Try.underlying102.trans (by kernel_rfl)
  a87 := fun w => by kernel_rfl
  z87 := fun w => by kernel_rfl
  v87 := fun w => by kernel_rfl
  i87 := by kernel_rfl
  t89 := Try.underlying104.trans (by kernel_rfl)
  a89 := fun w => by kernel_rfl
  z89 := fun w => by kernel_rfl
  v89 := fun w => by kernel_rfl
  i89 := by kernel_rfl
}

end Go.Proofs.Qxb6612885a
