/- Part of a verified symbolic run of the program's code (no condition of its own). -/
import Derived.Test.YtmjfaddganhmiaaGreatDoorQ8
import Derived.Test.YtmjfaddganhmiaaGreatDoorProg
import Derived.KernelRfl
set_option linter.unusedVariables false
set_option linter.unusedSimpArgs false
open Go Go.Dx Go.Mx
namespace Go.Proofs
def Tryz.sa42_ren : Go.Shelf.Ren := ⟨fun | 42 => 249 | n => n, fun | 37 => 222 | 22 => 22 | 33 => 91 | 0 => 0 | 5 => 5 | 45 => 201 | n => n, fun | n => n⟩
theorem Tryz.sa42 : Go.Proofs.LaysBin.n42 Tryz.prog Tryz.sa42_ren := {
  mixed := by kernel_rfl
  f42 := Tryz.func249.trans (congrArg some (by kernel_rfl))
  t0 := Tryz.underlying0
  a0 := Tryz.isAgg0
  z0 := Tryz.sizeOf0
  v0 := Tryz.zeroValue0
  i0 := by kernel_rfl
  t5 := Tryz.underlying5
  a5 := Tryz.isAgg5
  z5 := Tryz.sizeOf5
  v5 := Tryz.zeroValue5
  i5 := by kernel_rfl
  t22 := Tryz.underlying22
  a22 := Tryz.isAgg22
  z22 := Tryz.sizeOf22
  v22 := Tryz.zeroValue22
  i22 := by kernel_rfl
  t33 := Tryz.underlying91
  a33 := Tryz.isAgg91
  z33 := Tryz.sizeOf91
  v33 := Tryz.zeroValue91
  i33 := by kernel_rfl
  t37 := Tryz.underlying222
  a37 := Tryz.isAgg222
  z37 := Tryz.sizeOf222
  v37 := Tryz.zeroValue222
  i37 := by kernel_rfl
  t45 := Tryz.underlying201
  a45 := Tryz.isAgg201
  z45 := Tryz.sizeOf201
  v45 := Tryz.zeroValue201
  i45 := by kernel_rfl }
theorem hand249 : CtrOk Tryz.prog X side 249 ⟨[.val 222, .val 22], .val 91, 86, true⟩ :=
  hand86 (e := 5) Tryz.sa42 rfl (by kernel_rfl) (by kernel_rfl) (by kernel_rfl) (by kernel_rfl) (by kernel_rfl) (by kernel_rfl)
def Tryz.sa39_ren : Go.Shelf.Ren := ⟨fun | 39 => 233 | n => n, fun | 37 => 222 | 22 => 22 | 29 => 75 | 0 => 0 | 5 => 5 | 45 => 201 | n => n, fun | n => n⟩
theorem Tryz.sa39 : Go.Proofs.LaysBin.n39 Tryz.prog Tryz.sa39_ren := {
  mixed := by kernel_rfl
  f39 := Tryz.func233.trans (congrArg some (by kernel_rfl))
  t0 := Tryz.underlying0
  a0 := Tryz.isAgg0
  z0 := Tryz.sizeOf0
  v0 := Tryz.zeroValue0
  i0 := by kernel_rfl
  t5 := Tryz.underlying5
  a5 := Tryz.isAgg5
  z5 := Tryz.sizeOf5
  v5 := Tryz.zeroValue5
  i5 := by kernel_rfl
  t22 := Tryz.underlying22
  a22 := Tryz.isAgg22
  z22 := Tryz.sizeOf22
  v22 := Tryz.zeroValue22
  i22 := by kernel_rfl
  t29 := Tryz.underlying75
  a29 := Tryz.isAgg75
  z29 := Tryz.sizeOf75
  v29 := Tryz.zeroValue75
  i29 := by kernel_rfl
  t37 := Tryz.underlying222
  a37 := Tryz.isAgg222
  z37 := Tryz.sizeOf222
  v37 := Tryz.zeroValue222
  i37 := by kernel_rfl
  t45 := Tryz.underlying201
  a45 := Tryz.isAgg201
  z45 := Tryz.sizeOf201
  v45 := Tryz.zeroValue201
  i45 := by kernel_rfl }
theorem hand233 : CtrOk Tryz.prog X side 233 ⟨[.val 222, .val 22], .val 75, 87, true⟩ :=
  hand87 (e := 5) Tryz.sa39 rfl (by kernel_rfl) (by kernel_rfl) (by kernel_rfl) (by kernel_rfl) (by kernel_rfl) (by kernel_rfl)
end Go.Proofs
