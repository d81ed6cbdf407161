/- Part of a verified symbolic run of the program's code (no condition of its own). -/
import Derived.Test.YtblndkbbnboldaaGreatDoorQ8
import Derived.Test.YtblndkbbnboldaaGreatDoorProg
import Derived.KernelRfl
set_option linter.unusedVariables false
set_option linter.unusedSimpArgs false
open Go Go.Dx Go.Mx
namespace Go.Proofs
def Tryz.sa39_ren : Go.Shelf.Ren := ⟨fun | 39 => 96 | n => n, fun | 37 => 126 | 22 => 22 | 29 => 55 | 0 => 0 | 5 => 5 | 45 => 102 | n => n, fun | n => n⟩
theorem Tryz.sa39 : Go.Proofs.LaysBin.n39 Tryz.prog Tryz.sa39_ren := {
  mixed := by kernel_rfl
  f39 := Tryz.func96.trans (congrArg some (by kernel_rfl))
  t0 := Tryz.underlying0
  a0 := Tryz.isAgg0
  z0 := Tryz.sizeOf0
  v0 := Tryz.zeroValue0
  i0 := by kernel_rfl
  t5 := Tryz.underlying5
  a5 := Tryz.isAgg5
  z5 := Tryz.sizeOf5
  v5 := Tryz.zeroValue5
  i5 := by kernel_rfl
  t22 := Tryz.underlying22
  a22 := Tryz.isAgg22
  z22 := Tryz.sizeOf22
  v22 := Tryz.zeroValue22
  i22 := by kernel_rfl
  t29 := Tryz.underlying55
  a29 := Tryz.isAgg55
  z29 := Tryz.sizeOf55
  v29 := Tryz.zeroValue55
  i29 := by kernel_rfl
  t37 := Tryz.underlying126
  a37 := Tryz.isAgg126
  z37 := Tryz.sizeOf126
  v37 := Tryz.zeroValue126
  i37 := by kernel_rfl
  t45 := Tryz.underlying102
  a45 := Tryz.isAgg102
  z45 := Tryz.sizeOf102
  v45 := Tryz.zeroValue102
  i45 := by kernel_rfl }
theorem hand96 : zMB Tryz.prog X side 96 ⟨[.val 126, .val 22], .val 55, 87, true⟩ :=
  hand87 (e := 5) Tryz.sa39 rfl (by kernel_rfl) (by kernel_rfl) (by kernel_rfl) (by kernel_rfl) (by kernel_rfl) (by kernel_rfl)
end Go.Proofs
