/- Part of a verified symbolic run of the program's code (no condition of its own). -/
import Derived.Test.YtneeaigimifckaaDoorQ10
import Derived.Test.YtneeaigimifckaaDoorProg
import Derived.KernelRfl
set_option linter.unusedVariables false
set_option linter.unusedSimpArgs false
open Go Go.Dx Go.Mx
namespace Go.Proofs
def Tryd.sa39_ren : Go.Shelf.Ren := ⟨fun | 39 => 44 | n => n, fun | 37 => 88 | 22 => 22 | 29 => 61 | 0 => 0 | 5 => 5 | 45 => 95 | n => n, fun | n => n⟩
theorem Tryd.sa39 : Go.Proofs.LaysBin.n39 Tryd.prog Tryd.sa39_ren := {
  mixed := by kernel_rfl
  f39 := Tryd.func44.trans (congrArg some (by kernel_rfl))
  t0 := Tryd.underlying0
  a0 := Tryd.isAgg0
  z0 := Tryd.sizeOf0
  v0 := Tryd.zeroValue0
  i0 := by kernel_rfl
  t5 := Tryd.underlying5
  a5 := Tryd.isAgg5
  z5 := Tryd.sizeOf5
  v5 := Tryd.zeroValue5
  i5 := by kernel_rfl
  t22 := Tryd.underlying22
  a22 := Tryd.isAgg22
  z22 := Tryd.sizeOf22
  v22 := Tryd.zeroValue22
  i22 := by kernel_rfl
  t29 := Tryd.underlying61
  a29 := Tryd.isAgg61
  z29 := Tryd.sizeOf61
  v29 := Tryd.zeroValue61
  i29 := by kernel_rfl
  t37 := Tryd.underlying88
  a37 := Tryd.isAgg88
  z37 := Tryd.sizeOf88
  v37 := Tryd.zeroValue88
  i37 := by kernel_rfl
  t45 := Tryd.underlying95
  a45 := Tryd.isAgg95
  z45 := Tryd.sizeOf95
  v45 := Tryd.zeroValue95
  i45 := by kernel_rfl }
theorem hand44 : zPB Tryd.prog X side 44 ⟨[.val 88, .val 22], .val 61, 87, true⟩ :=
  hand87 (e := 5) Tryd.sa39 rfl (by kernel_rfl) (by kernel_rfl) (by kernel_rfl) (by kernel_rfl) (by kernel_rfl) (by kernel_rfl)
end Go.Proofs
