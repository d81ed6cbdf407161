/- Part of a verified symbolic run of the program's code (no condition of its own). -/
import Derived.Test.YtjjlhkdjjicpeaaGreatDoorRQ10
import Derived.Test.YtjjlhkdjjicpeaaGreatDoorRProg
import Derived.KernelRfl
set_option linter.unusedVariables false
set_option linter.unusedSimpArgs false
open Go Go.Dx Go.Mx
namespace Go.Proofs
def Tryz.sa42_ren : Go.Shelf.Ren := ⟨fun | 42 => 176 | n => n, fun | 37 => 188 | 22 => 24 | 33 => 92 | 0 => 0 | 5 => 5 | 45 => 132 | n => n, fun | n => n⟩
theorem Tryz.sa42 : Go.Proofs.LaysBin.n42 Tryz.prog Tryz.sa42_ren := {
  mixed := by kernel_rfl
  f42 := Tryz.func176.trans (congrArg some (by kernel_rfl))
  t0 := Tryz.underlying0
  a0 := Tryz.isAgg0
  z0 := Tryz.sizeOf0
  v0 := Tryz.zeroValue0
  i0 := by kernel_rfl
  t5 := Tryz.underlying5
  a5 := Tryz.isAgg5
  z5 := Tryz.sizeOf5
  v5 := Tryz.zeroValue5
  i5 := by kernel_rfl
  t22 := Tryz.underlying24
  a22 := Tryz.isAgg24
  z22 := Tryz.sizeOf24
  v22 := Tryz.zeroValue24
  i22 := by kernel_rfl
  t33 := Tryz.underlying92
  a33 := Tryz.isAgg92
  z33 := Tryz.sizeOf92
  v33 := Tryz.zeroValue92
  i33 := by kernel_rfl
  t37 := Tryz.underlying188
  a37 := Tryz.isAgg188
  z37 := Tryz.sizeOf188
  v37 := Tryz.zeroValue188
  i37 := by kernel_rfl
  t45 := Tryz.underlying132
  a45 := Tryz.isAgg132
  z45 := Tryz.sizeOf132
  v45 := Tryz.zeroValue132
  i45 := by kernel_rfl }
theorem hand176 : qRA Tryz.prog X side 176 ⟨[.val 188, .val 24], .val 92, 86, true⟩ :=
  hand86 (e := 5) Tryz.sa42 rfl (by kernel_rfl) (by kernel_rfl) (by kernel_rfl) (by kernel_rfl) (by kernel_rfl) (by kernel_rfl)
def Tryz.sa39_ren : Go.Shelf.Ren := ⟨fun | 39 => 168 | n => n, fun | 37 => 188 | 22 => 24 | 29 => 75 | 0 => 0 | 5 => 5 | 45 => 132 | n => n, fun | n => n⟩
theorem Tryz.sa39 : Go.Proofs.LaysBin.n39 Tryz.prog Tryz.sa39_ren := {
  mixed := by kernel_rfl
  f39 := Tryz.func168.trans (congrArg some (by kernel_rfl))
  t0 := Tryz.underlying0
  a0 := Tryz.isAgg0
  z0 := Tryz.sizeOf0
  v0 := Tryz.zeroValue0
  i0 := by kernel_rfl
  t5 := Tryz.underlying5
  a5 := Tryz.isAgg5
  z5 := Tryz.sizeOf5
  v5 := Tryz.zeroValue5
  i5 := by kernel_rfl
  t22 := Tryz.underlying24
  a22 := Tryz.isAgg24
  z22 := Tryz.sizeOf24
  v22 := Tryz.zeroValue24
  i22 := by kernel_rfl
  t29 := Tryz.underlying75
  a29 := Tryz.isAgg75
  z29 := Tryz.sizeOf75
  v29 := Tryz.zeroValue75
  i29 := by kernel_rfl
  t37 := Tryz.underlying188
  a37 := Tryz.isAgg188
  z37 := Tryz.sizeOf188
  v37 := Tryz.zeroValue188
  i37 := by kernel_rfl
  t45 := Tryz.underlying132
  a45 := Tryz.isAgg132
  z45 := Tryz.sizeOf132
  v45 := Tryz.zeroValue132
  i45 := by kernel_rfl }
theorem hand168 : qRA Tryz.prog X side 168 ⟨[.val 188, .val 24], .val 75, 87, true⟩ :=
  hand87 (e := 5) Tryz.sa39 rfl (by kernel_rfl) (by kernel_rfl) (by kernel_rfl) (by kernel_rfl) (by kernel_rfl) (by kernel_rfl)
end Go.Proofs
