/- Part of a verified symbolic run of the program's code (no condition of its own). -/
import Derived.Test.YtefilhocfegfhaaDoorQ8
import Derived.Test.YtefilhocfegfhaaDoorProg
import Derived.KernelRfl
set_option linter.unusedVariables false
set_option linter.unusedSimpArgs false
noncomputable section
open Go Go.Dx Go.Mx
namespace Go.Proofs
def Tryd.sa42_ren : Go.Shelf.Ren := ⟨fun | 42 => 200 | n => n, fun | 37 => 181 | 22 => 22 | 33 => 153 | 0 => 0 | 5 => 5 | 45 => 193 | n => n, fun | n => n⟩
theorem Tryd.sa42 : Go.Proofs.LaysBin.n42 Tryd.prog Tryd.sa42_ren := {
  mixed := by kernel_rfl
  f42 := Tryd.func200.trans (congrArg some (by kernel_rfl))
  t0 := Tryd.underlying0
  a0 := Tryd.isAgg0
  z0 := Tryd.sizeOf0
  v0 := Tryd.zeroValue0
  i0 := by kernel_rfl
  t5 := Tryd.underlying5
  a5 := Tryd.isAgg5
  z5 := Tryd.sizeOf5
  v5 := Tryd.zeroValue5
  i5 := by kernel_rfl
  t22 := Tryd.underlying22
  a22 := Tryd.isAgg22
  z22 := Tryd.sizeOf22
  v22 := Tryd.zeroValue22
  i22 := by kernel_rfl
  t33 := Tryd.underlying153
  a33 := Tryd.isAgg153
  z33 := Tryd.sizeOf153
  v33 := Tryd.zeroValue153
  i33 := by kernel_rfl
  t37 := Tryd.underlying181
  a37 := Tryd.isAgg181
  z37 := Tryd.sizeOf181
  v37 := Tryd.zeroValue181
  i37 := by kernel_rfl
  t45 := Tryd.underlying193
  a45 := Tryd.isAgg193
  z45 := Tryd.sizeOf193
  v45 := Tryd.zeroValue193
  i45 := by kernel_rfl }
theorem hand200 : xDA Tryd.prog X side 200 ⟨[.val 181, .val 22], .val 153, 86, true⟩ :=
  hand86 (e := 5) Tryd.sa42 rfl (by kernel_rfl) (by kernel_rfl) (by kernel_rfl) (by kernel_rfl) (by kernel_rfl) (by kernel_rfl)
def Tryd.sa39_ren : Go.Shelf.Ren := ⟨fun | 39 => 174 | n => n, fun | 37 => 181 | 22 => 22 | 29 => 55 | 0 => 0 | 5 => 5 | 45 => 193 | n => n, fun | n => n⟩
theorem Tryd.sa39 : Go.Proofs.LaysBin.n39 Tryd.prog Tryd.sa39_ren := {
  mixed := by kernel_rfl
  f39 := Tryd.func174.trans (congrArg some (by kernel_rfl))
  t0 := Tryd.underlying0
  a0 := Tryd.isAgg0
  z0 := Tryd.sizeOf0
  v0 := Tryd.zeroValue0
  i0 := by kernel_rfl
  t5 := Tryd.underlying5
  a5 := Tryd.isAgg5
  z5 := Tryd.sizeOf5
  v5 := Tryd.zeroValue5
  i5 := by kernel_rfl
  t22 := Tryd.underlying22
  a22 := Tryd.isAgg22
  z22 := Tryd.sizeOf22
  v22 := Tryd.zeroValue22
  i22 := by kernel_rfl
  t29 := Tryd.underlying55
  a29 := Tryd.isAgg55
  z29 := Tryd.sizeOf55
  v29 := Tryd.zeroValue55
  i29 := by kernel_rfl
  t37 := Tryd.underlying181
  a37 := Tryd.isAgg181
  z37 := Tryd.sizeOf181
  v37 := Tryd.zeroValue181
  i37 := by kernel_rfl
  t45 := Tryd.underlying193
  a45 := Tryd.isAgg193
  z45 := Tryd.sizeOf193
  v45 := Tryd.zeroValue193
  i45 := by kernel_rfl }
theorem hand174 : xDA Tryd.prog X side 174 ⟨[.val 181, .val 22], .val 55, 87, true⟩ :=
  hand87 (e := 5) Tryd.sa39 rfl (by kernel_rfl) (by kernel_rfl) (by kernel_rfl) (by kernel_rfl) (by kernel_rfl) (by kernel_rfl)
end Go.Proofs
