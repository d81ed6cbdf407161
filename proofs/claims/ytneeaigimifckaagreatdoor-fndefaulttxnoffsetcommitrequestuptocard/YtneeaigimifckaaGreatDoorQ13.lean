/- Part of a verified symbolic run of the program's code (no condition of its own). -/
import Derived.Test.YtneeaigimifckaaGreatDoorQ12
import Derived.Test.YtneeaigimifckaaGreatDoorProg
import Derived.KernelRfl
set_option linter.unusedVariables false
set_option linter.unusedSimpArgs false
noncomputable section
open Go Go.Dx Go.Mx
namespace Go.Proofs
def Tryz.sa42_ren : Go.Shelf.Ren := ⟨fun | 42 => 212 | n => n, fun | 37 => 195 | 22 => 22 | 33 => 108 | 0 => 0 | 5 => 5 | 45 => 178 | n => n, fun | n => n⟩
theorem Tryz.sa42 : Go.Proofs.LaysBin.n42 Tryz.prog Tryz.sa42_ren := {
  mixed := by kernel_rfl
  f42 := Tryz.func212.trans (congrArg some (by kernel_rfl))
  t0 := Tryz.underlying0
  a0 := Tryz.isAgg0
  z0 := Tryz.sizeOf0
  v0 := Tryz.zeroValue0
  i0 := by kernel_rfl
  t5 := Tryz.underlying5
  a5 := Tryz.isAgg5
  z5 := Tryz.sizeOf5
  v5 := Tryz.zeroValue5
  i5 := by kernel_rfl
  t22 := Tryz.underlying22
  a22 := Tryz.isAgg22
  z22 := Tryz.sizeOf22
  v22 := Tryz.zeroValue22
  i22 := by kernel_rfl
  t33 := Tryz.underlying108
  a33 := Tryz.isAgg108
  z33 := Tryz.sizeOf108
  v33 := Tryz.zeroValue108
  i33 := by kernel_rfl
  t37 := Tryz.underlying195
  a37 := Tryz.isAgg195
  z37 := Tryz.sizeOf195
  v37 := Tryz.zeroValue195
  i37 := by kernel_rfl
  t45 := Tryz.underlying178
  a45 := Tryz.isAgg178
  z45 := Tryz.sizeOf178
  v45 := Tryz.zeroValue178
  i45 := by kernel_rfl }
theorem hand212 : qRA Tryz.prog X side 212 ⟨[.val 195, .val 22], .val 108, 86, true⟩ :=
  hand86 (e := 5) Tryz.sa42 rfl (by kernel_rfl) (by kernel_rfl) (by kernel_rfl) (by kernel_rfl) (by kernel_rfl) (by kernel_rfl)
def Tryz.sa39_ren : Go.Shelf.Ren := ⟨fun | 39 => 177 | n => n, fun | 37 => 195 | 22 => 22 | 29 => 64 | 0 => 0 | 5 => 5 | 45 => 178 | n => n, fun | n => n⟩
theorem Tryz.sa39 : Go.Proofs.LaysBin.n39 Tryz.prog Tryz.sa39_ren := {
  mixed := by kernel_rfl
  f39 := Tryz.func177.trans (congrArg some (by kernel_rfl))
  t0 := Tryz.underlying0
  a0 := Tryz.isAgg0
  z0 := Tryz.sizeOf0
  v0 := Tryz.zeroValue0
  i0 := by kernel_rfl
  t5 := Tryz.underlying5
  a5 := Tryz.isAgg5
  z5 := Tryz.sizeOf5
  v5 := Tryz.zeroValue5
  i5 := by kernel_rfl
  t22 := Tryz.underlying22
  a22 := Tryz.isAgg22
  z22 := Tryz.sizeOf22
  v22 := Tryz.zeroValue22
  i22 := by kernel_rfl
  t29 := Tryz.underlying64
  a29 := Tryz.isAgg64
  z29 := Tryz.sizeOf64
  v29 := Tryz.zeroValue64
  i29 := by kernel_rfl
  t37 := Tryz.underlying195
  a37 := Tryz.isAgg195
  z37 := Tryz.sizeOf195
  v37 := Tryz.zeroValue195
  i37 := by kernel_rfl
  t45 := Tryz.underlying178
  a45 := Tryz.isAgg178
  z45 := Tryz.sizeOf178
  v45 := Tryz.zeroValue178
  i45 := by kernel_rfl }
theorem hand177 : qRA Tryz.prog X side 177 ⟨[.val 195, .val 22], .val 64, 87, true⟩ :=
  hand87 (e := 5) Tryz.sa39 rfl (by kernel_rfl) (by kernel_rfl) (by kernel_rfl) (by kernel_rfl) (by kernel_rfl) (by kernel_rfl)
end Go.Proofs
