/- Part of a verified symbolic run of the program's code (no condition of its own). -/
import Derived.Test.YtjaalaehlcgfbaaDoorQ12
import Derived.Test.YtjaalaehlcgfbaaDoorProg
import Derived.KernelRfl
set_option linter.unusedVariables false
set_option linter.unusedSimpArgs false
open Go Go.Dx Go.Mx
namespace Go.Proofs
def Tryd.sa42_ren : Go.Shelf.Ren := ⟨fun | 42 => 74 | n => n, fun | 37 => 112 | 22 => 22 | 33 => 93 | 0 => 0 | 5 => 5 | 45 => 110 | n => n, fun | n => n⟩
theorem Tryd.sa42 : Go.Proofs.LaysBin.n42 Tryd.prog Tryd.sa42_ren := {
  mixed := by kernel_rfl
  f42 := Tryd.func74.trans (congrArg some (by kernel_rfl))
  t0 := Tryd.underlying0
  a0 := Tryd.isAgg0
  z0 := Tryd.sizeOf0
  v0 := Tryd.zeroValue0
  i0 := by kernel_rfl
  t5 := Tryd.underlying5
  a5 := Tryd.isAgg5
  z5 := Tryd.sizeOf5
  v5 := Tryd.zeroValue5
  i5 := by kernel_rfl
  t22 := Tryd.underlying22
  a22 := Tryd.isAgg22
  z22 := Tryd.sizeOf22
  v22 := Tryd.zeroValue22
  i22 := by kernel_rfl
  t33 := Tryd.underlying93
  a33 := Tryd.isAgg93
  z33 := Tryd.sizeOf93
  v33 := Tryd.zeroValue93
  i33 := by kernel_rfl
  t37 := Tryd.underlying112
  a37 := Tryd.isAgg112
  z37 := Tryd.sizeOf112
  v37 := Tryd.zeroValue112
  i37 := by kernel_rfl
  t45 := Tryd.underlying110
  a45 := Tryd.isAgg110
  z45 := Tryd.sizeOf110
  v45 := Tryd.zeroValue110
  i45 := by kernel_rfl }
theorem hand74 : CtrOk Tryd.prog X side 74 ⟨[.val 112, .val 22], .val 93, 86, true⟩ :=
  hand86 (e := 5) Tryd.sa42 rfl (by kernel_rfl) (by kernel_rfl) (by kernel_rfl) (by kernel_rfl) (by kernel_rfl) (by kernel_rfl)
def Tryd.sa39_ren : Go.Shelf.Ren := ⟨fun | 39 => 65 | n => n, fun | 37 => 112 | 22 => 22 | 29 => 64 | 0 => 0 | 5 => 5 | 45 => 110 | n => n, fun | n => n⟩
theorem Tryd.sa39 : Go.Proofs.LaysBin.n39 Tryd.prog Tryd.sa39_ren := {
  mixed := by kernel_rfl
  f39 := Tryd.func65.trans (congrArg some (by kernel_rfl))
  t0 := Tryd.underlying0
  a0 := Tryd.isAgg0
  z0 := Tryd.sizeOf0
  v0 := Tryd.zeroValue0
  i0 := by kernel_rfl
  t5 := Tryd.underlying5
  a5 := Tryd.isAgg5
  z5 := Tryd.sizeOf5
  v5 := Tryd.zeroValue5
  i5 := by kernel_rfl
  t22 := Tryd.underlying22
  a22 := Tryd.isAgg22
  z22 := Tryd.sizeOf22
  v22 := Tryd.zeroValue22
  i22 := by kernel_rfl
  t29 := Tryd.underlying64
  a29 := Tryd.isAgg64
  z29 := Tryd.sizeOf64
  v29 := Tryd.zeroValue64
  i29 := by kernel_rfl
  t37 := Tryd.underlying112
  a37 := Tryd.isAgg112
  z37 := Tryd.sizeOf112
  v37 := Tryd.zeroValue112
  i37 := by kernel_rfl
  t45 := Tryd.underlying110
  a45 := Tryd.isAgg110
  z45 := Tryd.sizeOf110
  v45 := Tryd.zeroValue110
  i45 := by kernel_rfl }
theorem hand65 : CtrOk Tryd.prog X side 65 ⟨[.val 112, .val 22], .val 64, 87, true⟩ :=
  hand87 (e := 5) Tryd.sa39 rfl (by kernel_rfl) (by kernel_rfl) (by kernel_rfl) (by kernel_rfl) (by kernel_rfl) (by kernel_rfl)
end Go.Proofs
