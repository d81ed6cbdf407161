/- Part of a verified symbolic run of the program's code (no condition of its own). -/
import Derived.Test.YtneeaigimifckaaGreatDoorQ10
set_option linter.unusedVariables false
set_option linter.unusedSimpArgs false
noncomputable section
open Go Go.Dx Go.Mx
namespace Go.Proofs
theorem c101 : ctrOk3? Tryz.prog tabS tabT 101 ⟨[.val 35], .unit, 301, true⟩ = true := by kernel_rfl
end Go.Proofs
