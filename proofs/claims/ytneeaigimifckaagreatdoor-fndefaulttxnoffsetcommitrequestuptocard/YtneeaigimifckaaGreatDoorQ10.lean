/- Part of a verified symbolic run of the program's code (no condition of its own). -/
import Derived.Test.YtneeaigimifckaaGreatDoorQ9
set_option linter.unusedVariables false
set_option linter.unusedSimpArgs false
noncomputable section
open Go Go.Dx Go.Mx
namespace Go.Proofs
theorem c22 : ctrOk3? Tryz.prog tabS tabT 22 ⟨[.val 29, .val 26], .val 4, 307, true⟩ = true := by kernel_rfl
theorem c49 : ctrOk3? Tryz.prog tabS tabT 49 ⟨[.val 52, .val 3, .val 4, .val 26, .val 26], .val 4, 304, true⟩ = true := by kernel_rfl
theorem c50 : ctrOk3? Tryz.prog tabS tabT 50 ⟨[.val 29, .val 26], .val 4, 305, true⟩ = true := by kernel_rfl
end Go.Proofs
