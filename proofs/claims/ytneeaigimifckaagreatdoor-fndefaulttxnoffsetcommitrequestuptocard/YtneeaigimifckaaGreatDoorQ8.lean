/- Part of a verified symbolic run of the program's code (no condition of its own). -/
import Derived.Test.YtneeaigimifckaaGreatDoorQ7
set_option linter.unusedVariables false
set_option linter.unusedSimpArgs false
noncomputable section
open Go Go.Dx Go.Mx
namespace Go.Proofs
theorem c15 : ctrOk? Tryz.prog tabS 15 ⟨[.val 31, .val 3, .val 26], .own 22, 59, true⟩ = true := by kernel_rfl
theorem c45 : ctrOk? Tryz.prog tabS 45 ⟨[.val 29, .val 3, .val 4, .val 26], .own 22, 47, true⟩ = true := by kernel_rfl
theorem c51 : ctrOk? Tryz.prog tabS 51 ⟨[.val 29, .val 24], .own 24, 41, true⟩ = true := by kernel_rfl
end Go.Proofs
