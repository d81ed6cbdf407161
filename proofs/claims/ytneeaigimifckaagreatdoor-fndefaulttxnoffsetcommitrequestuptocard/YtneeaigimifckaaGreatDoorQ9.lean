/- Part of a verified symbolic run of the program's code (no condition of its own). -/
import Derived.Test.YtneeaigimifckaaGreatDoorQ8
set_option linter.unusedVariables false
set_option linter.unusedSimpArgs false
noncomputable section
open Go Go.Dx Go.Mx
namespace Go.Proofs
theorem c16 : ctrOk3? Tryz.prog tabS tabT 16 ⟨[.val 29, .val 3, .val 4, .val 26, .val 26], .val 4, 303, true⟩ = true := by kernel_rfl
end Go.Proofs
