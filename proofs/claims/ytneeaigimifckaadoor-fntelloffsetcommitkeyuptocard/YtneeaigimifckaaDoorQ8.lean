/- Part of a verified symbolic run of the program's code (no condition of its own). -/
import Derived.Test.YtneeaigimifckaaDoorQ7
set_option linter.unusedVariables false
set_option linter.unusedSimpArgs false
open Go Go.Dx Go.Mx
namespace Go.Proofs
theorem c16 : ctrOk? Tryd.prog tabS 16 ⟨[.val 30, .val 3, .val 26], .own 22, 59, true⟩ = true := by kernel_rfl
theorem c22 : ctrOk? Tryd.prog tabS 22 ⟨[.val 28, .val 24], .own 24, 41, true⟩ = true := by kernel_rfl
theorem c28 : ctrOk? Tryd.prog tabS 28 ⟨[.val 28, .val 3, .val 4, .val 26], .own 22, 47, true⟩ = true := by kernel_rfl
end Go.Proofs
