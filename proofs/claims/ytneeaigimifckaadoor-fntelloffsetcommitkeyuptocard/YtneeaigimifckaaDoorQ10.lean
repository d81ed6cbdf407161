/- Part of a verified symbolic run of the program's code (no condition of its own). -/
import Derived.Test.YtneeaigimifckaaDoorQ9
set_option linter.unusedVariables false
set_option linter.unusedSimpArgs false
open Go Go.Dx Go.Mx
namespace Go.Proofs
theorem c20 : ctrOk3? Tryd.prog tabS tabT 20 ⟨[.val 45, .val 3, .val 4, .val 26, .val 26], .val 4, 304, true⟩ = true := by kernel_rfl
theorem c21 : ctrOk3? Tryd.prog tabS tabT 21 ⟨[.val 28, .val 26], .val 4, 305, true⟩ = true := by kernel_rfl
end Go.Proofs
