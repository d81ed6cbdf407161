/- Part of a verified symbolic run of the program's code (no condition of its own). -/
import Derived.Test.YtefilhocfegfhaaDoorQ12
set_option linter.unusedVariables false
set_option linter.unusedSimpArgs false
noncomputable section
open Go Go.Dx Go.Mx
namespace Go.Proofs
theorem mvY : qQJ U 19 = true := by kernel_rfl
end Go.Proofs
