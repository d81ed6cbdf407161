/- Part of a verified symbolic run of the program's code (no condition of its own). -/
import Derived.Test.YtefilhocfegfhaaDoorQ13
set_option linter.unusedVariables false
set_option linter.unusedSimpArgs false
noncomputable section
open Go Go.Dx Go.Mx
namespace Go.Proofs
theorem mv1 : chkT U 22 1 = true := by kernel_rfl
end Go.Proofs
