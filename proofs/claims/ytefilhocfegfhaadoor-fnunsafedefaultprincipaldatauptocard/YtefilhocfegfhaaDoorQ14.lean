/- Part of a verified symbolic run of the program's code (no condition of its own). -/
import Derived.Test.YtefilhocfegfhaaDoorQ13
set_option linter.unusedVariables false
set_option linter.unusedSimpArgs false
noncomputable section
open Go Go.Dx Go.Mx
namespace Go.Proofs
theorem canY1 : ((U.run1.1.eval (XT (XZ U.ge) (sxOf U.ge envY U.run1.2).tab) [.bytes [0, 0, 1, 1, 0, 0]]).cells.getD 1 .nil).asBool = true := by kernel_rfl
end Go.Proofs
