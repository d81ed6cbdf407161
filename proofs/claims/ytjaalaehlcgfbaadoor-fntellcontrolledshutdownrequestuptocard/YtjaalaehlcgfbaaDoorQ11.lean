/- Part of a verified symbolic run of the program's code (no condition of its own). -/
import Derived.Test.YtjaalaehlcgfbaaDoorQ10
set_option linter.unusedVariables false
set_option linter.unusedSimpArgs false
open Go Go.Dx Go.Mx
namespace Go.Proofs
theorem c48 : ctrOk3? Tryd.prog tabS tabT 48 ⟨[.val 33], .unit, 301, true⟩ = true := by kernel_rfl
end Go.Proofs
