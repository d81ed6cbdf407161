/- Part of a verified symbolic run of the program's code (no condition of its own). -/
import Derived.Test.YtjaalaehlcgfbaaDoorQ9
set_option linter.unusedVariables false
set_option linter.unusedSimpArgs false
open Go Go.Dx Go.Mx
namespace Go.Proofs
theorem c25 : ctrOk3? Tryd.prog tabS tabT 25 ⟨[.val 48, .val 3, .val 4, .val 26, .val 26], .val 4, 304, true⟩ = true := by kernel_rfl
theorem c26 : ctrOk3? Tryd.prog tabS tabT 26 ⟨[.val 28, .val 26], .val 4, 305, true⟩ = true := by kernel_rfl
end Go.Proofs
