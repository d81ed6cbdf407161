/- Part of a verified symbolic run of the program's code (no condition of its own). -/
import Derived.Test.YtjjlhkdjjicpeaaGreatDoorRQ7
set_option linter.unusedVariables false
set_option linter.unusedSimpArgs false
open Go Go.Dx Go.Mx
namespace Go.Proofs
theorem c17 : ctrOk? Tryz.prog tabS 17 ⟨[.val 34, .val 3, .val 28], .own 24, 59, true⟩ = true := by kernel_rfl
theorem c50 : ctrOk? Tryz.prog tabS 50 ⟨[.val 32, .val 3, .val 4, .val 28], .own 24, 47, true⟩ = true := by kernel_rfl
theorem c101 : ctrOk? Tryz.prog tabS 101 ⟨[.val 32, .val 26], .own 26, 41, true⟩ = true := by kernel_rfl
end Go.Proofs
