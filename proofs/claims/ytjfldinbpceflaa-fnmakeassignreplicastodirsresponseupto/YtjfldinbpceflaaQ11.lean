/- Part of a verified symbolic run of the program's code (no condition of its own). -/
import Derived.Test.YtjfldinbpceflaaQ10
import Derived.Test.YtjfldinbpceflaaRows
import Derived.ProofKit
import Derived.OpenShut
import Derived.JoinedCond
import Derived.KernelRfl
set_option linter.unusedVariables false
set_option linter.unusedSimpArgs false
open Go
namespace Go.Proofs.Ytjfldinbpceflaa
/-! ## Facts of the whole program -/
theorem own : ownKnob Try.prog.godebug = none := by kernel_rfl
theorem laidOut : laidOutB Try.prog = true := by kernel_rfl
theorem mapsOk : mapsRowed Try.prog = true := by kernel_rfl
theorem enterOk : Try.prog.mayEnter = true := by kernel_rfl
theorem heardOk : Try.prog.stopsHeard = true := by kernel_rfl
theorem liftsOk : (Rows.fnMakeBrokerHeartbeatRequestUptoRow.lifted == Try.prog.liftsFinal) = true := by kernel_rfl
end Go.Proofs.Ytjfldinbpceflaa
