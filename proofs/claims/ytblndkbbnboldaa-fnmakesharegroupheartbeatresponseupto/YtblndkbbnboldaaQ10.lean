/- Part of a verified symbolic run of the program's code (no condition of its own). -/
import Derived.Test.YtblndkbbnboldaaQ9
import Derived.Test.YtblndkbbnboldaaRows
import Derived.ProofKit
import Derived.OpenShut
import Derived.JoinedCond
import Derived.KernelRfl
set_option linter.unusedVariables false
set_option linter.unusedSimpArgs false
open Go
namespace Go.Proofs.Ytblndkbbnboldaa
theorem own : ownKnob Try.prog.godebug = none := by kernel_rfl
theorem laidOut : laidOutB Try.prog = true := by kernel_rfl
theorem mapsOk : mapsRowed Try.prog = true := by kernel_rfl
theorem enterOk : Try.prog.mayEnter = true := by kernel_rfl
theorem heardOk : Try.prog.stopsHeard = true := by kernel_rfl
theorem liftsOk : (Rows.fnMakeShareGroupHeartbeatResponseUptoRow.lifted == Try.prog.liftsFinal) = true := by kernel_rfl
end Go.Proofs.Ytblndkbbnboldaa
