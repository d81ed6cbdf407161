/- Part of a verified symbolic run of the program's code (no condition of its own). -/
import Derived.Test.YtefilhocfegfhaaDoorQ15
import Derived.Test.YtefilhocfegfhaaDoorRows
import Derived.ProofKit
import Derived.OpenShut
import Derived.JoinedCond
import Derived.KernelRfl
set_option linter.unusedVariables false
set_option linter.unusedSimpArgs false
noncomputable section
open Go
namespace Go.Proofs.YtefilhocfegfhaaDoor
theorem own : ownKnob Tryd.prog.godebug = none := by kernel_rfl
theorem laidOut : laidOutB Tryd.prog = true := by kernel_rfl
theorem mapsOk : mapsRowed Tryd.prog = true := by kernel_rfl
theorem enterOk : Tryd.prog.mayEnter = true := by kernel_rfl
theorem heardOk : Tryd.prog.stopsHeard = true := by kernel_rfl
theorem liftsOk : (Rows.fnUnsafeUpdateMetadataResponseUptoRow.lifted == Tryd.prog.liftsFinal) = true := by kernel_rfl
end Go.Proofs.YtefilhocfegfhaaDoor
