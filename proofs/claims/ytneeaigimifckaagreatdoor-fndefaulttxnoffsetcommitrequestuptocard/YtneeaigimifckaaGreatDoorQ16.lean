/- Part of a verified symbolic run of the program's code (no condition of its own). -/
import Derived.Test.YtneeaigimifckaaGreatDoorQ15
import Derived.Test.YtneeaigimifckaaGreatDoorRows
import Derived.ProofKit
import Derived.OpenShut
import Derived.JoinedCond
import Derived.KernelRfl
set_option linter.unusedVariables false
set_option linter.unusedSimpArgs false
noncomputable section
open Go
namespace Go.Proofs.YtneeaigimifckaaGreatDoor
theorem own : ownKnob Tryz.prog.godebug = none := by kernel_rfl
theorem laidOut : laidOutB Tryz.prog = true := by kernel_rfl
theorem mapsOk : mapsRowed Tryz.prog = true := by kernel_rfl
theorem enterOk : Tryz.prog.mayEnter = true := by kernel_rfl
theorem heardOk : Tryz.prog.stopsHeard = true := by kernel_rfl
theorem liftsOk : (Rows.fnTellListConfigResourcesResponseUptoRow.lifted == Tryz.prog.liftsFinal) = true := by kernel_rfl
end Go.Proofs.YtneeaigimifckaaGreatDoor
