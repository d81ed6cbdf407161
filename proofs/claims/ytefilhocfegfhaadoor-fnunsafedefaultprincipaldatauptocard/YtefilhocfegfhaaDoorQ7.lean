/- Part of a verified symbolic run of the program's code (no condition of its own). -/
import Derived.Test.YtefilhocfegfhaaDoorQ6
import Derived.Test.YtefilhocfegfhaaDoorProg
import Derived.KernelRfl
set_option linter.unusedVariables false
set_option linter.unusedSimpArgs false
noncomputable section
open Go Go.Dx Go.Mx
namespace Go.Proofs
def tabU : List (Nat × Ctr) := [(109, ⟨[.rd 22 true], .rd 45 true, 363, true⟩),
  (110, ⟨[.rd 22 true], .rd 61 true, 382, true⟩),
  (114, ⟨[.rd 22 true], .rd 9 true, 373, true⟩),
  (115, ⟨[.rd 22 true], .rd 9 true, 372, true⟩),
  (116, ⟨[.rd 22 true], .rd 9 true, 373, true⟩),
  (117, ⟨[.rd 22 true], .rd 9 true, 372, true⟩),
  (118, ⟨[.rd 22 true], .rd 4 true, 361, true⟩),
  (127, ⟨[.rd 22 true], .rd 21 true, 381, true⟩),
  (128, ⟨[.rd 22 true], .rd 21 true, 380, true⟩),
  (131, ⟨[.rd 22 true], .rd 98 true, 367, true⟩),
  (133, ⟨[.rd 22 true], .rd 21 true, 365, true⟩),
  (134, ⟨[.rd 22 true], .rd 119 true, 375, true⟩),
  (135, ⟨[.rd 22 true], .rd 119 true, 375, true⟩),
  (136, ⟨[.rd 22 true], .rd 119 true, 374, true⟩),
  (137, ⟨[.rd 22 true], .rd 119 true, 374, true⟩),
  (144, ⟨[.rd 22 true], .rd 110 true, 362, true⟩),
  (147, ⟨[.rd 22 true], .rd 2 true, 366, true⟩),
  (155, ⟨[.rd 22 true], .rd 22 true, 377, true⟩),
  (156, ⟨[.rd 22 true], .rd 22 true, 376, true⟩),
  (160, ⟨[.rd 22 true], .rd 55 true, 370, true⟩),
  (162, ⟨[.rd 22 true, .val 3], .rd 22 true, 371, true⟩),
  (177, ⟨[.rd 22 true], .rd 153 true, 369, true⟩)]
def tabR : List (Nat × Ctr) := [(161, ⟨[.wcell 141 59, .val 55, .val 22], .cell 59, 23, true⟩),
  (174, ⟨[.val 181, .val 22], .val 55, 87, true⟩),
  (200, ⟨[.val 181, .val 22], .val 153, 86, true⟩)]
def tabS : List (Nat × Ctr) := [(12, ⟨[.val 5, .val 3], .val 3, 58, true⟩),
  (15, ⟨[.val 27], .val 35, 44, true⟩),
  (41, ⟨[.val 22, .val 22], .val 4, 52, true⟩)]
theorem nm : yWA Tryd.prog := names_ok (by kernel_rfl)
theorem ord : Tryd.prog.follows .mixedOrders = true := by kernel_rfl
theorem c109 : ctrOkU? Tryd.prog tabR tabU 109 ⟨[.rd 22 true], .rd 45 true, 363, true⟩ = true := by kernel_rfl
theorem c110 : ctrOkU? Tryd.prog tabR tabU 110 ⟨[.rd 22 true], .rd 61 true, 382, true⟩ = true := by kernel_rfl
theorem c114 : ctrOkU? Tryd.prog tabR tabU 114 ⟨[.rd 22 true], .rd 9 true, 373, true⟩ = true := by kernel_rfl
theorem c115 : ctrOkU? Tryd.prog tabR tabU 115 ⟨[.rd 22 true], .rd 9 true, 372, true⟩ = true := by kernel_rfl
theorem c116 : ctrOkU? Tryd.prog tabR tabU 116 ⟨[.rd 22 true], .rd 9 true, 373, true⟩ = true := by kernel_rfl
theorem c117 : ctrOkU? Tryd.prog tabR tabU 117 ⟨[.rd 22 true], .rd 9 true, 372, true⟩ = true := by kernel_rfl
theorem c118 : ctrOkU? Tryd.prog tabR tabU 118 ⟨[.rd 22 true], .rd 4 true, 361, true⟩ = true := by kernel_rfl
theorem c127 : ctrOkU? Tryd.prog tabR tabU 127 ⟨[.rd 22 true], .rd 21 true, 381, true⟩ = true := by kernel_rfl
theorem c128 : ctrOkU? Tryd.prog tabR tabU 128 ⟨[.rd 22 true], .rd 21 true, 380, true⟩ = true := by kernel_rfl
theorem c131 : ctrOkU? Tryd.prog tabR tabU 131 ⟨[.rd 22 true], .rd 98 true, 367, true⟩ = true := by kernel_rfl
theorem c133 : ctrOkU? Tryd.prog tabR tabU 133 ⟨[.rd 22 true], .rd 21 true, 365, true⟩ = true := by kernel_rfl
theorem c134 : ctrOkU? Tryd.prog tabR tabU 134 ⟨[.rd 22 true], .rd 119 true, 375, true⟩ = true := by kernel_rfl
theorem c135 : ctrOkU? Tryd.prog tabR tabU 135 ⟨[.rd 22 true], .rd 119 true, 375, true⟩ = true := by kernel_rfl
theorem c136 : ctrOkU? Tryd.prog tabR tabU 136 ⟨[.rd 22 true], .rd 119 true, 374, true⟩ = true := by kernel_rfl
theorem c137 : ctrOkU? Tryd.prog tabR tabU 137 ⟨[.rd 22 true], .rd 119 true, 374, true⟩ = true := by kernel_rfl
theorem c144 : ctrOkU? Tryd.prog tabR tabU 144 ⟨[.rd 22 true], .rd 110 true, 362, true⟩ = true := by kernel_rfl
theorem c147 : ctrOkU? Tryd.prog tabR tabU 147 ⟨[.rd 22 true], .rd 2 true, 366, true⟩ = true := by kernel_rfl
theorem c155 : ctrOkU? Tryd.prog tabR tabU 155 ⟨[.rd 22 true], .rd 22 true, 377, true⟩ = true := by kernel_rfl
theorem c156 : ctrOkU? Tryd.prog tabR tabU 156 ⟨[.rd 22 true], .rd 22 true, 376, true⟩ = true := by kernel_rfl
theorem c160 : ctrOkU? Tryd.prog tabR tabU 160 ⟨[.rd 22 true], .rd 55 true, 370, true⟩ = true := by kernel_rfl
theorem c162 : ctrOkU? Tryd.prog tabR tabU 162 ⟨[.rd 22 true, .val 3], .rd 22 true, 371, true⟩ = true := by kernel_rfl
theorem c177 : ctrOkU? Tryd.prog tabR tabU 177 ⟨[.rd 22 true], .rd 153 true, 369, true⟩ = true := by kernel_rfl
theorem c12 : ctrOk? Tryd.prog tabS 12 ⟨[.val 5, .val 3], .val 3, 58, true⟩ = true := by kernel_rfl
theorem c15 : ctrOk? Tryd.prog tabS 15 ⟨[.val 27], .val 35, 44, true⟩ = true := by kernel_rfl
theorem c41 : ctrOk? Tryd.prog tabS 41 ⟨[.val 22, .val 22], .val 4, 52, true⟩ = true := by kernel_rfl
theorem c82 : ctrOk3? Tryd.prog [] [(82, ⟨[.val 25], .unit, 301, true⟩)] 82 ⟨[.val 25], .unit, 301, true⟩ = true := by kernel_rfl
theorem c14 : sameOk? Tryd.prog tabS 14 ⟨[.val 35, .val 35], .val 4, 308, true⟩ = true := by kernel_rfl
end Go.Proofs
