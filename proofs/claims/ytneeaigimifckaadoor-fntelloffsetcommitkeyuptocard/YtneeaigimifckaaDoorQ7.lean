/- Part of a verified symbolic run of the program's code (no condition of its own). -/
import Derived.Test.YtneeaigimifckaaDoorQ6
import Derived.Test.YtneeaigimifckaaDoorProg
import Derived.KernelRfl
set_option linter.unusedVariables false
set_option linter.unusedSimpArgs false
open Go Go.Dx Go.Mx
namespace Go.Proofs
def tabS : List (Nat × Ctr) := [(4, ⟨[.val 26], .val 4, 54, true⟩),
  (7, ⟨[.val 30, .val 3, .val 26], .own 22, 60, true⟩),
  (10, ⟨[.val 35], .val 26, 44, true⟩),
  (15, ⟨[.val 2, .val 3], .own 22, 45, true⟩),
  (16, ⟨[.val 30, .val 3, .val 26], .own 22, 59, true⟩),
  (17, ⟨[.val 26, .val 3], .val 26, 40, true⟩),
  (18, ⟨[.val 45, .val 3], .val 4, 57, true⟩),
  (19, ⟨[.val 45, .val 26], .val 4, 50, true⟩),
  (22, ⟨[.val 28, .val 24], .own 24, 41, true⟩),
  (23, ⟨[.val 22, .val 22], .val 4, 52, true⟩),
  (28, ⟨[.val 28, .val 3, .val 4, .val 26], .own 22, 47, true⟩),
  (29, ⟨[.val 3], .val 3, 55, true⟩),
  (30, ⟨[.val 45, .val 3, .val 26], .val 4, 56, true⟩),
  (33, ⟨[.val 28], .val 61, 51, true⟩),
  (39, ⟨[.val 45, .val 3, .val 4, .val 26], .own 22, 49, true⟩),
  (40, ⟨[.val 83], .own 22, 46, true⟩),
  (45, ⟨[.val 4, .val 4, .val 3, .val 3], .own 22, 53, true⟩),
  (46, ⟨[.val 3, .val 28, .val 4, .val 3, .val 4, .val 26], .own 22, 48, true⟩)]
def tabR : List (Nat × Ctr) := [(34, ⟨[.rd 22], .rd 46, 63, true⟩),
  (36, ⟨[.rd 22], .rd 9, 72, true⟩),
  (37, ⟨[.rd 22], .rd 21, 65, true⟩),
  (43, ⟨[.rd 22, .val 3], .rd 22, 71, true⟩),
  (44, ⟨[.val 88, .val 22], .val 61, 87, true⟩)]
def tabT : List (Nat × Ctr) := [(8, ⟨[.val 28, .val 3, .val 4, .val 26, .val 26], .val 4, 303, true⟩),
  (20, ⟨[.val 45, .val 3, .val 4, .val 26, .val 26], .val 4, 304, true⟩),
  (21, ⟨[.val 28, .val 26], .val 4, 305, true⟩),
  (32, ⟨[.val 3, .val 2], .val 2, 306, true⟩)]
theorem nm : xMA Tryd.prog := names_ok (by kernel_rfl)
theorem ord : Tryd.prog.follows .mixedOrders = true := by kernel_rfl
theorem c4 : ctrOk? Tryd.prog tabS 4 ⟨[.val 26], .val 4, 54, true⟩ = true := by kernel_rfl
theorem c7 : ctrOk? Tryd.prog tabS 7 ⟨[.val 30, .val 3, .val 26], .own 22, 60, true⟩ = true := by kernel_rfl
theorem c10 : ctrOk? Tryd.prog tabS 10 ⟨[.val 35], .val 26, 44, true⟩ = true := by kernel_rfl
theorem c15 : ctrOk? Tryd.prog tabS 15 ⟨[.val 2, .val 3], .own 22, 45, true⟩ = true := by kernel_rfl
theorem c17 : ctrOk? Tryd.prog tabS 17 ⟨[.val 26, .val 3], .val 26, 40, true⟩ = true := by kernel_rfl
theorem c18 : ctrOk? Tryd.prog tabS 18 ⟨[.val 45, .val 3], .val 4, 57, true⟩ = true := by kernel_rfl
theorem c19 : ctrOk? Tryd.prog tabS 19 ⟨[.val 45, .val 26], .val 4, 50, true⟩ = true := by kernel_rfl
theorem c23 : ctrOk? Tryd.prog tabS 23 ⟨[.val 22, .val 22], .val 4, 52, true⟩ = true := by kernel_rfl
theorem c29 : ctrOk? Tryd.prog tabS 29 ⟨[.val 3], .val 3, 55, true⟩ = true := by kernel_rfl
theorem c30 : ctrOk? Tryd.prog tabS 30 ⟨[.val 45, .val 3, .val 26], .val 4, 56, true⟩ = true := by kernel_rfl
theorem c33 : ctrOk? Tryd.prog tabS 33 ⟨[.val 28], .val 61, 51, true⟩ = true := by kernel_rfl
theorem c39 : ctrOk? Tryd.prog tabS 39 ⟨[.val 45, .val 3, .val 4, .val 26], .own 22, 49, true⟩ = true := by kernel_rfl
theorem c40 : ctrOk? Tryd.prog tabS 40 ⟨[.val 83], .own 22, 46, true⟩ = true := by kernel_rfl
theorem c45 : ctrOk? Tryd.prog tabS 45 ⟨[.val 4, .val 4, .val 3, .val 3], .own 22, 53, true⟩ = true := by kernel_rfl
theorem c46 : ctrOk? Tryd.prog tabS 46 ⟨[.val 3, .val 28, .val 4, .val 3, .val 4, .val 26], .own 22, 48, true⟩ = true := by kernel_rfl
theorem c34 : ctrOk2? Tryd.prog tabS tabR 34 ⟨[.rd 22], .rd 46, 63, true⟩ = true := by kernel_rfl
theorem c36 : ctrOk2? Tryd.prog tabS tabR 36 ⟨[.rd 22], .rd 9, 72, true⟩ = true := by kernel_rfl
theorem c37 : ctrOk2? Tryd.prog tabS tabR 37 ⟨[.rd 22], .rd 21, 65, true⟩ = true := by kernel_rfl
theorem c43 : ctrOk2? Tryd.prog tabS tabR 43 ⟨[.rd 22, .val 3], .rd 22, 71, true⟩ = true := by kernel_rfl
theorem c32 : ctrOk3? Tryd.prog tabS tabT 32 ⟨[.val 3, .val 2], .val 2, 306, true⟩ = true := by kernel_rfl
end Go.Proofs
