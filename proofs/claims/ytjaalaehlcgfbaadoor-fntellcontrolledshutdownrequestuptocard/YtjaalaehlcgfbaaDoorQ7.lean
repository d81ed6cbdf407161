/- Part of a verified symbolic run of the program's code (no condition of its own). -/
import Derived.Test.YtjaalaehlcgfbaaDoorQ6
import Derived.Test.YtjaalaehlcgfbaaDoorProg
import Derived.KernelRfl
set_option linter.unusedVariables false
set_option linter.unusedSimpArgs false
open Go Go.Dx Go.Mx
namespace Go.Proofs
def tabS : List (Nat × Ctr) := [(5, ⟨[.val 26], .val 4, 54, true⟩),
  (8, ⟨[.val 30, .val 3, .val 26], .own 22, 60, true⟩),
  (11, ⟨[.val 35], .val 26, 44, true⟩),
  (14, ⟨[.val 5, .val 3], .val 3, 58, true⟩),
  (16, ⟨[.val 30, .val 3, .val 26], .own 22, 59, true⟩),
  (21, ⟨[.val 2, .val 3], .own 22, 45, true⟩),
  (22, ⟨[.val 26, .val 3], .val 26, 40, true⟩),
  (23, ⟨[.val 48, .val 3], .val 4, 57, true⟩),
  (24, ⟨[.val 48, .val 26], .val 4, 50, true⟩),
  (27, ⟨[.val 28, .val 24], .own 24, 41, true⟩),
  (28, ⟨[.val 22, .val 22], .val 4, 52, true⟩),
  (35, ⟨[.val 28, .val 3, .val 4, .val 26], .own 22, 47, true⟩),
  (39, ⟨[.val 3], .val 3, 55, true⟩),
  (40, ⟨[.val 48, .val 3, .val 26], .val 4, 56, true⟩),
  (43, ⟨[.val 28], .val 64, 51, true⟩),
  (49, ⟨[.val 48, .val 3, .val 4, .val 26], .own 22, 49, true⟩),
  (50, ⟨[.val 93], .own 22, 46, true⟩),
  (60, ⟨[.val 4, .val 4, .val 3, .val 3], .own 22, 53, true⟩),
  (61, ⟨[.val 3, .val 28, .val 4, .val 3, .val 4, .val 26], .own 22, 48, true⟩),
  (68, ⟨[.wcell 104 83, .val 64, .val 22], .cell 83, 23, true⟩)]
def tabR : List (Nat × Ctr) := [(51, ⟨[.rd 22], .rd 49, 63, true⟩),
  (53, ⟨[.rd 22], .rd 9, 72, true⟩),
  (54, ⟨[.rd 22], .rd 21, 65, true⟩),
  (56, ⟨[.rd 22], .rd 2, 66, true⟩),
  (57, ⟨[.rd 22], .rd 85, 82, true⟩),
  (64, ⟨[.rd 22, .val 3], .rd 22, 71, true⟩),
  (65, ⟨[.val 112, .val 22], .val 64, 87, true⟩),
  (66, ⟨[.rd 22], .rd 93, 69, true⟩),
  (67, ⟨[.rd 22], .rd 64, 70, true⟩),
  (74, ⟨[.val 112, .val 22], .val 93, 86, true⟩)]
def tabT : List (Nat × Ctr) := [(9, ⟨[.val 28, .val 3, .val 4, .val 26, .val 26], .val 4, 303, true⟩),
  (25, ⟨[.val 48, .val 3, .val 4, .val 26, .val 26], .val 4, 304, true⟩),
  (26, ⟨[.val 28, .val 26], .val 4, 305, true⟩),
  (42, ⟨[.val 3, .val 2], .val 2, 306, true⟩),
  (48, ⟨[.val 33], .unit, 301, true⟩)]
theorem nm : NamesOk Tryd.prog := zCH (by kernel_rfl)
theorem ord : Tryd.prog.follows .mixedOrders = true := by kernel_rfl
theorem c5 : ctrOk? Tryd.prog tabS 5 ⟨[.val 26], .val 4, 54, true⟩ = true := by kernel_rfl
theorem c8 : ctrOk? Tryd.prog tabS 8 ⟨[.val 30, .val 3, .val 26], .own 22, 60, true⟩ = true := by kernel_rfl
theorem c11 : ctrOk? Tryd.prog tabS 11 ⟨[.val 35], .val 26, 44, true⟩ = true := by kernel_rfl
theorem c14 : ctrOk? Tryd.prog tabS 14 ⟨[.val 5, .val 3], .val 3, 58, true⟩ = true := by kernel_rfl
theorem c21 : ctrOk? Tryd.prog tabS 21 ⟨[.val 2, .val 3], .own 22, 45, true⟩ = true := by kernel_rfl
theorem c22 : ctrOk? Tryd.prog tabS 22 ⟨[.val 26, .val 3], .val 26, 40, true⟩ = true := by kernel_rfl
theorem c23 : ctrOk? Tryd.prog tabS 23 ⟨[.val 48, .val 3], .val 4, 57, true⟩ = true := by kernel_rfl
theorem c24 : ctrOk? Tryd.prog tabS 24 ⟨[.val 48, .val 26], .val 4, 50, true⟩ = true := by kernel_rfl
theorem c28 : ctrOk? Tryd.prog tabS 28 ⟨[.val 22, .val 22], .val 4, 52, true⟩ = true := by kernel_rfl
theorem c39 : ctrOk? Tryd.prog tabS 39 ⟨[.val 3], .val 3, 55, true⟩ = true := by kernel_rfl
theorem c40 : ctrOk? Tryd.prog tabS 40 ⟨[.val 48, .val 3, .val 26], .val 4, 56, true⟩ = true := by kernel_rfl
theorem c43 : ctrOk? Tryd.prog tabS 43 ⟨[.val 28], .val 64, 51, true⟩ = true := by kernel_rfl
theorem c49 : ctrOk? Tryd.prog tabS 49 ⟨[.val 48, .val 3, .val 4, .val 26], .own 22, 49, true⟩ = true := by kernel_rfl
theorem c50 : ctrOk? Tryd.prog tabS 50 ⟨[.val 93], .own 22, 46, true⟩ = true := by kernel_rfl
theorem c60 : ctrOk? Tryd.prog tabS 60 ⟨[.val 4, .val 4, .val 3, .val 3], .own 22, 53, true⟩ = true := by kernel_rfl
theorem c61 : ctrOk? Tryd.prog tabS 61 ⟨[.val 3, .val 28, .val 4, .val 3, .val 4, .val 26], .own 22, 48, true⟩ = true := by kernel_rfl
theorem c51 : ctrOk2? Tryd.prog tabS tabR 51 ⟨[.rd 22], .rd 49, 63, true⟩ = true := by kernel_rfl
theorem c53 : ctrOk2? Tryd.prog tabS tabR 53 ⟨[.rd 22], .rd 9, 72, true⟩ = true := by kernel_rfl
theorem c54 : ctrOk2? Tryd.prog tabS tabR 54 ⟨[.rd 22], .rd 21, 65, true⟩ = true := by kernel_rfl
theorem c56 : ctrOk2? Tryd.prog tabS tabR 56 ⟨[.rd 22], .rd 2, 66, true⟩ = true := by kernel_rfl
theorem c57 : ctrOk2? Tryd.prog tabS tabR 57 ⟨[.rd 22], .rd 85, 82, true⟩ = true := by kernel_rfl
theorem c64 : ctrOk2? Tryd.prog tabS tabR 64 ⟨[.rd 22, .val 3], .rd 22, 71, true⟩ = true := by kernel_rfl
theorem c66 : ctrOk2? Tryd.prog tabS tabR 66 ⟨[.rd 22], .rd 93, 69, true⟩ = true := by kernel_rfl
theorem c67 : ctrOk2? Tryd.prog tabS tabR 67 ⟨[.rd 22], .rd 64, 70, true⟩ = true := by kernel_rfl
theorem c42 : ctrOk3? Tryd.prog tabS tabT 42 ⟨[.val 3, .val 2], .val 2, 306, true⟩ = true := by kernel_rfl
end Go.Proofs
