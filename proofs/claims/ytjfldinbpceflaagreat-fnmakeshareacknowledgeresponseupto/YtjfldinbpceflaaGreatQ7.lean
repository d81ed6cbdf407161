/- Part of a verified symbolic run of the program's code (no condition of its own). -/
import Derived.Test.YtjfldinbpceflaaGreatQ6
import Derived.Test.YtjfldinbpceflaaGreatProg
import Derived.KernelRfl
set_option linter.unusedVariables false
set_option linter.unusedSimpArgs false
open Go Go.Dx Go.Mx
namespace Go.Proofs

/-! ## The functions of this seat -/
def tabS : List (Nat × Ctr) := [(5, ⟨[.val 26], .val 4, 54, true⟩),
  (8, ⟨[.val 5, .val 3], .val 3, 58, true⟩),
  (9, ⟨[.val 22, .val 22], .val 4, 52, true⟩),
  (11, ⟨[.val 26], .val 39, 44, true⟩),
  (12, ⟨[.val 29, .val 3, .val 26], .val 26, 43, true⟩),
  (13, ⟨[.val 31, .val 3, .val 26], .own 22, 59, true⟩),
  (25, ⟨[.val 50, .val 3, .val 26], .val 26, 42, true⟩),
  (26, ⟨[.val 26, .val 3], .val 26, 40, true⟩),
  (27, ⟨[.val 29, .val 24], .own 24, 41, true⟩),
  (29, ⟨[.val 29, .val 3, .val 4, .val 26], .own 22, 47, true⟩),
  (41, ⟨[.val 39, .val 3], .val 39, 1, true⟩),
  (42, ⟨[.val 39], .val 52, 26, true⟩),
  (46, ⟨[.own 22, .val 21], .own 22, 6, true⟩),
  (47, ⟨[.own 22, .val 45], .own 22, 4, true⟩),
  (48, ⟨[.own 22, .val 52], .own 22, 14, true⟩),
  (49, ⟨[.own 22, .val 52], .own 22, 13, true⟩),
  (50, ⟨[.own 22, .val 3], .own 22, 20, true⟩),
  (51, ⟨[.own 22, .val 3], .own 22, 19, true⟩),
  (53, ⟨[.own 22, .val 63], .own 22, 10, true⟩),
  (56, ⟨[.own 22, .val 9], .own 22, 12, true⟩),
  (57, ⟨[.own 22, .val 9], .own 22, 11, true⟩),
  (58, ⟨[.val 50, .val 3, .val 26], .val 4, 56, true⟩),
  (60, ⟨[.val 29], .val 63, 51, true⟩),
  (61, ⟨[.val 50, .val 3], .val 4, 57, true⟩),
  (62, ⟨[.val 50, .val 3, .val 4, .val 26], .own 22, 49, true⟩),
  (63, ⟨[.val 50, .val 26], .val 4, 50, true⟩),
  (64, ⟨[.val 115], .own 22, 46, true⟩),
  (70, ⟨[.own 22, .val 75], .own 22, 3, true⟩),
  (71, ⟨[.own 22, .val 2], .own 22, 7, true⟩),
  (78, ⟨[.own 22, .val 63], .own 22, 30, true⟩),
  (79, ⟨[.own 22, .val 139], .own 22, 5, true⟩),
  (80, ⟨[.val 63], .val 3, 31, true⟩),
  (83, ⟨[.val 4, .val 4, .val 3, .val 3], .own 22, 53, true⟩),
  (84, ⟨[.val 3, .val 29, .val 4, .val 3, .val 4, .val 26], .own 22, 48, true⟩),
  (85, ⟨[.val 2, .val 3], .own 22, 45, true⟩),
  (86, ⟨[.val 3], .val 3, 55, true⟩),
  (88, ⟨[.own 22, .val 115], .own 22, 29, true⟩),
  (45, ⟨[.wcell 137 55, .val 63, .val 22], .cell 55, 23, true⟩),
  (52, ⟨[.own 22, .val 84], .own 22, 9, true⟩),
  (54, ⟨[.mcell 137 55], .val 3, 24, true⟩),
  (55, ⟨[.mcell 137 55, .own 22], .own 22, 25, true⟩),
  (76, ⟨[.val 22], .val 84, 28, true⟩)]
theorem nm : NamesOk Tryz.prog := names_ok (by kernel_rfl)
theorem ord : Tryz.prog.follows .mixedOrders = true := by kernel_rfl
theorem c5 : ctrOk? Tryz.prog tabS 5 ⟨[.val 26], .val 4, 54, true⟩ = true := by kernel_rfl
theorem c8 : ctrOk? Tryz.prog tabS 8 ⟨[.val 5, .val 3], .val 3, 58, true⟩ = true := by kernel_rfl
theorem c9 : ctrOk? Tryz.prog tabS 9 ⟨[.val 22, .val 22], .val 4, 52, true⟩ = true := by kernel_rfl
theorem c11 : ctrOk? Tryz.prog tabS 11 ⟨[.val 26], .val 39, 44, true⟩ = true := by kernel_rfl
theorem c12 : ctrOk? Tryz.prog tabS 12 ⟨[.val 29, .val 3, .val 26], .val 26, 43, true⟩ = true := by kernel_rfl
theorem c13 : ctrOk? Tryz.prog tabS 13 ⟨[.val 31, .val 3, .val 26], .own 22, 59, true⟩ = true := by kernel_rfl
theorem c25 : ctrOk? Tryz.prog tabS 25 ⟨[.val 50, .val 3, .val 26], .val 26, 42, true⟩ = true := by kernel_rfl
theorem c26 : ctrOk? Tryz.prog tabS 26 ⟨[.val 26, .val 3], .val 26, 40, true⟩ = true := by kernel_rfl
theorem c27 : ctrOk? Tryz.prog tabS 27 ⟨[.val 29, .val 24], .own 24, 41, true⟩ = true := by kernel_rfl
theorem c29 : ctrOk? Tryz.prog tabS 29 ⟨[.val 29, .val 3, .val 4, .val 26], .own 22, 47, true⟩ = true := by kernel_rfl
theorem c41 : ctrOk? Tryz.prog tabS 41 ⟨[.val 39, .val 3], .val 39, 1, true⟩ = true := by kernel_rfl
theorem c42 : ctrOk? Tryz.prog tabS 42 ⟨[.val 39], .val 52, 26, true⟩ = true := by kernel_rfl
theorem c46 : ctrOk? Tryz.prog tabS 46 ⟨[.own 22, .val 21], .own 22, 6, true⟩ = true := by kernel_rfl
theorem c47 : ctrOk? Tryz.prog tabS 47 ⟨[.own 22, .val 45], .own 22, 4, true⟩ = true := by kernel_rfl
theorem c48 : ctrOk? Tryz.prog tabS 48 ⟨[.own 22, .val 52], .own 22, 14, true⟩ = true := by kernel_rfl
theorem c49 : ctrOk? Tryz.prog tabS 49 ⟨[.own 22, .val 52], .own 22, 13, true⟩ = true := by kernel_rfl
theorem c50 : ctrOk? Tryz.prog tabS 50 ⟨[.own 22, .val 3], .own 22, 20, true⟩ = true := by kernel_rfl
theorem c51 : ctrOk? Tryz.prog tabS 51 ⟨[.own 22, .val 3], .own 22, 19, true⟩ = true := by kernel_rfl
theorem c53 : ctrOk? Tryz.prog tabS 53 ⟨[.own 22, .val 63], .own 22, 10, true⟩ = true := by kernel_rfl
theorem c56 : ctrOk? Tryz.prog tabS 56 ⟨[.own 22, .val 9], .own 22, 12, true⟩ = true := by kernel_rfl
theorem c57 : ctrOk? Tryz.prog tabS 57 ⟨[.own 22, .val 9], .own 22, 11, true⟩ = true := by kernel_rfl
theorem c58 : ctrOk? Tryz.prog tabS 58 ⟨[.val 50, .val 3, .val 26], .val 4, 56, true⟩ = true := by kernel_rfl
theorem c60 : ctrOk? Tryz.prog tabS 60 ⟨[.val 29], .val 63, 51, true⟩ = true := by kernel_rfl
theorem c61 : ctrOk? Tryz.prog tabS 61 ⟨[.val 50, .val 3], .val 4, 57, true⟩ = true := by kernel_rfl
theorem c62 : ctrOk? Tryz.prog tabS 62 ⟨[.val 50, .val 3, .val 4, .val 26], .own 22, 49, true⟩ = true := by kernel_rfl
theorem c63 : ctrOk? Tryz.prog tabS 63 ⟨[.val 50, .val 26], .val 4, 50, true⟩ = true := by kernel_rfl
theorem c64 : ctrOk? Tryz.prog tabS 64 ⟨[.val 115], .own 22, 46, true⟩ = true := by kernel_rfl
theorem c70 : ctrOk? Tryz.prog tabS 70 ⟨[.own 22, .val 75], .own 22, 3, true⟩ = true := by kernel_rfl
theorem c71 : ctrOk? Tryz.prog tabS 71 ⟨[.own 22, .val 2], .own 22, 7, true⟩ = true := by kernel_rfl
theorem c78 : ctrOk? Tryz.prog tabS 78 ⟨[.own 22, .val 63], .own 22, 30, true⟩ = true := by kernel_rfl
theorem c79 : ctrOk? Tryz.prog tabS 79 ⟨[.own 22, .val 139], .own 22, 5, true⟩ = true := by kernel_rfl
theorem c80 : ctrOk? Tryz.prog tabS 80 ⟨[.val 63], .val 3, 31, true⟩ = true := by kernel_rfl
theorem c83 : ctrOk? Tryz.prog tabS 83 ⟨[.val 4, .val 4, .val 3, .val 3], .own 22, 53, true⟩ = true := by kernel_rfl
theorem c84 : ctrOk? Tryz.prog tabS 84 ⟨[.val 3, .val 29, .val 4, .val 3, .val 4, .val 26], .own 22, 48, true⟩ = true := by kernel_rfl
theorem c85 : ctrOk? Tryz.prog tabS 85 ⟨[.val 2, .val 3], .own 22, 45, true⟩ = true := by kernel_rfl
theorem c86 : ctrOk? Tryz.prog tabS 86 ⟨[.val 3], .val 3, 55, true⟩ = true := by kernel_rfl
theorem c88 : ctrOk? Tryz.prog tabS 88 ⟨[.own 22, .val 115], .own 22, 29, true⟩ = true := by kernel_rfl
end Go.Proofs
