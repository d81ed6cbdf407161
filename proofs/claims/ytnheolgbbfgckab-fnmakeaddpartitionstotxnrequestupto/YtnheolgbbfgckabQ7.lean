/- Part of a verified symbolic run of the program's code (no condition of its own). -/
import Derived.Test.YtnheolgbbfgckabQ6
import Derived.Test.YtnheolgbbfgckabProg
import Derived.KernelRfl
set_option linter.unusedVariables false
set_option linter.unusedSimpArgs false
open Go Go.Dx Go.Mx
namespace Go.Proofs

/-! ## The functions of this seat -/
def tabS : List (Nat × Ctr) := [(6, ⟨[.val 26], .val 4, 54, true⟩),
  (9, ⟨[.val 5, .val 3], .val 3, 58, true⟩),
  (10, ⟨[.val 22, .val 22], .val 4, 52, true⟩),
  (12, ⟨[.val 26], .val 39, 44, true⟩),
  (13, ⟨[.val 29, .val 3, .val 26], .val 26, 43, true⟩),
  (14, ⟨[.val 31, .val 3, .val 26], .own 22, 59, true⟩),
  (28, ⟨[.val 50, .val 3, .val 26], .val 26, 42, true⟩),
  (29, ⟨[.val 26, .val 3], .val 26, 40, true⟩),
  (30, ⟨[.val 29, .val 24], .own 24, 41, true⟩),
  (32, ⟨[.val 29, .val 3, .val 4, .val 26], .own 22, 47, true⟩),
  (49, ⟨[.val 39, .val 3], .val 39, 1, true⟩),
  (50, ⟨[.val 39], .val 52, 26, true⟩),
  (53, ⟨[.own 22, .val 21], .own 22, 6, true⟩),
  (54, ⟨[.own 22, .val 45], .own 22, 4, true⟩),
  (55, ⟨[.own 22, .val 52], .own 22, 14, true⟩),
  (56, ⟨[.own 22, .val 52], .own 22, 13, true⟩),
  (57, ⟨[.own 22, .val 3], .own 22, 20, true⟩),
  (58, ⟨[.own 22, .val 3], .own 22, 19, true⟩),
  (60, ⟨[.own 22, .val 62], .own 22, 10, true⟩),
  (63, ⟨[.val 50, .val 3, .val 26], .val 4, 56, true⟩),
  (65, ⟨[.val 29], .val 62, 51, true⟩),
  (66, ⟨[.val 50, .val 3], .val 4, 57, true⟩),
  (67, ⟨[.val 50, .val 3, .val 4, .val 26], .own 22, 49, true⟩),
  (68, ⟨[.val 50, .val 26], .val 4, 50, true⟩),
  (69, ⟨[.val 109], .own 22, 46, true⟩),
  (73, ⟨[.own 22, .val 9], .own 22, 12, true⟩),
  (74, ⟨[.own 22, .val 9], .own 22, 11, true⟩),
  (79, ⟨[.own 22, .val 2], .own 22, 7, true⟩),
  (80, ⟨[.own 22, .val 4], .own 22, 2, true⟩),
  (82, ⟨[.own 22, .val 62], .own 22, 30, true⟩),
  (83, ⟨[.own 22, .val 136], .own 22, 5, true⟩),
  (84, ⟨[.val 62], .val 3, 31, true⟩),
  (87, ⟨[.val 4, .val 4, .val 3, .val 3], .own 22, 53, true⟩),
  (88, ⟨[.val 3, .val 29, .val 4, .val 3, .val 4, .val 26], .own 22, 48, true⟩),
  (89, ⟨[.val 2, .val 3], .own 22, 45, true⟩),
  (90, ⟨[.val 3], .val 3, 55, true⟩),
  (93, ⟨[.own 22, .val 109], .own 22, 29, true⟩),
  (52, ⟨[.wcell 134 54, .val 62, .val 22], .cell 54, 23, true⟩),
  (59, ⟨[.own 22, .val 96], .own 22, 9, true⟩),
  (61, ⟨[.mcell 134 54], .val 3, 24, true⟩),
  (62, ⟨[.mcell 134 54, .own 22], .own 22, 25, true⟩),
  (98, ⟨[.val 22], .val 96, 28, true⟩)]
theorem nm : NamesOk Try.prog := names_ok (by kernel_rfl)
theorem ord : Try.prog.follows .mixedOrders = true := by kernel_rfl
theorem c6 : ctrOk? Try.prog tabS 6 ⟨[.val 26], .val 4, 54, true⟩ = true := by kernel_rfl
theorem c9 : ctrOk? Try.prog tabS 9 ⟨[.val 5, .val 3], .val 3, 58, true⟩ = true := by kernel_rfl
theorem c10 : ctrOk? Try.prog tabS 10 ⟨[.val 22, .val 22], .val 4, 52, true⟩ = true := by kernel_rfl
theorem c12 : ctrOk? Try.prog tabS 12 ⟨[.val 26], .val 39, 44, true⟩ = true := by kernel_rfl
theorem c13 : ctrOk? Try.prog tabS 13 ⟨[.val 29, .val 3, .val 26], .val 26, 43, true⟩ = true := by kernel_rfl
theorem c14 : ctrOk? Try.prog tabS 14 ⟨[.val 31, .val 3, .val 26], .own 22, 59, true⟩ = true := by kernel_rfl
theorem c28 : ctrOk? Try.prog tabS 28 ⟨[.val 50, .val 3, .val 26], .val 26, 42, true⟩ = true := by kernel_rfl
theorem c29 : ctrOk? Try.prog tabS 29 ⟨[.val 26, .val 3], .val 26, 40, true⟩ = true := by kernel_rfl
theorem c30 : ctrOk? Try.prog tabS 30 ⟨[.val 29, .val 24], .own 24, 41, true⟩ = true := by kernel_rfl
theorem c32 : ctrOk? Try.prog tabS 32 ⟨[.val 29, .val 3, .val 4, .val 26], .own 22, 47, true⟩ = true := by kernel_rfl
theorem c49 : ctrOk? Try.prog tabS 49 ⟨[.val 39, .val 3], .val 39, 1, true⟩ = true := by kernel_rfl
theorem c50 : ctrOk? Try.prog tabS 50 ⟨[.val 39], .val 52, 26, true⟩ = true := by kernel_rfl
theorem c53 : ctrOk? Try.prog tabS 53 ⟨[.own 22, .val 21], .own 22, 6, true⟩ = true := by kernel_rfl
theorem c54 : ctrOk? Try.prog tabS 54 ⟨[.own 22, .val 45], .own 22, 4, true⟩ = true := by kernel_rfl
theorem c55 : ctrOk? Try.prog tabS 55 ⟨[.own 22, .val 52], .own 22, 14, true⟩ = true := by kernel_rfl
theorem c56 : ctrOk? Try.prog tabS 56 ⟨[.own 22, .val 52], .own 22, 13, true⟩ = true := by kernel_rfl
theorem c57 : ctrOk? Try.prog tabS 57 ⟨[.own 22, .val 3], .own 22, 20, true⟩ = true := by kernel_rfl
theorem c58 : ctrOk? Try.prog tabS 58 ⟨[.own 22, .val 3], .own 22, 19, true⟩ = true := by kernel_rfl
theorem c60 : ctrOk? Try.prog tabS 60 ⟨[.own 22, .val 62], .own 22, 10, true⟩ = true := by kernel_rfl
theorem c63 : ctrOk? Try.prog tabS 63 ⟨[.val 50, .val 3, .val 26], .val 4, 56, true⟩ = true := by kernel_rfl
theorem c65 : ctrOk? Try.prog tabS 65 ⟨[.val 29], .val 62, 51, true⟩ = true := by kernel_rfl
theorem c66 : ctrOk? Try.prog tabS 66 ⟨[.val 50, .val 3], .val 4, 57, true⟩ = true := by kernel_rfl
theorem c67 : ctrOk? Try.prog tabS 67 ⟨[.val 50, .val 3, .val 4, .val 26], .own 22, 49, true⟩ = true := by kernel_rfl
theorem c68 : ctrOk? Try.prog tabS 68 ⟨[.val 50, .val 26], .val 4, 50, true⟩ = true := by kernel_rfl
theorem c69 : ctrOk? Try.prog tabS 69 ⟨[.val 109], .own 22, 46, true⟩ = true := by kernel_rfl
theorem c73 : ctrOk? Try.prog tabS 73 ⟨[.own 22, .val 9], .own 22, 12, true⟩ = true := by kernel_rfl
theorem c74 : ctrOk? Try.prog tabS 74 ⟨[.own 22, .val 9], .own 22, 11, true⟩ = true := by kernel_rfl
theorem c79 : ctrOk? Try.prog tabS 79 ⟨[.own 22, .val 2], .own 22, 7, true⟩ = true := by kernel_rfl
theorem c80 : ctrOk? Try.prog tabS 80 ⟨[.own 22, .val 4], .own 22, 2, true⟩ = true := by kernel_rfl
theorem c82 : ctrOk? Try.prog tabS 82 ⟨[.own 22, .val 62], .own 22, 30, true⟩ = true := by kernel_rfl
theorem c83 : ctrOk? Try.prog tabS 83 ⟨[.own 22, .val 136], .own 22, 5, true⟩ = true := by kernel_rfl
theorem c84 : ctrOk? Try.prog tabS 84 ⟨[.val 62], .val 3, 31, true⟩ = true := by kernel_rfl
theorem c87 : ctrOk? Try.prog tabS 87 ⟨[.val 4, .val 4, .val 3, .val 3], .own 22, 53, true⟩ = true := by kernel_rfl
theorem c88 : ctrOk? Try.prog tabS 88 ⟨[.val 3, .val 29, .val 4, .val 3, .val 4, .val 26], .own 22, 48, true⟩ = true := by kernel_rfl
theorem c89 : ctrOk? Try.prog tabS 89 ⟨[.val 2, .val 3], .own 22, 45, true⟩ = true := by kernel_rfl
theorem c90 : ctrOk? Try.prog tabS 90 ⟨[.val 3], .val 3, 55, true⟩ = true := by kernel_rfl
theorem c93 : ctrOk? Try.prog tabS 93 ⟨[.own 22, .val 109], .own 22, 29, true⟩ = true := by kernel_rfl
end Go.Proofs
