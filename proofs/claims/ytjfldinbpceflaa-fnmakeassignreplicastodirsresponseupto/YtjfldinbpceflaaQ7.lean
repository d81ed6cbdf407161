/- Part of a verified symbolic run of the program's code (no condition of its own). -/
import Derived.Test.YtjfldinbpceflaaQ6
import Derived.Test.YtjfldinbpceflaaProg
import Derived.KernelRfl
set_option linter.unusedVariables false
set_option linter.unusedSimpArgs false
open Go Go.Dx Go.Mx
namespace Go.Proofs

/-! ## The functions of this seat -/
def tabS : List (Nat × Ctr) := [(6, ⟨[.val 26], .val 4, 54, true⟩),
  (9, ⟨[.val 5, .val 3], .val 3, 58, true⟩),
  (10, ⟨[.val 22, .val 22], .val 4, 52, true⟩),
  (12, ⟨[.val 26], .val 39, 44, true⟩),
  (13, ⟨[.val 29, .val 3, .val 26], .val 26, 43, true⟩),
  (14, ⟨[.val 31, .val 3, .val 26], .own 22, 59, true⟩),
  (27, ⟨[.val 50, .val 3, .val 26], .val 26, 42, true⟩),
  (28, ⟨[.val 26, .val 3], .val 26, 40, true⟩),
  (29, ⟨[.val 29, .val 24], .own 24, 41, true⟩),
  (31, ⟨[.val 29, .val 3, .val 4, .val 26], .own 22, 47, true⟩),
  (46, ⟨[.val 39, .val 3], .val 39, 1, true⟩),
  (49, ⟨[.own 22, .val 21], .own 22, 6, true⟩),
  (50, ⟨[.own 22, .val 2], .own 22, 7, true⟩),
  (51, ⟨[.own 22, .val 4], .own 22, 2, true⟩),
  (52, ⟨[.own 22, .val 60], .own 22, 10, true⟩),
  (54, ⟨[.own 22, .val 3], .own 22, 20, true⟩),
  (55, ⟨[.own 22, .val 3], .own 22, 19, true⟩),
  (57, ⟨[.own 22, .val 3, .val 4], .own 22, 22, true⟩),
  (58, ⟨[.own 22, .val 3, .val 4], .own 22, 21, true⟩),
  (60, ⟨[.val 50, .val 3, .val 26], .val 4, 56, true⟩),
  (62, ⟨[.val 29], .val 60, 51, true⟩),
  (63, ⟨[.val 50, .val 3], .val 4, 57, true⟩),
  (64, ⟨[.val 50, .val 3, .val 4, .val 26], .own 22, 49, true⟩),
  (65, ⟨[.val 50, .val 26], .val 4, 50, true⟩),
  (66, ⟨[.val 102], .own 22, 46, true⟩),
  (70, ⟨[.own 22, .val 45], .own 22, 4, true⟩),
  (73, ⟨[.val 39], .val 77, 26, true⟩),
  (75, ⟨[.own 22, .val 77], .own 22, 14, true⟩),
  (76, ⟨[.own 22, .val 77], .own 22, 13, true⟩),
  (77, ⟨[.own 22, .val 60], .own 22, 30, true⟩),
  (78, ⟨[.own 22, .val 102], .own 22, 29, true⟩),
  (79, ⟨[.val 60], .val 3, 31, true⟩),
  (82, ⟨[.val 4, .val 4, .val 3, .val 3], .own 22, 53, true⟩),
  (83, ⟨[.val 3, .val 29, .val 4, .val 3, .val 4, .val 26], .own 22, 48, true⟩),
  (84, ⟨[.val 2, .val 3], .own 22, 45, true⟩),
  (85, ⟨[.val 3], .val 3, 55, true⟩),
  (88, ⟨[.own 22, .val 137], .own 22, 5, true⟩),
  (90, ⟨[.own 22, .val 9], .own 22, 12, true⟩),
  (91, ⟨[.own 22, .val 9], .own 22, 11, true⟩),
  (47, ⟨[.val 22], .val 84, 28, true⟩),
  (48, ⟨[.wcell 126 52, .val 60, .val 22], .cell 52, 23, true⟩),
  (53, ⟨[.mcell 126 52], .val 3, 24, true⟩),
  (56, ⟨[.own 22, .val 84], .own 22, 9, true⟩),
  (59, ⟨[.mcell 126 52, .own 22], .own 22, 25, true⟩)]
theorem nm : NamesOk Try.prog := names_ok (by kernel_rfl)
theorem ord : Try.prog.follows .mixedOrders = true := by kernel_rfl
theorem c6 : ctrOk? Try.prog tabS 6 ⟨[.val 26], .val 4, 54, true⟩ = true := by kernel_rfl
theorem c9 : ctrOk? Try.prog tabS 9 ⟨[.val 5, .val 3], .val 3, 58, true⟩ = true := by kernel_rfl
theorem c10 : ctrOk? Try.prog tabS 10 ⟨[.val 22, .val 22], .val 4, 52, true⟩ = true := by kernel_rfl
theorem c12 : ctrOk? Try.prog tabS 12 ⟨[.val 26], .val 39, 44, true⟩ = true := by kernel_rfl
theorem c13 : ctrOk? Try.prog tabS 13 ⟨[.val 29, .val 3, .val 26], .val 26, 43, true⟩ = true := by kernel_rfl
theorem c14 : ctrOk? Try.prog tabS 14 ⟨[.val 31, .val 3, .val 26], .own 22, 59, true⟩ = true := by kernel_rfl
theorem c27 : ctrOk? Try.prog tabS 27 ⟨[.val 50, .val 3, .val 26], .val 26, 42, true⟩ = true := by kernel_rfl
theorem c28 : ctrOk? Try.prog tabS 28 ⟨[.val 26, .val 3], .val 26, 40, true⟩ = true := by kernel_rfl
theorem c29 : ctrOk? Try.prog tabS 29 ⟨[.val 29, .val 24], .own 24, 41, true⟩ = true := by kernel_rfl
theorem c31 : ctrOk? Try.prog tabS 31 ⟨[.val 29, .val 3, .val 4, .val 26], .own 22, 47, true⟩ = true := by kernel_rfl
theorem c46 : ctrOk? Try.prog tabS 46 ⟨[.val 39, .val 3], .val 39, 1, true⟩ = true := by kernel_rfl
theorem c49 : ctrOk? Try.prog tabS 49 ⟨[.own 22, .val 21], .own 22, 6, true⟩ = true := by kernel_rfl
theorem c50 : ctrOk? Try.prog tabS 50 ⟨[.own 22, .val 2], .own 22, 7, true⟩ = true := by kernel_rfl
theorem c51 : ctrOk? Try.prog tabS 51 ⟨[.own 22, .val 4], .own 22, 2, true⟩ = true := by kernel_rfl
theorem c52 : ctrOk? Try.prog tabS 52 ⟨[.own 22, .val 60], .own 22, 10, true⟩ = true := by kernel_rfl
theorem c54 : ctrOk? Try.prog tabS 54 ⟨[.own 22, .val 3], .own 22, 20, true⟩ = true := by kernel_rfl
theorem c55 : ctrOk? Try.prog tabS 55 ⟨[.own 22, .val 3], .own 22, 19, true⟩ = true := by kernel_rfl
theorem c57 : ctrOk? Try.prog tabS 57 ⟨[.own 22, .val 3, .val 4], .own 22, 22, true⟩ = true := by kernel_rfl
theorem c58 : ctrOk? Try.prog tabS 58 ⟨[.own 22, .val 3, .val 4], .own 22, 21, true⟩ = true := by kernel_rfl
theorem c60 : ctrOk? Try.prog tabS 60 ⟨[.val 50, .val 3, .val 26], .val 4, 56, true⟩ = true := by kernel_rfl
theorem c62 : ctrOk? Try.prog tabS 62 ⟨[.val 29], .val 60, 51, true⟩ = true := by kernel_rfl
theorem c63 : ctrOk? Try.prog tabS 63 ⟨[.val 50, .val 3], .val 4, 57, true⟩ = true := by kernel_rfl
theorem c64 : ctrOk? Try.prog tabS 64 ⟨[.val 50, .val 3, .val 4, .val 26], .own 22, 49, true⟩ = true := by kernel_rfl
theorem c65 : ctrOk? Try.prog tabS 65 ⟨[.val 50, .val 26], .val 4, 50, true⟩ = true := by kernel_rfl
theorem c66 : ctrOk? Try.prog tabS 66 ⟨[.val 102], .own 22, 46, true⟩ = true := by kernel_rfl
theorem c70 : ctrOk? Try.prog tabS 70 ⟨[.own 22, .val 45], .own 22, 4, true⟩ = true := by kernel_rfl
theorem c73 : ctrOk? Try.prog tabS 73 ⟨[.val 39], .val 77, 26, true⟩ = true := by kernel_rfl
theorem c75 : ctrOk? Try.prog tabS 75 ⟨[.own 22, .val 77], .own 22, 14, true⟩ = true := by kernel_rfl
theorem c76 : ctrOk? Try.prog tabS 76 ⟨[.own 22, .val 77], .own 22, 13, true⟩ = true := by kernel_rfl
theorem c77 : ctrOk? Try.prog tabS 77 ⟨[.own 22, .val 60], .own 22, 30, true⟩ = true := by kernel_rfl
theorem c78 : ctrOk? Try.prog tabS 78 ⟨[.own 22, .val 102], .own 22, 29, true⟩ = true := by kernel_rfl
theorem c79 : ctrOk? Try.prog tabS 79 ⟨[.val 60], .val 3, 31, true⟩ = true := by kernel_rfl
theorem c82 : ctrOk? Try.prog tabS 82 ⟨[.val 4, .val 4, .val 3, .val 3], .own 22, 53, true⟩ = true := by kernel_rfl
theorem c83 : ctrOk? Try.prog tabS 83 ⟨[.val 3, .val 29, .val 4, .val 3, .val 4, .val 26], .own 22, 48, true⟩ = true := by kernel_rfl
theorem c84 : ctrOk? Try.prog tabS 84 ⟨[.val 2, .val 3], .own 22, 45, true⟩ = true := by kernel_rfl
theorem c85 : ctrOk? Try.prog tabS 85 ⟨[.val 3], .val 3, 55, true⟩ = true := by kernel_rfl
theorem c88 : ctrOk? Try.prog tabS 88 ⟨[.own 22, .val 137], .own 22, 5, true⟩ = true := by kernel_rfl
theorem c90 : ctrOk? Try.prog tabS 90 ⟨[.own 22, .val 9], .own 22, 12, true⟩ = true := by kernel_rfl
theorem c91 : ctrOk? Try.prog tabS 91 ⟨[.own 22, .val 9], .own 22, 11, true⟩ = true := by kernel_rfl
end Go.Proofs
