/- Part of a verified symbolic run of the program's code (no condition of its own). -/
import Derived.Test.YtplbaloohebdcaaQ6
import Derived.Test.YtplbaloohebdcaaProg
import Derived.KernelRfl
set_option linter.unusedVariables false
set_option linter.unusedSimpArgs false
open Go Go.Dx Go.Mx
namespace Go.Proofs

/-! ## The functions of this seat -/
def tabS : List (Nat × Ctr) := [(7, ⟨[.val 26], .val 4, 54, true⟩),
  (10, ⟨[.val 5, .val 3], .val 3, 58, true⟩),
  (11, ⟨[.val 22, .val 22], .val 4, 52, true⟩),
  (13, ⟨[.val 26], .val 39, 44, true⟩),
  (14, ⟨[.val 29, .val 3, .val 26], .val 26, 43, true⟩),
  (15, ⟨[.val 31, .val 3, .val 26], .own 22, 59, true⟩),
  (18, ⟨[.val 31, .val 3, .val 26], .own 22, 60, true⟩),
  (31, ⟨[.val 50, .val 3, .val 26], .val 26, 42, true⟩),
  (32, ⟨[.val 26, .val 3], .val 26, 40, true⟩),
  (33, ⟨[.val 29, .val 24], .own 24, 41, true⟩),
  (35, ⟨[.val 29, .val 3, .val 4, .val 26], .own 22, 47, true⟩),
  (38, ⟨[.val 2, .val 3], .own 22, 45, true⟩),
  (51, ⟨[.val 39, .val 3], .val 39, 1, true⟩),
  (52, ⟨[.own 22, .val 9], .own 22, 11, true⟩),
  (53, ⟨[.val 50, .val 3, .val 26], .val 4, 56, true⟩),
  (55, ⟨[.val 29], .val 56, 51, true⟩),
  (56, ⟨[.val 50, .val 3], .val 4, 57, true⟩),
  (57, ⟨[.val 50, .val 3, .val 4, .val 26], .own 22, 49, true⟩),
  (58, ⟨[.val 50, .val 26], .val 4, 50, true⟩),
  (59, ⟨[.val 93], .own 22, 46, true⟩),
  (60, ⟨[.val 39], .val 22, 27, true⟩),
  (61, ⟨[.own 22, .val 45], .own 22, 4, true⟩),
  (62, ⟨[.own 22, .val 2], .own 22, 7, true⟩),
  (63, ⟨[.own 22, .val 22], .own 22, 17, true⟩),
  (66, ⟨[.own 22, .val 9], .own 22, 12, true⟩),
  (67, ⟨[.own 22, .val 4], .own 22, 2, true⟩),
  (68, ⟨[.own 22, .val 56], .own 22, 10, true⟩),
  (72, ⟨[.val 39], .val 79, 26, true⟩),
  (73, ⟨[.own 22, .val 21], .own 22, 6, true⟩),
  (74, ⟨[.own 22, .val 79], .own 22, 14, true⟩),
  (75, ⟨[.own 22, .val 79], .own 22, 13, true⟩),
  (76, ⟨[.val 4, .val 4, .val 3, .val 3], .own 22, 53, true⟩),
  (77, ⟨[.val 3, .val 29, .val 4, .val 3, .val 4, .val 26], .own 22, 48, true⟩),
  (78, ⟨[.val 3], .val 3, 55, true⟩),
  (79, ⟨[.own 22, .val 109], .own 22, 5, true⟩),
  (80, ⟨[.own 22, .val 93], .own 22, 29, true⟩),
  (81, ⟨[.own 22, .val 22], .own 22, 15, true⟩),
  (82, ⟨[.val 56], .val 3, 31, true⟩),
  (85, ⟨[.own 22, .val 56], .own 22, 30, true⟩),
  (65, ⟨[.wcell 111 71, .val 56, .val 22], .cell 71, 23, true⟩),
  (69, ⟨[.mcell 111 71], .val 3, 24, true⟩),
  (70, ⟨[.mcell 111 71, .own 22], .own 22, 25, true⟩)]
theorem nm : NamesOk Try.prog := names_ok (by kernel_rfl)
theorem ord : Try.prog.follows .mixedOrders = true := by kernel_rfl
theorem c7 : ctrOk? Try.prog tabS 7 ⟨[.val 26], .val 4, 54, true⟩ = true := by kernel_rfl
theorem c10 : ctrOk? Try.prog tabS 10 ⟨[.val 5, .val 3], .val 3, 58, true⟩ = true := by kernel_rfl
theorem c11 : ctrOk? Try.prog tabS 11 ⟨[.val 22, .val 22], .val 4, 52, true⟩ = true := by kernel_rfl
theorem c13 : ctrOk? Try.prog tabS 13 ⟨[.val 26], .val 39, 44, true⟩ = true := by kernel_rfl
theorem c14 : ctrOk? Try.prog tabS 14 ⟨[.val 29, .val 3, .val 26], .val 26, 43, true⟩ = true := by kernel_rfl
theorem c15 : ctrOk? Try.prog tabS 15 ⟨[.val 31, .val 3, .val 26], .own 22, 59, true⟩ = true := by kernel_rfl
theorem c18 : ctrOk? Try.prog tabS 18 ⟨[.val 31, .val 3, .val 26], .own 22, 60, true⟩ = true := by kernel_rfl
theorem c31 : ctrOk? Try.prog tabS 31 ⟨[.val 50, .val 3, .val 26], .val 26, 42, true⟩ = true := by kernel_rfl
theorem c32 : ctrOk? Try.prog tabS 32 ⟨[.val 26, .val 3], .val 26, 40, true⟩ = true := by kernel_rfl
theorem c33 : ctrOk? Try.prog tabS 33 ⟨[.val 29, .val 24], .own 24, 41, true⟩ = true := by kernel_rfl
theorem c35 : ctrOk? Try.prog tabS 35 ⟨[.val 29, .val 3, .val 4, .val 26], .own 22, 47, true⟩ = true := by kernel_rfl
theorem c38 : ctrOk? Try.prog tabS 38 ⟨[.val 2, .val 3], .own 22, 45, true⟩ = true := by kernel_rfl
theorem c51 : ctrOk? Try.prog tabS 51 ⟨[.val 39, .val 3], .val 39, 1, true⟩ = true := by kernel_rfl
theorem c52 : ctrOk? Try.prog tabS 52 ⟨[.own 22, .val 9], .own 22, 11, true⟩ = true := by kernel_rfl
theorem c53 : ctrOk? Try.prog tabS 53 ⟨[.val 50, .val 3, .val 26], .val 4, 56, true⟩ = true := by kernel_rfl
theorem c55 : ctrOk? Try.prog tabS 55 ⟨[.val 29], .val 56, 51, true⟩ = true := by kernel_rfl
theorem c56 : ctrOk? Try.prog tabS 56 ⟨[.val 50, .val 3], .val 4, 57, true⟩ = true := by kernel_rfl
theorem c57 : ctrOk? Try.prog tabS 57 ⟨[.val 50, .val 3, .val 4, .val 26], .own 22, 49, true⟩ = true := by kernel_rfl
theorem c58 : ctrOk? Try.prog tabS 58 ⟨[.val 50, .val 26], .val 4, 50, true⟩ = true := by kernel_rfl
theorem c59 : ctrOk? Try.prog tabS 59 ⟨[.val 93], .own 22, 46, true⟩ = true := by kernel_rfl
theorem c60 : ctrOk? Try.prog tabS 60 ⟨[.val 39], .val 22, 27, true⟩ = true := by kernel_rfl
theorem c61 : ctrOk? Try.prog tabS 61 ⟨[.own 22, .val 45], .own 22, 4, true⟩ = true := by kernel_rfl
theorem c62 : ctrOk? Try.prog tabS 62 ⟨[.own 22, .val 2], .own 22, 7, true⟩ = true := by kernel_rfl
theorem c63 : ctrOk? Try.prog tabS 63 ⟨[.own 22, .val 22], .own 22, 17, true⟩ = true := by kernel_rfl
theorem c66 : ctrOk? Try.prog tabS 66 ⟨[.own 22, .val 9], .own 22, 12, true⟩ = true := by kernel_rfl
theorem c67 : ctrOk? Try.prog tabS 67 ⟨[.own 22, .val 4], .own 22, 2, true⟩ = true := by kernel_rfl
theorem c68 : ctrOk? Try.prog tabS 68 ⟨[.own 22, .val 56], .own 22, 10, true⟩ = true := by kernel_rfl
theorem c72 : ctrOk? Try.prog tabS 72 ⟨[.val 39], .val 79, 26, true⟩ = true := by kernel_rfl
theorem c73 : ctrOk? Try.prog tabS 73 ⟨[.own 22, .val 21], .own 22, 6, true⟩ = true := by kernel_rfl
theorem c74 : ctrOk? Try.prog tabS 74 ⟨[.own 22, .val 79], .own 22, 14, true⟩ = true := by kernel_rfl
theorem c75 : ctrOk? Try.prog tabS 75 ⟨[.own 22, .val 79], .own 22, 13, true⟩ = true := by kernel_rfl
theorem c76 : ctrOk? Try.prog tabS 76 ⟨[.val 4, .val 4, .val 3, .val 3], .own 22, 53, true⟩ = true := by kernel_rfl
theorem c77 : ctrOk? Try.prog tabS 77 ⟨[.val 3, .val 29, .val 4, .val 3, .val 4, .val 26], .own 22, 48, true⟩ = true := by kernel_rfl
theorem c78 : ctrOk? Try.prog tabS 78 ⟨[.val 3], .val 3, 55, true⟩ = true := by kernel_rfl
theorem c79 : ctrOk? Try.prog tabS 79 ⟨[.own 22, .val 109], .own 22, 5, true⟩ = true := by kernel_rfl
theorem c80 : ctrOk? Try.prog tabS 80 ⟨[.own 22, .val 93], .own 22, 29, true⟩ = true := by kernel_rfl
theorem c81 : ctrOk? Try.prog tabS 81 ⟨[.own 22, .val 22], .own 22, 15, true⟩ = true := by kernel_rfl
theorem c82 : ctrOk? Try.prog tabS 82 ⟨[.val 56], .val 3, 31, true⟩ = true := by kernel_rfl
theorem c85 : ctrOk? Try.prog tabS 85 ⟨[.own 22, .val 56], .own 22, 30, true⟩ = true := by kernel_rfl
end Go.Proofs
