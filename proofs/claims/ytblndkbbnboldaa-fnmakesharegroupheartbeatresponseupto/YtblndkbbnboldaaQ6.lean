/- Part of a verified symbolic run of the program's code (no condition of its own). -/
import Derived.Test.YtblndkbbnboldaaQ5
import Derived.Test.YtblndkbbnboldaaProg
import Derived.KernelRfl
set_option linter.unusedVariables false
set_option linter.unusedSimpArgs false
open Go Go.Dx Go.Mx
namespace Go.Proofs
def tabS : List (Nat × Ctr) := [(4, ⟨[.val 26], .val 4, 54, true⟩),
  (7, ⟨[.val 5, .val 3], .val 3, 58, true⟩),
  (8, ⟨[.val 22, .val 22], .val 4, 52, true⟩),
  (10, ⟨[.val 26], .val 39, 44, true⟩),
  (11, ⟨[.val 29, .val 3, .val 26], .val 26, 43, true⟩),
  (12, ⟨[.val 31, .val 3, .val 26], .own 22, 59, true⟩),
  (20, ⟨[.val 50, .val 3, .val 26], .val 26, 42, true⟩),
  (21, ⟨[.val 26, .val 3], .val 26, 40, true⟩),
  (22, ⟨[.val 29, .val 24], .own 24, 41, true⟩),
  (24, ⟨[.val 29, .val 3, .val 4, .val 26], .own 22, 47, true⟩),
  (28, ⟨[.val 39, .val 3], .val 39, 1, true⟩),
  (29, ⟨[.val 39], .val 52, 26, true⟩),
  (32, ⟨[.own 22, .val 21], .own 22, 6, true⟩),
  (33, ⟨[.own 22, .val 45], .own 22, 4, true⟩),
  (34, ⟨[.own 22, .val 52], .own 22, 14, true⟩),
  (35, ⟨[.own 22, .val 52], .own 22, 13, true⟩),
  (36, ⟨[.own 22, .val 3], .own 22, 20, true⟩),
  (37, ⟨[.own 22, .val 3], .own 22, 19, true⟩),
  (39, ⟨[.own 22, .val 62], .own 22, 10, true⟩),
  (42, ⟨[.val 50, .val 3, .val 26], .val 4, 56, true⟩),
  (44, ⟨[.val 29], .val 62, 51, true⟩),
  (45, ⟨[.val 50, .val 3], .val 4, 57, true⟩),
  (46, ⟨[.val 50, .val 3, .val 4, .val 26], .own 22, 49, true⟩),
  (47, ⟨[.val 50, .val 26], .val 4, 50, true⟩),
  (48, ⟨[.val 96], .own 22, 46, true⟩),
  (50, ⟨[.own 22, .val 62], .own 22, 30, true⟩),
  (51, ⟨[.own 22, .val 101], .own 22, 5, true⟩),
  (52, ⟨[.own 22, .val 9], .own 22, 12, true⟩),
  (53, ⟨[.own 22, .val 9], .own 22, 11, true⟩),
  (54, ⟨[.val 62], .val 3, 31, true⟩),
  (57, ⟨[.val 4, .val 4, .val 3, .val 3], .own 22, 53, true⟩),
  (58, ⟨[.val 3, .val 29, .val 4, .val 3, .val 4, .val 26], .own 22, 48, true⟩),
  (59, ⟨[.val 2, .val 3], .own 22, 45, true⟩),
  (60, ⟨[.val 3], .val 3, 55, true⟩),
  (31, ⟨[.wcell 99 54, .val 62, .val 22], .cell 54, 23, true⟩),
  (38, ⟨[.own 22, .val 83], .own 22, 9, true⟩),
  (40, ⟨[.mcell 99 54], .val 3, 24, true⟩),
  (41, ⟨[.mcell 99 54, .own 22], .own 22, 25, true⟩),
  (65, ⟨[.val 22], .val 83, 28, true⟩)]
theorem nm : xOA Try.prog := names_ok (by kernel_rfl)
theorem ord : Try.prog.follows .mixedOrders = true := by kernel_rfl
theorem c4 : ctrOk? Try.prog tabS 4 ⟨[.val 26], .val 4, 54, true⟩ = true := by kernel_rfl
theorem c7 : ctrOk? Try.prog tabS 7 ⟨[.val 5, .val 3], .val 3, 58, true⟩ = true := by kernel_rfl
theorem c8 : ctrOk? Try.prog tabS 8 ⟨[.val 22, .val 22], .val 4, 52, true⟩ = true := by kernel_rfl
theorem c10 : ctrOk? Try.prog tabS 10 ⟨[.val 26], .val 39, 44, true⟩ = true := by kernel_rfl
theorem c11 : ctrOk? Try.prog tabS 11 ⟨[.val 29, .val 3, .val 26], .val 26, 43, true⟩ = true := by kernel_rfl
theorem c12 : ctrOk? Try.prog tabS 12 ⟨[.val 31, .val 3, .val 26], .own 22, 59, true⟩ = true := by kernel_rfl
theorem c20 : ctrOk? Try.prog tabS 20 ⟨[.val 50, .val 3, .val 26], .val 26, 42, true⟩ = true := by kernel_rfl
theorem c21 : ctrOk? Try.prog tabS 21 ⟨[.val 26, .val 3], .val 26, 40, true⟩ = true := by kernel_rfl
theorem c22 : ctrOk? Try.prog tabS 22 ⟨[.val 29, .val 24], .own 24, 41, true⟩ = true := by kernel_rfl
theorem c24 : ctrOk? Try.prog tabS 24 ⟨[.val 29, .val 3, .val 4, .val 26], .own 22, 47, true⟩ = true := by kernel_rfl
theorem c28 : ctrOk? Try.prog tabS 28 ⟨[.val 39, .val 3], .val 39, 1, true⟩ = true := by kernel_rfl
theorem c29 : ctrOk? Try.prog tabS 29 ⟨[.val 39], .val 52, 26, true⟩ = true := by kernel_rfl
theorem c32 : ctrOk? Try.prog tabS 32 ⟨[.own 22, .val 21], .own 22, 6, true⟩ = true := by kernel_rfl
theorem c33 : ctrOk? Try.prog tabS 33 ⟨[.own 22, .val 45], .own 22, 4, true⟩ = true := by kernel_rfl
theorem c34 : ctrOk? Try.prog tabS 34 ⟨[.own 22, .val 52], .own 22, 14, true⟩ = true := by kernel_rfl
theorem c35 : ctrOk? Try.prog tabS 35 ⟨[.own 22, .val 52], .own 22, 13, true⟩ = true := by kernel_rfl
theorem c36 : ctrOk? Try.prog tabS 36 ⟨[.own 22, .val 3], .own 22, 20, true⟩ = true := by kernel_rfl
theorem c37 : ctrOk? Try.prog tabS 37 ⟨[.own 22, .val 3], .own 22, 19, true⟩ = true := by kernel_rfl
theorem c39 : ctrOk? Try.prog tabS 39 ⟨[.own 22, .val 62], .own 22, 10, true⟩ = true := by kernel_rfl
theorem c42 : ctrOk? Try.prog tabS 42 ⟨[.val 50, .val 3, .val 26], .val 4, 56, true⟩ = true := by kernel_rfl
theorem c44 : ctrOk? Try.prog tabS 44 ⟨[.val 29], .val 62, 51, true⟩ = true := by kernel_rfl
theorem c45 : ctrOk? Try.prog tabS 45 ⟨[.val 50, .val 3], .val 4, 57, true⟩ = true := by kernel_rfl
theorem c46 : ctrOk? Try.prog tabS 46 ⟨[.val 50, .val 3, .val 4, .val 26], .own 22, 49, true⟩ = true := by kernel_rfl
theorem c47 : ctrOk? Try.prog tabS 47 ⟨[.val 50, .val 26], .val 4, 50, true⟩ = true := by kernel_rfl
theorem c48 : ctrOk? Try.prog tabS 48 ⟨[.val 96], .own 22, 46, true⟩ = true := by kernel_rfl
theorem c50 : ctrOk? Try.prog tabS 50 ⟨[.own 22, .val 62], .own 22, 30, true⟩ = true := by kernel_rfl
theorem c51 : ctrOk? Try.prog tabS 51 ⟨[.own 22, .val 101], .own 22, 5, true⟩ = true := by kernel_rfl
theorem c52 : ctrOk? Try.prog tabS 52 ⟨[.own 22, .val 9], .own 22, 12, true⟩ = true := by kernel_rfl
theorem c53 : ctrOk? Try.prog tabS 53 ⟨[.own 22, .val 9], .own 22, 11, true⟩ = true := by kernel_rfl
theorem c54 : ctrOk? Try.prog tabS 54 ⟨[.val 62], .val 3, 31, true⟩ = true := by kernel_rfl
theorem c57 : ctrOk? Try.prog tabS 57 ⟨[.val 4, .val 4, .val 3, .val 3], .own 22, 53, true⟩ = true := by kernel_rfl
theorem c58 : ctrOk? Try.prog tabS 58 ⟨[.val 3, .val 29, .val 4, .val 3, .val 4, .val 26], .own 22, 48, true⟩ = true := by kernel_rfl
theorem c59 : ctrOk? Try.prog tabS 59 ⟨[.val 2, .val 3], .own 22, 45, true⟩ = true := by kernel_rfl
theorem c60 : ctrOk? Try.prog tabS 60 ⟨[.val 3], .val 3, 55, true⟩ = true := by kernel_rfl
end Go.Proofs
