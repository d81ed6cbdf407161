/- Part of a verified symbolic run of the program's code (no condition of its own). -/
import Derived.Test.YtplbaloohebdcabQ6
import Derived.Test.YtplbaloohebdcabProg
import Derived.KernelRfl
set_option linter.unusedVariables false
set_option linter.unusedSimpArgs false
open Go Go.Dx Go.Mx
namespace Go.Proofs

/-! ## The functions of this seat -/
def tabS : List (Nat × Ctr) := [(5, ⟨[.val 26], .val 4, 54, true⟩),
  (8, ⟨[.val 5, .val 3], .val 3, 58, true⟩),
  (9, ⟨[.val 22, .val 22], .val 4, 52, true⟩),
  (11, ⟨[.val 26], .val 39, 44, true⟩),
  (12, ⟨[.val 29, .val 3, .val 26], .val 26, 43, true⟩),
  (13, ⟨[.val 31, .val 3, .val 26], .own 22, 59, true⟩),
  (23, ⟨[.val 50, .val 3, .val 26], .val 26, 42, true⟩),
  (24, ⟨[.val 26, .val 3], .val 26, 40, true⟩),
  (25, ⟨[.val 29, .val 24], .own 24, 41, true⟩),
  (27, ⟨[.val 29, .val 3, .val 4, .val 26], .own 22, 47, true⟩),
  (35, ⟨[.val 39, .val 3], .val 39, 1, true⟩),
  (37, ⟨[.own 22, .val 3], .own 22, 20, true⟩),
  (38, ⟨[.own 22, .val 3], .own 22, 19, true⟩),
  (39, ⟨[.own 22, .val 9], .own 22, 12, true⟩),
  (40, ⟨[.own 22, .val 9], .own 22, 11, true⟩),
  (41, ⟨[.own 22, .val 4], .own 22, 2, true⟩),
  (42, ⟨[.own 22, .val 60], .own 22, 10, true⟩),
  (45, ⟨[.val 50, .val 3, .val 26], .val 4, 56, true⟩),
  (47, ⟨[.val 29], .val 60, 51, true⟩),
  (48, ⟨[.val 50, .val 3], .val 4, 57, true⟩),
  (49, ⟨[.val 50, .val 3, .val 4, .val 26], .own 22, 49, true⟩),
  (50, ⟨[.val 50, .val 26], .val 4, 50, true⟩),
  (51, ⟨[.val 87], .own 22, 46, true⟩),
  (53, ⟨[.own 22, .val 21], .own 22, 6, true⟩),
  (54, ⟨[.own 22, .val 45], .own 22, 4, true⟩),
  (55, ⟨[.val 60], .val 3, 31, true⟩),
  (58, ⟨[.val 4, .val 4, .val 3, .val 3], .own 22, 53, true⟩),
  (59, ⟨[.val 3, .val 29, .val 4, .val 3, .val 4, .val 26], .own 22, 48, true⟩),
  (60, ⟨[.val 2, .val 3], .own 22, 45, true⟩),
  (61, ⟨[.val 3], .val 3, 55, true⟩),
  (62, ⟨[.own 22, .val 60], .own 22, 30, true⟩),
  (63, ⟨[.own 22, .val 99], .own 22, 5, true⟩),
  (36, ⟨[.wcell 88 52, .val 60, .val 22], .cell 52, 23, true⟩),
  (43, ⟨[.mcell 88 52], .val 3, 24, true⟩),
  (44, ⟨[.mcell 88 52, .own 22], .own 22, 25, true⟩)]
theorem nm : NamesOk Try.prog := names_ok (by kernel_rfl)
theorem ord : Try.prog.follows .mixedOrders = true := by kernel_rfl
theorem c5 : ctrOk? Try.prog tabS 5 ⟨[.val 26], .val 4, 54, true⟩ = true := by kernel_rfl
theorem c8 : ctrOk? Try.prog tabS 8 ⟨[.val 5, .val 3], .val 3, 58, true⟩ = true := by kernel_rfl
theorem c9 : ctrOk? Try.prog tabS 9 ⟨[.val 22, .val 22], .val 4, 52, true⟩ = true := by kernel_rfl
theorem c11 : ctrOk? Try.prog tabS 11 ⟨[.val 26], .val 39, 44, true⟩ = true := by kernel_rfl
theorem c12 : ctrOk? Try.prog tabS 12 ⟨[.val 29, .val 3, .val 26], .val 26, 43, true⟩ = true := by kernel_rfl
theorem c13 : ctrOk? Try.prog tabS 13 ⟨[.val 31, .val 3, .val 26], .own 22, 59, true⟩ = true := by kernel_rfl
theorem c23 : ctrOk? Try.prog tabS 23 ⟨[.val 50, .val 3, .val 26], .val 26, 42, true⟩ = true := by kernel_rfl
theorem c24 : ctrOk? Try.prog tabS 24 ⟨[.val 26, .val 3], .val 26, 40, true⟩ = true := by kernel_rfl
theorem c25 : ctrOk? Try.prog tabS 25 ⟨[.val 29, .val 24], .own 24, 41, true⟩ = true := by kernel_rfl
theorem c27 : ctrOk? Try.prog tabS 27 ⟨[.val 29, .val 3, .val 4, .val 26], .own 22, 47, true⟩ = true := by kernel_rfl
theorem c35 : ctrOk? Try.prog tabS 35 ⟨[.val 39, .val 3], .val 39, 1, true⟩ = true := by kernel_rfl
theorem c37 : ctrOk? Try.prog tabS 37 ⟨[.own 22, .val 3], .own 22, 20, true⟩ = true := by kernel_rfl
theorem c38 : ctrOk? Try.prog tabS 38 ⟨[.own 22, .val 3], .own 22, 19, true⟩ = true := by kernel_rfl
theorem c39 : ctrOk? Try.prog tabS 39 ⟨[.own 22, .val 9], .own 22, 12, true⟩ = true := by kernel_rfl
theorem c40 : ctrOk? Try.prog tabS 40 ⟨[.own 22, .val 9], .own 22, 11, true⟩ = true := by kernel_rfl
theorem c41 : ctrOk? Try.prog tabS 41 ⟨[.own 22, .val 4], .own 22, 2, true⟩ = true := by kernel_rfl
theorem c42 : ctrOk? Try.prog tabS 42 ⟨[.own 22, .val 60], .own 22, 10, true⟩ = true := by kernel_rfl
theorem c45 : ctrOk? Try.prog tabS 45 ⟨[.val 50, .val 3, .val 26], .val 4, 56, true⟩ = true := by kernel_rfl
theorem c47 : ctrOk? Try.prog tabS 47 ⟨[.val 29], .val 60, 51, true⟩ = true := by kernel_rfl
theorem c48 : ctrOk? Try.prog tabS 48 ⟨[.val 50, .val 3], .val 4, 57, true⟩ = true := by kernel_rfl
theorem c49 : ctrOk? Try.prog tabS 49 ⟨[.val 50, .val 3, .val 4, .val 26], .own 22, 49, true⟩ = true := by kernel_rfl
theorem c50 : ctrOk? Try.prog tabS 50 ⟨[.val 50, .val 26], .val 4, 50, true⟩ = true := by kernel_rfl
theorem c51 : ctrOk? Try.prog tabS 51 ⟨[.val 87], .own 22, 46, true⟩ = true := by kernel_rfl
theorem c53 : ctrOk? Try.prog tabS 53 ⟨[.own 22, .val 21], .own 22, 6, true⟩ = true := by kernel_rfl
theorem c54 : ctrOk? Try.prog tabS 54 ⟨[.own 22, .val 45], .own 22, 4, true⟩ = true := by kernel_rfl
theorem c55 : ctrOk? Try.prog tabS 55 ⟨[.val 60], .val 3, 31, true⟩ = true := by kernel_rfl
theorem c58 : ctrOk? Try.prog tabS 58 ⟨[.val 4, .val 4, .val 3, .val 3], .own 22, 53, true⟩ = true := by kernel_rfl
theorem c59 : ctrOk? Try.prog tabS 59 ⟨[.val 3, .val 29, .val 4, .val 3, .val 4, .val 26], .own 22, 48, true⟩ = true := by kernel_rfl
theorem c60 : ctrOk? Try.prog tabS 60 ⟨[.val 2, .val 3], .own 22, 45, true⟩ = true := by kernel_rfl
theorem c61 : ctrOk? Try.prog tabS 61 ⟨[.val 3], .val 3, 55, true⟩ = true := by kernel_rfl
theorem c62 : ctrOk? Try.prog tabS 62 ⟨[.own 22, .val 60], .own 22, 30, true⟩ = true := by kernel_rfl
theorem c63 : ctrOk? Try.prog tabS 63 ⟨[.own 22, .val 99], .own 22, 5, true⟩ = true := by kernel_rfl
end Go.Proofs
