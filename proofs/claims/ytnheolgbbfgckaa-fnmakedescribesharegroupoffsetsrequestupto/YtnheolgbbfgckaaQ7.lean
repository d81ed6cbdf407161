/- Part of a verified symbolic run of the program's code (no condition of its own). -/
import Derived.Test.YtnheolgbbfgckaaQ6
import Derived.Test.YtnheolgbbfgckaaProg
import Derived.KernelRfl
set_option linter.unusedVariables false
set_option linter.unusedSimpArgs false
open Go Go.Dx Go.Mx
namespace Go.Proofs

/-! ## The functions of this seat -/
def tabS : List (Nat × Ctr) := [(15, ⟨[.val 26], .val 4, 54, true⟩),
  (18, ⟨[.val 5, .val 3], .val 3, 58, true⟩),
  (19, ⟨[.val 22, .val 22], .val 4, 52, true⟩),
  (21, ⟨[.val 26], .val 39, 44, true⟩),
  (22, ⟨[.val 29, .val 3, .val 26], .val 26, 43, true⟩),
  (23, ⟨[.val 31, .val 3, .val 26], .own 22, 59, true⟩),
  (64, ⟨[.val 51, .val 3, .val 26], .val 26, 42, true⟩),
  (65, ⟨[.val 26, .val 3], .val 26, 40, true⟩),
  (66, ⟨[.val 29, .val 24], .own 24, 41, true⟩),
  (68, ⟨[.val 29, .val 3, .val 4, .val 26], .own 22, 47, true⟩),
  (134, ⟨[.val 39, .val 3], .val 39, 1, true⟩),
  (137, ⟨[.own 22, .val 3, .val 4], .own 22, 22, true⟩),
  (138, ⟨[.own 22, .val 3, .val 4], .own 22, 21, true⟩),
  (139, ⟨[.own 22, .val 9], .own 22, 12, true⟩),
  (140, ⟨[.own 22, .val 9], .own 22, 11, true⟩),
  (141, ⟨[.own 22, .val 61], .own 22, 10, true⟩),
  (144, ⟨[.val 51, .val 3, .val 26], .val 4, 56, true⟩),
  (146, ⟨[.val 29], .val 61, 51, true⟩),
  (147, ⟨[.val 51, .val 3], .val 4, 57, true⟩),
  (148, ⟨[.val 51, .val 3, .val 4, .val 26], .own 22, 49, true⟩),
  (149, ⟨[.val 51, .val 26], .val 4, 50, true⟩),
  (150, ⟨[.val 156], .own 22, 46, true⟩),
  (153, ⟨[.own 22, .val 3], .own 22, 20, true⟩),
  (154, ⟨[.own 22, .val 3], .own 22, 19, true⟩),
  (156, ⟨[.val 39], .val 77, 26, true⟩),
  (157, ⟨[.own 22, .val 77], .own 22, 14, true⟩),
  (158, ⟨[.own 22, .val 77], .own 22, 13, true⟩),
  (159, ⟨[.own 22, .val 21], .own 22, 6, true⟩),
  (160, ⟨[.own 22, .val 2], .own 22, 7, true⟩),
  (161, ⟨[.own 22, .val 45], .own 22, 4, true⟩),
  (163, ⟨[.own 22, .val 83], .own 22, 3, true⟩),
  (179, ⟨[.own 22, .val 4], .own 22, 2, true⟩),
  (185, ⟨[.val 61], .val 3, 31, true⟩),
  (188, ⟨[.val 4, .val 4, .val 3, .val 3], .own 22, 53, true⟩),
  (189, ⟨[.val 3, .val 29, .val 4, .val 3, .val 4, .val 26], .own 22, 48, true⟩),
  (190, ⟨[.val 2, .val 3], .own 22, 45, true⟩),
  (191, ⟨[.val 3], .val 3, 55, true⟩),
  (192, ⟨[.own 22, .val 61], .own 22, 30, true⟩),
  (193, ⟨[.own 22, .val 156], .own 22, 29, true⟩),
  (194, ⟨[.own 22, .val 228], .own 22, 5, true⟩),
  (136, ⟨[.wcell 218 53, .val 61, .val 22], .cell 53, 23, true⟩),
  (142, ⟨[.mcell 218 53], .val 3, 24, true⟩),
  (143, ⟨[.mcell 218 53, .own 22], .own 22, 25, true⟩),
  (174, ⟨[.own 22, .val 185], .own 22, 9, true⟩),
  (178, ⟨[.val 22], .val 185, 28, true⟩)]
theorem nm : NamesOk Try.prog := names_ok (by kernel_rfl)
theorem ord : Try.prog.follows .mixedOrders = true := by kernel_rfl
theorem c15 : ctrOk? Try.prog tabS 15 ⟨[.val 26], .val 4, 54, true⟩ = true := by kernel_rfl
theorem c18 : ctrOk? Try.prog tabS 18 ⟨[.val 5, .val 3], .val 3, 58, true⟩ = true := by kernel_rfl
theorem c19 : ctrOk? Try.prog tabS 19 ⟨[.val 22, .val 22], .val 4, 52, true⟩ = true := by kernel_rfl
theorem c21 : ctrOk? Try.prog tabS 21 ⟨[.val 26], .val 39, 44, true⟩ = true := by kernel_rfl
theorem c22 : ctrOk? Try.prog tabS 22 ⟨[.val 29, .val 3, .val 26], .val 26, 43, true⟩ = true := by kernel_rfl
theorem c23 : ctrOk? Try.prog tabS 23 ⟨[.val 31, .val 3, .val 26], .own 22, 59, true⟩ = true := by kernel_rfl
theorem c64 : ctrOk? Try.prog tabS 64 ⟨[.val 51, .val 3, .val 26], .val 26, 42, true⟩ = true := by kernel_rfl
theorem c65 : ctrOk? Try.prog tabS 65 ⟨[.val 26, .val 3], .val 26, 40, true⟩ = true := by kernel_rfl
theorem c66 : ctrOk? Try.prog tabS 66 ⟨[.val 29, .val 24], .own 24, 41, true⟩ = true := by kernel_rfl
theorem c68 : ctrOk? Try.prog tabS 68 ⟨[.val 29, .val 3, .val 4, .val 26], .own 22, 47, true⟩ = true := by kernel_rfl
theorem c134 : ctrOk? Try.prog tabS 134 ⟨[.val 39, .val 3], .val 39, 1, true⟩ = true := by kernel_rfl
theorem c137 : ctrOk? Try.prog tabS 137 ⟨[.own 22, .val 3, .val 4], .own 22, 22, true⟩ = true := by kernel_rfl
theorem c138 : ctrOk? Try.prog tabS 138 ⟨[.own 22, .val 3, .val 4], .own 22, 21, true⟩ = true := by kernel_rfl
theorem c139 : ctrOk? Try.prog tabS 139 ⟨[.own 22, .val 9], .own 22, 12, true⟩ = true := by kernel_rfl
theorem c140 : ctrOk? Try.prog tabS 140 ⟨[.own 22, .val 9], .own 22, 11, true⟩ = true := by kernel_rfl
theorem c141 : ctrOk? Try.prog tabS 141 ⟨[.own 22, .val 61], .own 22, 10, true⟩ = true := by kernel_rfl
theorem c144 : ctrOk? Try.prog tabS 144 ⟨[.val 51, .val 3, .val 26], .val 4, 56, true⟩ = true := by kernel_rfl
theorem c146 : ctrOk? Try.prog tabS 146 ⟨[.val 29], .val 61, 51, true⟩ = true := by kernel_rfl
theorem c147 : ctrOk? Try.prog tabS 147 ⟨[.val 51, .val 3], .val 4, 57, true⟩ = true := by kernel_rfl
theorem c148 : ctrOk? Try.prog tabS 148 ⟨[.val 51, .val 3, .val 4, .val 26], .own 22, 49, true⟩ = true := by kernel_rfl
theorem c149 : ctrOk? Try.prog tabS 149 ⟨[.val 51, .val 26], .val 4, 50, true⟩ = true := by kernel_rfl
theorem c150 : ctrOk? Try.prog tabS 150 ⟨[.val 156], .own 22, 46, true⟩ = true := by kernel_rfl
theorem c153 : ctrOk? Try.prog tabS 153 ⟨[.own 22, .val 3], .own 22, 20, true⟩ = true := by kernel_rfl
theorem c154 : ctrOk? Try.prog tabS 154 ⟨[.own 22, .val 3], .own 22, 19, true⟩ = true := by kernel_rfl
theorem c156 : ctrOk? Try.prog tabS 156 ⟨[.val 39], .val 77, 26, true⟩ = true := by kernel_rfl
theorem c157 : ctrOk? Try.prog tabS 157 ⟨[.own 22, .val 77], .own 22, 14, true⟩ = true := by kernel_rfl
theorem c158 : ctrOk? Try.prog tabS 158 ⟨[.own 22, .val 77], .own 22, 13, true⟩ = true := by kernel_rfl
theorem c159 : ctrOk? Try.prog tabS 159 ⟨[.own 22, .val 21], .own 22, 6, true⟩ = true := by kernel_rfl
theorem c160 : ctrOk? Try.prog tabS 160 ⟨[.own 22, .val 2], .own 22, 7, true⟩ = true := by kernel_rfl
theorem c161 : ctrOk? Try.prog tabS 161 ⟨[.own 22, .val 45], .own 22, 4, true⟩ = true := by kernel_rfl
theorem c163 : ctrOk? Try.prog tabS 163 ⟨[.own 22, .val 83], .own 22, 3, true⟩ = true := by kernel_rfl
theorem c179 : ctrOk? Try.prog tabS 179 ⟨[.own 22, .val 4], .own 22, 2, true⟩ = true := by kernel_rfl
theorem c185 : ctrOk? Try.prog tabS 185 ⟨[.val 61], .val 3, 31, true⟩ = true := by kernel_rfl
theorem c188 : ctrOk? Try.prog tabS 188 ⟨[.val 4, .val 4, .val 3, .val 3], .own 22, 53, true⟩ = true := by kernel_rfl
theorem c189 : ctrOk? Try.prog tabS 189 ⟨[.val 3, .val 29, .val 4, .val 3, .val 4, .val 26], .own 22, 48, true⟩ = true := by kernel_rfl
theorem c190 : ctrOk? Try.prog tabS 190 ⟨[.val 2, .val 3], .own 22, 45, true⟩ = true := by kernel_rfl
theorem c191 : ctrOk? Try.prog tabS 191 ⟨[.val 3], .val 3, 55, true⟩ = true := by kernel_rfl
theorem c192 : ctrOk? Try.prog tabS 192 ⟨[.own 22, .val 61], .own 22, 30, true⟩ = true := by kernel_rfl
theorem c193 : ctrOk? Try.prog tabS 193 ⟨[.own 22, .val 156], .own 22, 29, true⟩ = true := by kernel_rfl
theorem c194 : ctrOk? Try.prog tabS 194 ⟨[.own 22, .val 228], .own 22, 5, true⟩ = true := by kernel_rfl
end Go.Proofs
