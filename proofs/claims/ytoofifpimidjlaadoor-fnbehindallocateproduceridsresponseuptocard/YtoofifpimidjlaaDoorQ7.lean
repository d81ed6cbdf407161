/- Part of a verified symbolic run of the program's code (no condition of its own). -/
import Derived.Test.YtoofifpimidjlaaDoorQ6
import Derived.Test.YtoofifpimidjlaaDoorProg
import Derived.KernelRfl
set_option linter.unusedVariables false
set_option linter.unusedSimpArgs false
open Go Go.Dx Go.Mx
namespace Go.Proofs
def tabS : List (Nat × Ctr) := [(5, ⟨[.val 26], .val 4, 54, true⟩),
  (8, ⟨[.val 5, .val 3], .val 3, 58, true⟩),
  (9, ⟨[.val 31, .val 3, .val 26], .own 22, 59, true⟩),
  (11, ⟨[.val 22, .val 22], .val 4, 52, true⟩),
  (19, ⟨[.val 29, .val 3, .val 4, .val 26], .own 22, 47, true⟩),
  (31, ⟨[.val 45, .val 3], .val 4, 57, true⟩),
  (32, ⟨[.val 45, .val 3, .val 4, .val 26], .own 22, 49, true⟩),
  (33, ⟨[.val 26, .val 3], .val 26, 40, true⟩),
  (34, ⟨[.val 29], .val 55, 51, true⟩),
  (35, ⟨[.val 45, .val 26], .val 4, 50, true⟩),
  (36, ⟨[.val 68], .own 22, 46, true⟩),
  (37, ⟨[.val 29, .val 24], .own 24, 41, true⟩),
  (40, ⟨[.own 22, .val 40], .own 22, 4, true⟩),
  (41, ⟨[.own 22, .val 21], .own 22, 6, true⟩),
  (42, ⟨[.own 22, .val 3], .own 22, 19, true⟩),
  (43, ⟨[.own 22, .val 9], .own 22, 11, true⟩),
  (46, ⟨[.own 22, .val 2], .own 22, 7, true⟩),
  (47, ⟨[.own 22, .val 55], .own 22, 10, true⟩),
  (50, ⟨[.val 45, .val 3, .val 26], .val 4, 56, true⟩),
  (52, ⟨[.val 4, .val 4, .val 3, .val 3], .own 22, 53, true⟩),
  (53, ⟨[.val 3, .val 29, .val 4, .val 3, .val 4, .val 26], .own 22, 48, true⟩),
  (54, ⟨[.val 2, .val 3], .own 22, 45, true⟩),
  (55, ⟨[.val 3], .val 3, 55, true⟩),
  (65, ⟨[.own 22, .val 103], .own 22, 5, true⟩),
  (66, ⟨[.own 22, .val 55], .own 22, 30, true⟩),
  (69, ⟨[.own 22, .val 68], .own 22, 29, true⟩),
  (70, ⟨[.val 55], .val 3, 31, true⟩),
  (48, ⟨[.mcell 109 82], .val 3, 24, true⟩),
  (49, ⟨[.mcell 109 82, .own 22], .own 22, 25, true⟩),
  (79, ⟨[.wcell 109 82, .val 55, .val 22], .cell 82, 23, true⟩)]
def tabR : List (Nat × Ctr) := [(56, ⟨[.rd 22], .rd 40, 63, true⟩),
  (57, ⟨[.rd 22], .rd 21, 65, true⟩),
  (58, ⟨[.rd 22], .rd 21, 80, true⟩),
  (63, ⟨[.rd 22], .rd 9, 72, true⟩),
  (67, ⟨[.rd 22], .rd 2, 66, true⟩),
  (68, ⟨[.rd 22], .rd 84, 82, true⟩),
  (74, ⟨[.val 113, .val 22], .val 55, 87, true⟩),
  (76, ⟨[.rd 22, .val 3], .rd 22, 71, true⟩),
  (77, ⟨[.rd 22], .rd 68, 69, true⟩),
  (78, ⟨[.rd 22], .rd 55, 70, true⟩),
  (83, ⟨[.val 113, .val 22], .val 68, 86, true⟩)]
theorem nm : NamesOk Tryd.prog := names_ok (by kernel_rfl)
theorem ord : Tryd.prog.follows .mixedOrders = true := by kernel_rfl
theorem c5 : ctrOk? Tryd.prog tabS 5 ⟨[.val 26], .val 4, 54, true⟩ = true := by kernel_rfl
theorem c8 : ctrOk? Tryd.prog tabS 8 ⟨[.val 5, .val 3], .val 3, 58, true⟩ = true := by kernel_rfl
theorem c9 : ctrOk? Tryd.prog tabS 9 ⟨[.val 31, .val 3, .val 26], .own 22, 59, true⟩ = true := by kernel_rfl
theorem c11 : ctrOk? Tryd.prog tabS 11 ⟨[.val 22, .val 22], .val 4, 52, true⟩ = true := by kernel_rfl
theorem c19 : ctrOk? Tryd.prog tabS 19 ⟨[.val 29, .val 3, .val 4, .val 26], .own 22, 47, true⟩ = true := by kernel_rfl
theorem c31 : ctrOk? Tryd.prog tabS 31 ⟨[.val 45, .val 3], .val 4, 57, true⟩ = true := by kernel_rfl
theorem c32 : ctrOk? Tryd.prog tabS 32 ⟨[.val 45, .val 3, .val 4, .val 26], .own 22, 49, true⟩ = true := by kernel_rfl
theorem c33 : ctrOk? Tryd.prog tabS 33 ⟨[.val 26, .val 3], .val 26, 40, true⟩ = true := by kernel_rfl
theorem c34 : ctrOk? Tryd.prog tabS 34 ⟨[.val 29], .val 55, 51, true⟩ = true := by kernel_rfl
theorem c35 : ctrOk? Tryd.prog tabS 35 ⟨[.val 45, .val 26], .val 4, 50, true⟩ = true := by kernel_rfl
theorem c36 : ctrOk? Tryd.prog tabS 36 ⟨[.val 68], .own 22, 46, true⟩ = true := by kernel_rfl
theorem c37 : ctrOk? Tryd.prog tabS 37 ⟨[.val 29, .val 24], .own 24, 41, true⟩ = true := by kernel_rfl
theorem c40 : ctrOk? Tryd.prog tabS 40 ⟨[.own 22, .val 40], .own 22, 4, true⟩ = true := by kernel_rfl
theorem c41 : ctrOk? Tryd.prog tabS 41 ⟨[.own 22, .val 21], .own 22, 6, true⟩ = true := by kernel_rfl
theorem c42 : ctrOk? Tryd.prog tabS 42 ⟨[.own 22, .val 3], .own 22, 19, true⟩ = true := by kernel_rfl
theorem c43 : ctrOk? Tryd.prog tabS 43 ⟨[.own 22, .val 9], .own 22, 11, true⟩ = true := by kernel_rfl
theorem c46 : ctrOk? Tryd.prog tabS 46 ⟨[.own 22, .val 2], .own 22, 7, true⟩ = true := by kernel_rfl
theorem c47 : ctrOk? Tryd.prog tabS 47 ⟨[.own 22, .val 55], .own 22, 10, true⟩ = true := by kernel_rfl
theorem c50 : ctrOk? Tryd.prog tabS 50 ⟨[.val 45, .val 3, .val 26], .val 4, 56, true⟩ = true := by kernel_rfl
theorem c52 : ctrOk? Tryd.prog tabS 52 ⟨[.val 4, .val 4, .val 3, .val 3], .own 22, 53, true⟩ = true := by kernel_rfl
theorem c53 : ctrOk? Tryd.prog tabS 53 ⟨[.val 3, .val 29, .val 4, .val 3, .val 4, .val 26], .own 22, 48, true⟩ = true := by kernel_rfl
theorem c54 : ctrOk? Tryd.prog tabS 54 ⟨[.val 2, .val 3], .own 22, 45, true⟩ = true := by kernel_rfl
theorem c55 : ctrOk? Tryd.prog tabS 55 ⟨[.val 3], .val 3, 55, true⟩ = true := by kernel_rfl
theorem c65 : ctrOk? Tryd.prog tabS 65 ⟨[.own 22, .val 103], .own 22, 5, true⟩ = true := by kernel_rfl
theorem c66 : ctrOk? Tryd.prog tabS 66 ⟨[.own 22, .val 55], .own 22, 30, true⟩ = true := by kernel_rfl
theorem c69 : ctrOk? Tryd.prog tabS 69 ⟨[.own 22, .val 68], .own 22, 29, true⟩ = true := by kernel_rfl
theorem c70 : ctrOk? Tryd.prog tabS 70 ⟨[.val 55], .val 3, 31, true⟩ = true := by kernel_rfl
theorem c56 : ctrOk2? Tryd.prog tabS tabR 56 ⟨[.rd 22], .rd 40, 63, true⟩ = true := by kernel_rfl
theorem c57 : ctrOk2? Tryd.prog tabS tabR 57 ⟨[.rd 22], .rd 21, 65, true⟩ = true := by kernel_rfl
theorem c58 : ctrOk2? Tryd.prog tabS tabR 58 ⟨[.rd 22], .rd 21, 80, true⟩ = true := by kernel_rfl
theorem c63 : ctrOk2? Tryd.prog tabS tabR 63 ⟨[.rd 22], .rd 9, 72, true⟩ = true := by kernel_rfl
theorem c67 : ctrOk2? Tryd.prog tabS tabR 67 ⟨[.rd 22], .rd 2, 66, true⟩ = true := by kernel_rfl
theorem c68 : ctrOk2? Tryd.prog tabS tabR 68 ⟨[.rd 22], .rd 84, 82, true⟩ = true := by kernel_rfl
theorem c76 : ctrOk2? Tryd.prog tabS tabR 76 ⟨[.rd 22, .val 3], .rd 22, 71, true⟩ = true := by kernel_rfl
theorem c77 : ctrOk2? Tryd.prog tabS tabR 77 ⟨[.rd 22], .rd 68, 69, true⟩ = true := by kernel_rfl
theorem c78 : ctrOk2? Tryd.prog tabS tabR 78 ⟨[.rd 22], .rd 55, 70, true⟩ = true := by kernel_rfl
end Go.Proofs
