/- Part of a verified symbolic run of the program's code (no condition of its own). -/
import Derived.Test.YtmjfaddganhmiaaGreatDoorQ5
import Derived.Test.YtmjfaddganhmiaaGreatDoorProg
import Derived.KernelRfl
set_option linter.unusedVariables false
set_option linter.unusedSimpArgs false
open Go Go.Dx Go.Mx
namespace Go.Proofs
def tabS : List (Nat × Ctr) := [(15, ⟨[.val 26], .val 4, 54, true⟩),
  (18, ⟨[.val 5, .val 3], .val 3, 58, true⟩),
  (19, ⟨[.val 31, .val 3, .val 26], .own 22, 59, true⟩),
  (21, ⟨[.val 22, .val 22], .val 4, 52, true⟩),
  (58, ⟨[.val 29, .val 3, .val 4, .val 26], .own 22, 47, true⟩),
  (129, ⟨[.val 45, .val 3], .val 4, 57, true⟩),
  (130, ⟨[.val 45, .val 3, .val 4, .val 26], .own 22, 49, true⟩),
  (131, ⟨[.val 26, .val 3], .val 26, 40, true⟩),
  (132, ⟨[.val 29], .val 75, 51, true⟩),
  (133, ⟨[.val 45, .val 26], .val 4, 50, true⟩),
  (134, ⟨[.val 91], .own 22, 46, true⟩),
  (135, ⟨[.val 29, .val 24], .own 24, 41, true⟩),
  (138, ⟨[.own 22, .val 21], .own 22, 6, true⟩),
  (139, ⟨[.own 22, .val 40], .own 22, 4, true⟩),
  (140, ⟨[.own 22, .val 79], .own 22, 14, true⟩),
  (141, ⟨[.own 22, .val 79], .own 22, 13, true⟩),
  (142, ⟨[.own 22, .val 75], .own 22, 10, true⟩),
  (149, ⟨[.own 22, .val 9], .own 22, 12, true⟩),
  (150, ⟨[.own 22, .val 9], .own 22, 11, true⟩),
  (154, ⟨[.own 22, .val 3], .own 22, 20, true⟩),
  (155, ⟨[.own 22, .val 3], .own 22, 19, true⟩),
  (160, ⟨[.own 22, .val 2], .own 22, 7, true⟩),
  (167, ⟨[.own 22, .val 4], .own 22, 2, true⟩),
  (172, ⟨[.own 22, .val 153], .own 22, 3, true⟩),
  (178, ⟨[.own 22, .val 177], .own 22, 5, true⟩),
  (183, ⟨[.own 22, .val 22], .own 22, 15, true⟩),
  (184, ⟨[.val 45, .val 3, .val 26], .val 4, 56, true⟩),
  (186, ⟨[.val 4, .val 4, .val 3, .val 3], .own 22, 53, true⟩),
  (187, ⟨[.val 3, .val 29, .val 4, .val 3, .val 4, .val 26], .own 22, 48, true⟩),
  (188, ⟨[.val 2, .val 3], .own 22, 45, true⟩),
  (189, ⟨[.val 3], .val 3, 55, true⟩),
  (198, ⟨[.own 22, .val 75], .own 22, 30, true⟩),
  (199, ⟨[.val 75], .val 3, 31, true⟩),
  (215, ⟨[.own 22, .val 91], .own 22, 29, true⟩),
  (143, ⟨[.mcell 210 80], .val 3, 24, true⟩),
  (144, ⟨[.mcell 210 80, .own 22], .own 22, 25, true⟩),
  (156, ⟨[.own 22, .val 107], .own 22, 9, true⟩),
  (238, ⟨[.wcell 210 80, .val 75, .val 22], .cell 80, 23, true⟩)]
def tabR : List (Nat × Ctr) := [(190, ⟨[.rd 22], .rd 21, 65, true⟩),
  (191, ⟨[.rd 22], .rd 40, 63, true⟩),
  (193, ⟨[.rd 22], .rd 79, 75, true⟩),
  (195, ⟨[.rd 22], .rd 79, 74, true⟩),
  (196, ⟨[.rd 22], .rd 82, 82, true⟩),
  (204, ⟨[.rd 22], .rd 9, 73, true⟩),
  (205, ⟨[.rd 22], .rd 9, 72, true⟩),
  (206, ⟨[.rd 22], .rd 21, 81, true⟩),
  (207, ⟨[.rd 22], .rd 21, 80, true⟩),
  (210, ⟨[.rd 22], .rd 107, 67, true⟩),
  (214, ⟨[.rd 22], .rd 2, 66, true⟩),
  (218, ⟨[.rd 22], .rd 4, 61, true⟩),
  (222, ⟨[.rd 22], .rd 153, 62, true⟩),
  (227, ⟨[.rd 22], .rd 177, 64, true⟩),
  (231, ⟨[.rd 22], .rd 22, 77, true⟩),
  (232, ⟨[.rd 22], .rd 22, 76, true⟩),
  (233, ⟨[.val 222, .val 22], .val 75, 87, true⟩),
  (235, ⟨[.rd 22], .rd 75, 70, true⟩),
  (237, ⟨[.rd 22, .val 3], .rd 22, 71, true⟩),
  (242, ⟨[.rd 22], .rd 91, 69, true⟩),
  (249, ⟨[.val 222, .val 22], .val 91, 86, true⟩)]
theorem nm : NamesOk Tryz.prog := names_ok (by kernel_rfl)
theorem ord : Tryz.prog.follows .mixedOrders = true := by kernel_rfl
theorem c15 : ctrOk? Tryz.prog tabS 15 ⟨[.val 26], .val 4, 54, true⟩ = true := by kernel_rfl
theorem c18 : ctrOk? Tryz.prog tabS 18 ⟨[.val 5, .val 3], .val 3, 58, true⟩ = true := by kernel_rfl
theorem c19 : ctrOk? Tryz.prog tabS 19 ⟨[.val 31, .val 3, .val 26], .own 22, 59, true⟩ = true := by kernel_rfl
theorem c21 : ctrOk? Tryz.prog tabS 21 ⟨[.val 22, .val 22], .val 4, 52, true⟩ = true := by kernel_rfl
theorem c58 : ctrOk? Tryz.prog tabS 58 ⟨[.val 29, .val 3, .val 4, .val 26], .own 22, 47, true⟩ = true := by kernel_rfl
theorem c129 : ctrOk? Tryz.prog tabS 129 ⟨[.val 45, .val 3], .val 4, 57, true⟩ = true := by kernel_rfl
theorem c130 : ctrOk? Tryz.prog tabS 130 ⟨[.val 45, .val 3, .val 4, .val 26], .own 22, 49, true⟩ = true := by kernel_rfl
theorem c131 : ctrOk? Tryz.prog tabS 131 ⟨[.val 26, .val 3], .val 26, 40, true⟩ = true := by kernel_rfl
theorem c132 : ctrOk? Tryz.prog tabS 132 ⟨[.val 29], .val 75, 51, true⟩ = true := by kernel_rfl
theorem c133 : ctrOk? Tryz.prog tabS 133 ⟨[.val 45, .val 26], .val 4, 50, true⟩ = true := by kernel_rfl
theorem c134 : ctrOk? Tryz.prog tabS 134 ⟨[.val 91], .own 22, 46, true⟩ = true := by kernel_rfl
theorem c135 : ctrOk? Tryz.prog tabS 135 ⟨[.val 29, .val 24], .own 24, 41, true⟩ = true := by kernel_rfl
theorem c138 : ctrOk? Tryz.prog tabS 138 ⟨[.own 22, .val 21], .own 22, 6, true⟩ = true := by kernel_rfl
theorem c139 : ctrOk? Tryz.prog tabS 139 ⟨[.own 22, .val 40], .own 22, 4, true⟩ = true := by kernel_rfl
theorem c140 : ctrOk? Tryz.prog tabS 140 ⟨[.own 22, .val 79], .own 22, 14, true⟩ = true := by kernel_rfl
theorem c141 : ctrOk? Tryz.prog tabS 141 ⟨[.own 22, .val 79], .own 22, 13, true⟩ = true := by kernel_rfl
theorem c142 : ctrOk? Tryz.prog tabS 142 ⟨[.own 22, .val 75], .own 22, 10, true⟩ = true := by kernel_rfl
theorem c149 : ctrOk? Tryz.prog tabS 149 ⟨[.own 22, .val 9], .own 22, 12, true⟩ = true := by kernel_rfl
theorem c150 : ctrOk? Tryz.prog tabS 150 ⟨[.own 22, .val 9], .own 22, 11, true⟩ = true := by kernel_rfl
theorem c154 : ctrOk? Tryz.prog tabS 154 ⟨[.own 22, .val 3], .own 22, 20, true⟩ = true := by kernel_rfl
theorem c155 : ctrOk? Tryz.prog tabS 155 ⟨[.own 22, .val 3], .own 22, 19, true⟩ = true := by kernel_rfl
theorem c160 : ctrOk? Tryz.prog tabS 160 ⟨[.own 22, .val 2], .own 22, 7, true⟩ = true := by kernel_rfl
theorem c167 : ctrOk? Tryz.prog tabS 167 ⟨[.own 22, .val 4], .own 22, 2, true⟩ = true := by kernel_rfl
theorem c172 : ctrOk? Tryz.prog tabS 172 ⟨[.own 22, .val 153], .own 22, 3, true⟩ = true := by kernel_rfl
theorem c178 : ctrOk? Tryz.prog tabS 178 ⟨[.own 22, .val 177], .own 22, 5, true⟩ = true := by kernel_rfl
theorem c183 : ctrOk? Tryz.prog tabS 183 ⟨[.own 22, .val 22], .own 22, 15, true⟩ = true := by kernel_rfl
theorem c184 : ctrOk? Tryz.prog tabS 184 ⟨[.val 45, .val 3, .val 26], .val 4, 56, true⟩ = true := by kernel_rfl
theorem c186 : ctrOk? Tryz.prog tabS 186 ⟨[.val 4, .val 4, .val 3, .val 3], .own 22, 53, true⟩ = true := by kernel_rfl
theorem c187 : ctrOk? Tryz.prog tabS 187 ⟨[.val 3, .val 29, .val 4, .val 3, .val 4, .val 26], .own 22, 48, true⟩ = true := by kernel_rfl
theorem c188 : ctrOk? Tryz.prog tabS 188 ⟨[.val 2, .val 3], .own 22, 45, true⟩ = true := by kernel_rfl
theorem c189 : ctrOk? Tryz.prog tabS 189 ⟨[.val 3], .val 3, 55, true⟩ = true := by kernel_rfl
theorem c198 : ctrOk? Tryz.prog tabS 198 ⟨[.own 22, .val 75], .own 22, 30, true⟩ = true := by kernel_rfl
theorem c199 : ctrOk? Tryz.prog tabS 199 ⟨[.val 75], .val 3, 31, true⟩ = true := by kernel_rfl
theorem c215 : ctrOk? Tryz.prog tabS 215 ⟨[.own 22, .val 91], .own 22, 29, true⟩ = true := by kernel_rfl
theorem c190 : ctrOk2? Tryz.prog tabS tabR 190 ⟨[.rd 22], .rd 21, 65, true⟩ = true := by kernel_rfl
theorem c191 : ctrOk2? Tryz.prog tabS tabR 191 ⟨[.rd 22], .rd 40, 63, true⟩ = true := by kernel_rfl
theorem c193 : ctrOk2? Tryz.prog tabS tabR 193 ⟨[.rd 22], .rd 79, 75, true⟩ = true := by kernel_rfl
theorem c195 : ctrOk2? Tryz.prog tabS tabR 195 ⟨[.rd 22], .rd 79, 74, true⟩ = true := by kernel_rfl
theorem c196 : ctrOk2? Tryz.prog tabS tabR 196 ⟨[.rd 22], .rd 82, 82, true⟩ = true := by kernel_rfl
theorem c204 : ctrOk2? Tryz.prog tabS tabR 204 ⟨[.rd 22], .rd 9, 73, true⟩ = true := by kernel_rfl
theorem c205 : ctrOk2? Tryz.prog tabS tabR 205 ⟨[.rd 22], .rd 9, 72, true⟩ = true := by kernel_rfl
theorem c206 : ctrOk2? Tryz.prog tabS tabR 206 ⟨[.rd 22], .rd 21, 81, true⟩ = true := by kernel_rfl
theorem c207 : ctrOk2? Tryz.prog tabS tabR 207 ⟨[.rd 22], .rd 21, 80, true⟩ = true := by kernel_rfl
theorem c210 : ctrOk2? Tryz.prog tabS tabR 210 ⟨[.rd 22], .rd 107, 67, true⟩ = true := by kernel_rfl
theorem c214 : ctrOk2? Tryz.prog tabS tabR 214 ⟨[.rd 22], .rd 2, 66, true⟩ = true := by kernel_rfl
theorem c218 : ctrOk2? Tryz.prog tabS tabR 218 ⟨[.rd 22], .rd 4, 61, true⟩ = true := by kernel_rfl
theorem c222 : ctrOk2? Tryz.prog tabS tabR 222 ⟨[.rd 22], .rd 153, 62, true⟩ = true := by kernel_rfl
theorem c227 : ctrOk2? Tryz.prog tabS tabR 227 ⟨[.rd 22], .rd 177, 64, true⟩ = true := by kernel_rfl
theorem c231 : ctrOk2? Tryz.prog tabS tabR 231 ⟨[.rd 22], .rd 22, 77, true⟩ = true := by kernel_rfl
theorem c232 : ctrOk2? Tryz.prog tabS tabR 232 ⟨[.rd 22], .rd 22, 76, true⟩ = true := by kernel_rfl
theorem c235 : ctrOk2? Tryz.prog tabS tabR 235 ⟨[.rd 22], .rd 75, 70, true⟩ = true := by kernel_rfl
theorem c237 : ctrOk2? Tryz.prog tabS tabR 237 ⟨[.rd 22, .val 3], .rd 22, 71, true⟩ = true := by kernel_rfl
theorem c242 : ctrOk2? Tryz.prog tabS tabR 242 ⟨[.rd 22], .rd 91, 69, true⟩ = true := by kernel_rfl
end Go.Proofs
