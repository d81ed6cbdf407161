/- Part of a verified symbolic run of the program's code (no condition of its own). -/
import Derived.Test.YtjjlhkdjjicpeaaGreatDoorRQ6
import Derived.Test.YtjjlhkdjjicpeaaGreatDoorRProg
import Derived.KernelRfl
set_option linter.unusedVariables false
set_option linter.unusedSimpArgs false
open Go Go.Dx Go.Mx
namespace Go.Proofs
def tabS : List (Nat × Ctr) := [(13, ⟨[.val 28], .val 4, 54, true⟩),
  (16, ⟨[.val 5, .val 3], .val 3, 58, true⟩),
  (17, ⟨[.val 34, .val 3, .val 28], .own 24, 59, true⟩),
  (19, ⟨[.val 24, .val 24], .val 4, 52, true⟩),
  (50, ⟨[.val 32, .val 3, .val 4, .val 28], .own 24, 47, true⟩),
  (54, ⟨[.val 2, .val 3], .own 24, 45, true⟩),
  (95, ⟨[.val 50, .val 3], .val 4, 57, true⟩),
  (96, ⟨[.val 50, .val 3, .val 4, .val 28], .own 24, 49, true⟩),
  (97, ⟨[.val 28, .val 3], .val 28, 40, true⟩),
  (98, ⟨[.val 32], .val 75, 51, true⟩),
  (99, ⟨[.val 50, .val 28], .val 4, 50, true⟩),
  (100, ⟨[.val 92], .own 24, 46, true⟩),
  (101, ⟨[.val 32, .val 26], .own 26, 41, true⟩),
  (124, ⟨[.val 50, .val 3, .val 28], .val 4, 56, true⟩),
  (126, ⟨[.val 4, .val 4, .val 3, .val 3], .own 24, 53, true⟩),
  (127, ⟨[.val 3, .val 32, .val 4, .val 3, .val 4, .val 28], .own 24, 48, true⟩),
  (128, ⟨[.val 3], .val 3, 55, true⟩),
  (148, ⟨[.own 24, .val 45], .own 24, 4, true⟩),
  (149, ⟨[.own 24, .val 21], .own 24, 6, true⟩),
  (150, ⟨[.own 24, .val 79], .own 24, 13, true⟩),
  (171, ⟨[.own 24, .val 141], .own 24, 5, true⟩),
  (172, ⟨[.own 24, .val 75], .own 24, 30, true⟩),
  (173, ⟨[.own 24, .val 9], .own 24, 11, true⟩),
  (197, ⟨[.own 24, .val 79], .own 24, 14, true⟩),
  (199, ⟨[.own 24, .val 3], .own 24, 20, true⟩),
  (200, ⟨[.own 24, .val 3], .own 24, 19, true⟩),
  (201, ⟨[.own 24, .val 9], .own 24, 12, true⟩),
  (202, ⟨[.own 24, .val 75], .own 24, 10, true⟩),
  (205, ⟨[.own 24, .val 4], .own 24, 2, true⟩),
  (206, ⟨[.val 75], .val 3, 31, true⟩),
  (245, ⟨[.own 24, .val 116], .own 24, 3, true⟩),
  (251, ⟨[.own 24, .val 24], .own 24, 15, true⟩),
  (252, ⟨[.own 24, .val 2], .own 24, 7, true⟩),
  (253, ⟨[.own 24, .val 92], .own 24, 29, true⟩),
  (259, ⟨[.own 24, .val 24], .own 24, 17, true⟩),
  (272, ⟨[.own 24, .val 3, .val 4], .own 24, 22, true⟩),
  (273, ⟨[.own 24, .val 3, .val 4], .own 24, 21, true⟩),
  (170, ⟨[.wcell 198 82, .val 75, .val 24], .cell 82, 23, true⟩),
  (198, ⟨[.own 24, .val 80], .own 24, 9, true⟩),
  (203, ⟨[.mcell 198 82], .val 3, 24, true⟩),
  (204, ⟨[.mcell 198 82, .own 24], .own 24, 25, true⟩)]
def tabR : List (Nat × Ctr) := [(130, ⟨[.rd 24], .rd 79, 75, true⟩),
  (132, ⟨[.rd 24], .rd 79, 74, true⟩),
  (133, ⟨[.rd 24], .rd 21, 65, true⟩),
  (134, ⟨[.rd 24], .rd 80, 67, true⟩),
  (135, ⟨[.rd 24], .rd 21, 81, true⟩),
  (136, ⟨[.rd 24], .rd 21, 80, true⟩),
  (142, ⟨[.rd 24], .rd 9, 73, true⟩),
  (143, ⟨[.rd 24], .rd 9, 72, true⟩),
  (144, ⟨[.rd 24], .rd 141, 64, true⟩),
  (145, ⟨[.rd 24], .rd 84, 82, true⟩),
  (146, ⟨[.rd 24], .rd 4, 61, true⟩),
  (152, ⟨[.rd 24], .rd 116, 62, true⟩),
  (154, ⟨[.rd 24], .rd 24, 77, true⟩),
  (155, ⟨[.rd 24], .rd 24, 76, true⟩),
  (156, ⟨[.rd 24], .rd 2, 66, true⟩),
  (157, ⟨[.rd 24], .rd 24, 79, true⟩),
  (158, ⟨[.rd 24], .rd 24, 78, true⟩),
  (164, ⟨[.rd 24], .rd 75, 70, true⟩),
  (166, ⟨[.rd 24, .val 3], .rd 24, 71, true⟩),
  (167, ⟨[.rd 24], .rd 45, 63, true⟩),
  (168, ⟨[.val 188, .val 24], .val 75, 87, true⟩),
  (174, ⟨[.rd 24], .rd 92, 69, true⟩),
  (176, ⟨[.val 188, .val 24], .val 92, 86, true⟩)]
def tabT : List (Nat × Ctr) := [(20, ⟨[.val 3, .val 3, .val 21, .val 4, .val 24, .val 4, .val 24], .own 24, 309, true⟩),
  (250, ⟨[.own 24, .val 24], .own 24, 16, true⟩),
  (258, ⟨[.own 24, .val 24], .own 24, 18, true⟩)]
theorem nm : xJA Tryz.prog := names_ok (by kernel_rfl)
theorem ord : Tryz.prog.follows .mixedOrders = true := by kernel_rfl
theorem c13 : ctrOk? Tryz.prog tabS 13 ⟨[.val 28], .val 4, 54, true⟩ = true := by kernel_rfl
theorem c16 : ctrOk? Tryz.prog tabS 16 ⟨[.val 5, .val 3], .val 3, 58, true⟩ = true := by kernel_rfl
theorem c19 : ctrOk? Tryz.prog tabS 19 ⟨[.val 24, .val 24], .val 4, 52, true⟩ = true := by kernel_rfl
theorem c54 : ctrOk? Tryz.prog tabS 54 ⟨[.val 2, .val 3], .own 24, 45, true⟩ = true := by kernel_rfl
theorem c95 : ctrOk? Tryz.prog tabS 95 ⟨[.val 50, .val 3], .val 4, 57, true⟩ = true := by kernel_rfl
theorem c96 : ctrOk? Tryz.prog tabS 96 ⟨[.val 50, .val 3, .val 4, .val 28], .own 24, 49, true⟩ = true := by kernel_rfl
theorem c97 : ctrOk? Tryz.prog tabS 97 ⟨[.val 28, .val 3], .val 28, 40, true⟩ = true := by kernel_rfl
theorem c98 : ctrOk? Tryz.prog tabS 98 ⟨[.val 32], .val 75, 51, true⟩ = true := by kernel_rfl
theorem c99 : ctrOk? Tryz.prog tabS 99 ⟨[.val 50, .val 28], .val 4, 50, true⟩ = true := by kernel_rfl
theorem c100 : ctrOk? Tryz.prog tabS 100 ⟨[.val 92], .own 24, 46, true⟩ = true := by kernel_rfl
theorem c124 : ctrOk? Tryz.prog tabS 124 ⟨[.val 50, .val 3, .val 28], .val 4, 56, true⟩ = true := by kernel_rfl
theorem c126 : ctrOk? Tryz.prog tabS 126 ⟨[.val 4, .val 4, .val 3, .val 3], .own 24, 53, true⟩ = true := by kernel_rfl
theorem c127 : ctrOk? Tryz.prog tabS 127 ⟨[.val 3, .val 32, .val 4, .val 3, .val 4, .val 28], .own 24, 48, true⟩ = true := by kernel_rfl
theorem c128 : ctrOk? Tryz.prog tabS 128 ⟨[.val 3], .val 3, 55, true⟩ = true := by kernel_rfl
theorem c148 : ctrOk? Tryz.prog tabS 148 ⟨[.own 24, .val 45], .own 24, 4, true⟩ = true := by kernel_rfl
theorem c149 : ctrOk? Tryz.prog tabS 149 ⟨[.own 24, .val 21], .own 24, 6, true⟩ = true := by kernel_rfl
theorem c150 : ctrOk? Tryz.prog tabS 150 ⟨[.own 24, .val 79], .own 24, 13, true⟩ = true := by kernel_rfl
theorem c171 : ctrOk? Tryz.prog tabS 171 ⟨[.own 24, .val 141], .own 24, 5, true⟩ = true := by kernel_rfl
theorem c172 : ctrOk? Tryz.prog tabS 172 ⟨[.own 24, .val 75], .own 24, 30, true⟩ = true := by kernel_rfl
theorem c173 : ctrOk? Tryz.prog tabS 173 ⟨[.own 24, .val 9], .own 24, 11, true⟩ = true := by kernel_rfl
theorem c197 : ctrOk? Tryz.prog tabS 197 ⟨[.own 24, .val 79], .own 24, 14, true⟩ = true := by kernel_rfl
theorem c199 : ctrOk? Tryz.prog tabS 199 ⟨[.own 24, .val 3], .own 24, 20, true⟩ = true := by kernel_rfl
theorem c200 : ctrOk? Tryz.prog tabS 200 ⟨[.own 24, .val 3], .own 24, 19, true⟩ = true := by kernel_rfl
theorem c201 : ctrOk? Tryz.prog tabS 201 ⟨[.own 24, .val 9], .own 24, 12, true⟩ = true := by kernel_rfl
theorem c202 : ctrOk? Tryz.prog tabS 202 ⟨[.own 24, .val 75], .own 24, 10, true⟩ = true := by kernel_rfl
theorem c205 : ctrOk? Tryz.prog tabS 205 ⟨[.own 24, .val 4], .own 24, 2, true⟩ = true := by kernel_rfl
theorem c206 : ctrOk? Tryz.prog tabS 206 ⟨[.val 75], .val 3, 31, true⟩ = true := by kernel_rfl
theorem c245 : ctrOk? Tryz.prog tabS 245 ⟨[.own 24, .val 116], .own 24, 3, true⟩ = true := by kernel_rfl
theorem c251 : ctrOk? Tryz.prog tabS 251 ⟨[.own 24, .val 24], .own 24, 15, true⟩ = true := by kernel_rfl
theorem c252 : ctrOk? Tryz.prog tabS 252 ⟨[.own 24, .val 2], .own 24, 7, true⟩ = true := by kernel_rfl
theorem c253 : ctrOk? Tryz.prog tabS 253 ⟨[.own 24, .val 92], .own 24, 29, true⟩ = true := by kernel_rfl
theorem c259 : ctrOk? Tryz.prog tabS 259 ⟨[.own 24, .val 24], .own 24, 17, true⟩ = true := by kernel_rfl
theorem c272 : ctrOk? Tryz.prog tabS 272 ⟨[.own 24, .val 3, .val 4], .own 24, 22, true⟩ = true := by kernel_rfl
theorem c273 : ctrOk? Tryz.prog tabS 273 ⟨[.own 24, .val 3, .val 4], .own 24, 21, true⟩ = true := by kernel_rfl
theorem c130 : ctrOk2? Tryz.prog tabS tabR 130 ⟨[.rd 24], .rd 79, 75, true⟩ = true := by kernel_rfl
theorem c132 : ctrOk2? Tryz.prog tabS tabR 132 ⟨[.rd 24], .rd 79, 74, true⟩ = true := by kernel_rfl
theorem c133 : ctrOk2? Tryz.prog tabS tabR 133 ⟨[.rd 24], .rd 21, 65, true⟩ = true := by kernel_rfl
theorem c134 : ctrOk2? Tryz.prog tabS tabR 134 ⟨[.rd 24], .rd 80, 67, true⟩ = true := by kernel_rfl
theorem c135 : ctrOk2? Tryz.prog tabS tabR 135 ⟨[.rd 24], .rd 21, 81, true⟩ = true := by kernel_rfl
theorem c136 : ctrOk2? Tryz.prog tabS tabR 136 ⟨[.rd 24], .rd 21, 80, true⟩ = true := by kernel_rfl
theorem c142 : ctrOk2? Tryz.prog tabS tabR 142 ⟨[.rd 24], .rd 9, 73, true⟩ = true := by kernel_rfl
theorem c143 : ctrOk2? Tryz.prog tabS tabR 143 ⟨[.rd 24], .rd 9, 72, true⟩ = true := by kernel_rfl
theorem c144 : ctrOk2? Tryz.prog tabS tabR 144 ⟨[.rd 24], .rd 141, 64, true⟩ = true := by kernel_rfl
theorem c145 : ctrOk2? Tryz.prog tabS tabR 145 ⟨[.rd 24], .rd 84, 82, true⟩ = true := by kernel_rfl
theorem c146 : ctrOk2? Tryz.prog tabS tabR 146 ⟨[.rd 24], .rd 4, 61, true⟩ = true := by kernel_rfl
theorem c152 : ctrOk2? Tryz.prog tabS tabR 152 ⟨[.rd 24], .rd 116, 62, true⟩ = true := by kernel_rfl
theorem c154 : ctrOk2? Tryz.prog tabS tabR 154 ⟨[.rd 24], .rd 24, 77, true⟩ = true := by kernel_rfl
theorem c155 : ctrOk2? Tryz.prog tabS tabR 155 ⟨[.rd 24], .rd 24, 76, true⟩ = true := by kernel_rfl
theorem c156 : ctrOk2? Tryz.prog tabS tabR 156 ⟨[.rd 24], .rd 2, 66, true⟩ = true := by kernel_rfl
theorem c157 : ctrOk2? Tryz.prog tabS tabR 157 ⟨[.rd 24], .rd 24, 79, true⟩ = true := by kernel_rfl
theorem c158 : ctrOk2? Tryz.prog tabS tabR 158 ⟨[.rd 24], .rd 24, 78, true⟩ = true := by kernel_rfl
theorem c164 : ctrOk2? Tryz.prog tabS tabR 164 ⟨[.rd 24], .rd 75, 70, true⟩ = true := by kernel_rfl
theorem c166 : ctrOk2? Tryz.prog tabS tabR 166 ⟨[.rd 24, .val 3], .rd 24, 71, true⟩ = true := by kernel_rfl
theorem c167 : ctrOk2? Tryz.prog tabS tabR 167 ⟨[.rd 24], .rd 45, 63, true⟩ = true := by kernel_rfl
theorem c174 : ctrOk2? Tryz.prog tabS tabR 174 ⟨[.rd 24], .rd 92, 69, true⟩ = true := by kernel_rfl
theorem c20 : ctrOk3? Tryz.prog tabS tabT 20 ⟨[.val 3, .val 3, .val 21, .val 4, .val 24, .val 4, .val 24], .own 24, 309, true⟩ = true := by kernel_rfl
theorem c250 : ctrOk3? Tryz.prog tabS tabT 250 ⟨[.own 24, .val 24], .own 24, 16, true⟩ = true := by kernel_rfl
theorem c258 : ctrOk3? Tryz.prog tabS tabT 258 ⟨[.own 24, .val 24], .own 24, 18, true⟩ = true := by kernel_rfl
end Go.Proofs
