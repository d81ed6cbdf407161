/- Part of a verified symbolic run of the program's code (no condition of its own). -/
import Derived.Test.YtblndkbbnboldaaGreatDoorQ6
import Derived.Test.YtblndkbbnboldaaGreatDoorProg
import Derived.KernelRfl
set_option linter.unusedVariables false
set_option linter.unusedSimpArgs false
open Go Go.Dx Go.Mx
namespace Go.Proofs
def tabS : List (Nat × Ctr) := [(5, ⟨[.val 26], .val 4, 54, true⟩),
  (8, ⟨[.val 5, .val 3], .val 3, 58, true⟩),
  (9, ⟨[.val 31, .val 3, .val 26], .own 22, 59, true⟩),
  (11, ⟨[.val 22, .val 22], .val 4, 52, true⟩),
  (19, ⟨[.val 29, .val 3, .val 4, .val 26], .own 22, 47, true⟩),
  (31, ⟨[.val 46, .val 3], .val 4, 57, true⟩),
  (32, ⟨[.val 46, .val 3, .val 4, .val 26], .own 22, 49, true⟩),
  (33, ⟨[.val 26, .val 3], .val 26, 40, true⟩),
  (34, ⟨[.val 29], .val 55, 51, true⟩),
  (35, ⟨[.val 46, .val 26], .val 4, 50, true⟩),
  (36, ⟨[.val 71], .own 22, 46, true⟩),
  (37, ⟨[.val 29, .val 24], .own 24, 41, true⟩),
  (40, ⟨[.own 22, .val 3, .val 4], .own 22, 22, true⟩),
  (41, ⟨[.own 22, .val 3, .val 4], .own 22, 21, true⟩),
  (42, ⟨[.own 22, .val 9], .own 22, 12, true⟩),
  (43, ⟨[.own 22, .val 9], .own 22, 11, true⟩),
  (44, ⟨[.own 22, .val 55], .own 22, 10, true⟩),
  (50, ⟨[.own 22, .val 21], .own 22, 6, true⟩),
  (51, ⟨[.own 22, .val 3], .own 22, 20, true⟩),
  (52, ⟨[.own 22, .val 3], .own 22, 19, true⟩),
  (53, ⟨[.own 22, .val 40], .own 22, 4, true⟩),
  (54, ⟨[.own 22, .val 86], .own 22, 14, true⟩),
  (55, ⟨[.own 22, .val 86], .own 22, 13, true⟩),
  (57, ⟨[.own 22, .val 22], .own 22, 15, true⟩),
  (58, ⟨[.val 46, .val 3, .val 26], .val 4, 56, true⟩),
  (60, ⟨[.val 4, .val 4, .val 3, .val 3], .own 22, 53, true⟩),
  (61, ⟨[.val 3, .val 29, .val 4, .val 3, .val 4, .val 26], .own 22, 48, true⟩),
  (62, ⟨[.val 2, .val 3], .own 22, 45, true⟩),
  (63, ⟨[.val 3], .val 3, 55, true⟩),
  (74, ⟨[.val 55], .val 3, 31, true⟩),
  (87, ⟨[.own 22, .val 55], .own 22, 30, true⟩),
  (88, ⟨[.own 22, .val 118], .own 22, 5, true⟩),
  (45, ⟨[.mcell 112 60], .val 3, 24, true⟩),
  (46, ⟨[.mcell 112 60, .own 22], .own 22, 25, true⟩),
  (92, ⟨[.wcell 112 60, .val 55, .val 22], .cell 60, 23, true⟩)]
def tabR : List (Nat × Ctr) := [(64, ⟨[.rd 22], .rd 21, 81, true⟩),
  (65, ⟨[.rd 22], .rd 21, 80, true⟩),
  (71, ⟨[.rd 22], .rd 9, 73, true⟩),
  (72, ⟨[.rd 22], .rd 9, 72, true⟩),
  (73, ⟨[.rd 22], .rd 62, 82, true⟩),
  (77, ⟨[.rd 22], .rd 21, 65, true⟩),
  (79, ⟨[.rd 22], .rd 40, 63, true⟩),
  (81, ⟨[.rd 22], .rd 86, 75, true⟩),
  (83, ⟨[.rd 22], .rd 86, 74, true⟩),
  (85, ⟨[.rd 22], .rd 22, 77, true⟩),
  (86, ⟨[.rd 22], .rd 22, 76, true⟩),
  (89, ⟨[.rd 22], .rd 55, 70, true⟩),
  (91, ⟨[.rd 22, .val 3], .rd 22, 71, true⟩),
  (96, ⟨[.val 126, .val 22], .val 55, 87, true⟩)]
def tabT : List (Nat × Ctr) := [(56, ⟨[.own 22, .val 22], .own 22, 16, true⟩)]
theorem nm : xNA Tryz.prog := names_ok (by kernel_rfl)
theorem ord : Tryz.prog.follows .mixedOrders = true := by kernel_rfl
theorem c5 : ctrOk? Tryz.prog tabS 5 ⟨[.val 26], .val 4, 54, true⟩ = true := by kernel_rfl
theorem c8 : ctrOk? Tryz.prog tabS 8 ⟨[.val 5, .val 3], .val 3, 58, true⟩ = true := by kernel_rfl
theorem c9 : ctrOk? Tryz.prog tabS 9 ⟨[.val 31, .val 3, .val 26], .own 22, 59, true⟩ = true := by kernel_rfl
theorem c11 : ctrOk? Tryz.prog tabS 11 ⟨[.val 22, .val 22], .val 4, 52, true⟩ = true := by kernel_rfl
theorem c19 : ctrOk? Tryz.prog tabS 19 ⟨[.val 29, .val 3, .val 4, .val 26], .own 22, 47, true⟩ = true := by kernel_rfl
theorem c31 : ctrOk? Tryz.prog tabS 31 ⟨[.val 46, .val 3], .val 4, 57, true⟩ = true := by kernel_rfl
theorem c32 : ctrOk? Tryz.prog tabS 32 ⟨[.val 46, .val 3, .val 4, .val 26], .own 22, 49, true⟩ = true := by kernel_rfl
theorem c33 : ctrOk? Tryz.prog tabS 33 ⟨[.val 26, .val 3], .val 26, 40, true⟩ = true := by kernel_rfl
theorem c34 : ctrOk? Tryz.prog tabS 34 ⟨[.val 29], .val 55, 51, true⟩ = true := by kernel_rfl
theorem c35 : ctrOk? Tryz.prog tabS 35 ⟨[.val 46, .val 26], .val 4, 50, true⟩ = true := by kernel_rfl
theorem c36 : ctrOk? Tryz.prog tabS 36 ⟨[.val 71], .own 22, 46, true⟩ = true := by kernel_rfl
theorem c37 : ctrOk? Tryz.prog tabS 37 ⟨[.val 29, .val 24], .own 24, 41, true⟩ = true := by kernel_rfl
theorem c40 : ctrOk? Tryz.prog tabS 40 ⟨[.own 22, .val 3, .val 4], .own 22, 22, true⟩ = true := by kernel_rfl
theorem c41 : ctrOk? Tryz.prog tabS 41 ⟨[.own 22, .val 3, .val 4], .own 22, 21, true⟩ = true := by kernel_rfl
theorem c42 : ctrOk? Tryz.prog tabS 42 ⟨[.own 22, .val 9], .own 22, 12, true⟩ = true := by kernel_rfl
theorem c43 : ctrOk? Tryz.prog tabS 43 ⟨[.own 22, .val 9], .own 22, 11, true⟩ = true := by kernel_rfl
theorem c44 : ctrOk? Tryz.prog tabS 44 ⟨[.own 22, .val 55], .own 22, 10, true⟩ = true := by kernel_rfl
theorem c50 : ctrOk? Tryz.prog tabS 50 ⟨[.own 22, .val 21], .own 22, 6, true⟩ = true := by kernel_rfl
theorem c51 : ctrOk? Tryz.prog tabS 51 ⟨[.own 22, .val 3], .own 22, 20, true⟩ = true := by kernel_rfl
theorem c52 : ctrOk? Tryz.prog tabS 52 ⟨[.own 22, .val 3], .own 22, 19, true⟩ = true := by kernel_rfl
theorem c53 : ctrOk? Tryz.prog tabS 53 ⟨[.own 22, .val 40], .own 22, 4, true⟩ = true := by kernel_rfl
theorem c54 : ctrOk? Tryz.prog tabS 54 ⟨[.own 22, .val 86], .own 22, 14, true⟩ = true := by kernel_rfl
theorem c55 : ctrOk? Tryz.prog tabS 55 ⟨[.own 22, .val 86], .own 22, 13, true⟩ = true := by kernel_rfl
theorem c57 : ctrOk? Tryz.prog tabS 57 ⟨[.own 22, .val 22], .own 22, 15, true⟩ = true := by kernel_rfl
theorem c58 : ctrOk? Tryz.prog tabS 58 ⟨[.val 46, .val 3, .val 26], .val 4, 56, true⟩ = true := by kernel_rfl
theorem c60 : ctrOk? Tryz.prog tabS 60 ⟨[.val 4, .val 4, .val 3, .val 3], .own 22, 53, true⟩ = true := by kernel_rfl
theorem c61 : ctrOk? Tryz.prog tabS 61 ⟨[.val 3, .val 29, .val 4, .val 3, .val 4, .val 26], .own 22, 48, true⟩ = true := by kernel_rfl
theorem c62 : ctrOk? Tryz.prog tabS 62 ⟨[.val 2, .val 3], .own 22, 45, true⟩ = true := by kernel_rfl
theorem c63 : ctrOk? Tryz.prog tabS 63 ⟨[.val 3], .val 3, 55, true⟩ = true := by kernel_rfl
theorem c74 : ctrOk? Tryz.prog tabS 74 ⟨[.val 55], .val 3, 31, true⟩ = true := by kernel_rfl
theorem c87 : ctrOk? Tryz.prog tabS 87 ⟨[.own 22, .val 55], .own 22, 30, true⟩ = true := by kernel_rfl
theorem c88 : ctrOk? Tryz.prog tabS 88 ⟨[.own 22, .val 118], .own 22, 5, true⟩ = true := by kernel_rfl
theorem c64 : ctrOk2? Tryz.prog tabS tabR 64 ⟨[.rd 22], .rd 21, 81, true⟩ = true := by kernel_rfl
theorem c65 : ctrOk2? Tryz.prog tabS tabR 65 ⟨[.rd 22], .rd 21, 80, true⟩ = true := by kernel_rfl
theorem c71 : ctrOk2? Tryz.prog tabS tabR 71 ⟨[.rd 22], .rd 9, 73, true⟩ = true := by kernel_rfl
theorem c72 : ctrOk2? Tryz.prog tabS tabR 72 ⟨[.rd 22], .rd 9, 72, true⟩ = true := by kernel_rfl
theorem c73 : ctrOk2? Tryz.prog tabS tabR 73 ⟨[.rd 22], .rd 62, 82, true⟩ = true := by kernel_rfl
theorem c77 : ctrOk2? Tryz.prog tabS tabR 77 ⟨[.rd 22], .rd 21, 65, true⟩ = true := by kernel_rfl
theorem c79 : ctrOk2? Tryz.prog tabS tabR 79 ⟨[.rd 22], .rd 40, 63, true⟩ = true := by kernel_rfl
theorem c81 : ctrOk2? Tryz.prog tabS tabR 81 ⟨[.rd 22], .rd 86, 75, true⟩ = true := by kernel_rfl
theorem c83 : ctrOk2? Tryz.prog tabS tabR 83 ⟨[.rd 22], .rd 86, 74, true⟩ = true := by kernel_rfl
theorem c85 : ctrOk2? Tryz.prog tabS tabR 85 ⟨[.rd 22], .rd 22, 77, true⟩ = true := by kernel_rfl
theorem c86 : ctrOk2? Tryz.prog tabS tabR 86 ⟨[.rd 22], .rd 22, 76, true⟩ = true := by kernel_rfl
theorem c89 : ctrOk2? Tryz.prog tabS tabR 89 ⟨[.rd 22], .rd 55, 70, true⟩ = true := by kernel_rfl
theorem c91 : ctrOk2? Tryz.prog tabS tabR 91 ⟨[.rd 22, .val 3], .rd 22, 71, true⟩ = true := by kernel_rfl
theorem c56 : ctrOk3? Tryz.prog tabS tabT 56 ⟨[.own 22, .val 22], .own 22, 16, true⟩ = true := by kernel_rfl
end Go.Proofs
