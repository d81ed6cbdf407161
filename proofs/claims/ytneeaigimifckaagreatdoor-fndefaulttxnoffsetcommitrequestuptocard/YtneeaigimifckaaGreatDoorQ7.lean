/- Part of a verified symbolic run of the program's code (no condition of its own). -/
import Derived.Test.YtneeaigimifckaaGreatDoorQ6
import Derived.Test.YtneeaigimifckaaGreatDoorProg
import Derived.KernelRfl
set_option linter.unusedVariables false
set_option linter.unusedSimpArgs false
noncomputable section
open Go Go.Dx Go.Mx
namespace Go.Proofs
def tabS : List (Nat × Ctr) := [(10, ⟨[.val 26], .val 4, 54, true⟩),
  (13, ⟨[.val 5, .val 3], .val 3, 58, true⟩),
  (15, ⟨[.val 31, .val 3, .val 26], .own 22, 59, true⟩),
  (18, ⟨[.val 37], .val 26, 44, true⟩),
  (45, ⟨[.val 29, .val 3, .val 4, .val 26], .own 22, 47, true⟩),
  (46, ⟨[.val 26, .val 3], .val 26, 40, true⟩),
  (47, ⟨[.val 52, .val 3], .val 4, 57, true⟩),
  (48, ⟨[.val 52, .val 26], .val 4, 50, true⟩),
  (51, ⟨[.val 29, .val 24], .own 24, 41, true⟩),
  (52, ⟨[.val 22, .val 22], .val 4, 52, true⟩),
  (102, ⟨[.val 52, .val 3, .val 4, .val 26], .own 22, 49, true⟩),
  (103, ⟨[.val 29], .val 64, 51, true⟩),
  (104, ⟨[.val 108], .own 22, 46, true⟩),
  (105, ⟨[.val 2, .val 3], .own 22, 45, true⟩),
  (106, ⟨[.val 3], .val 3, 55, true⟩),
  (107, ⟨[.val 52, .val 3, .val 26], .val 4, 56, true⟩),
  (150, ⟨[.val 4, .val 4, .val 3, .val 3], .own 22, 53, true⟩),
  (151, ⟨[.val 3, .val 29, .val 4, .val 3, .val 4, .val 26], .own 22, 48, true⟩),
  (182, ⟨[.wcell 172 91, .val 64, .val 22], .cell 91, 23, true⟩)]
def tabR : List (Nat × Ctr) := [(134, ⟨[.rd 22 false], .rd 21 false, 65, true⟩),
  (135, ⟨[.rd 22 false], .rd 47 false, 63, true⟩),
  (136, ⟨[.rd 22 false], .rd 21 false, 81, true⟩),
  (137, ⟨[.rd 22 false], .rd 21 false, 80, true⟩),
  (143, ⟨[.rd 22 false], .rd 9 false, 73, true⟩),
  (144, ⟨[.rd 22 false], .rd 9 false, 72, true⟩),
  (145, ⟨[.rd 22 false], .rd 99 false, 62, true⟩),
  (146, ⟨[.rd 22 false], .rd 93 false, 82, true⟩),
  (153, ⟨[.rd 22 false], .rd 4 false, 61, true⟩),
  (161, ⟨[.rd 22 false], .rd 135 false, 75, true⟩),
  (163, ⟨[.rd 22 false], .rd 135 false, 74, true⟩),
  (166, ⟨[.rd 22 false], .rd 2 false, 66, true⟩),
  (169, ⟨[.rd 22 false], .rd 151 false, 67, true⟩),
  (177, ⟨[.val 195, .val 22], .val 64, 87, true⟩),
  (179, ⟨[.rd 22 false], .rd 64 false, 70, true⟩),
  (181, ⟨[.rd 22 false, .val 3], .rd 22 false, 71, true⟩),
  (189, ⟨[.rd 22 false], .rd 108 false, 69, true⟩),
  (212, ⟨[.val 195, .val 22], .val 108, 86, true⟩)]
def tabT : List (Nat × Ctr) := [(16, ⟨[.val 29, .val 3, .val 4, .val 26, .val 26], .val 4, 303, true⟩),
  (22, ⟨[.val 29, .val 26], .val 4, 307, true⟩),
  (49, ⟨[.val 52, .val 3, .val 4, .val 26, .val 26], .val 4, 304, true⟩),
  (50, ⟨[.val 29, .val 26], .val 4, 305, true⟩),
  (61, ⟨[.val 3, .val 2], .val 2, 306, true⟩),
  (101, ⟨[.val 35], .unit, 301, true⟩)]
theorem nm : xJA Tryz.prog := names_ok (by kernel_rfl)
theorem ord : Tryz.prog.follows .mixedOrders = true := by kernel_rfl
theorem c10 : ctrOk? Tryz.prog tabS 10 ⟨[.val 26], .val 4, 54, true⟩ = true := by kernel_rfl
theorem c13 : ctrOk? Tryz.prog tabS 13 ⟨[.val 5, .val 3], .val 3, 58, true⟩ = true := by kernel_rfl
theorem c18 : ctrOk? Tryz.prog tabS 18 ⟨[.val 37], .val 26, 44, true⟩ = true := by kernel_rfl
theorem c46 : ctrOk? Tryz.prog tabS 46 ⟨[.val 26, .val 3], .val 26, 40, true⟩ = true := by kernel_rfl
theorem c47 : ctrOk? Tryz.prog tabS 47 ⟨[.val 52, .val 3], .val 4, 57, true⟩ = true := by kernel_rfl
theorem c48 : ctrOk? Tryz.prog tabS 48 ⟨[.val 52, .val 26], .val 4, 50, true⟩ = true := by kernel_rfl
theorem c52 : ctrOk? Tryz.prog tabS 52 ⟨[.val 22, .val 22], .val 4, 52, true⟩ = true := by kernel_rfl
theorem c102 : ctrOk? Tryz.prog tabS 102 ⟨[.val 52, .val 3, .val 4, .val 26], .own 22, 49, true⟩ = true := by kernel_rfl
theorem c103 : ctrOk? Tryz.prog tabS 103 ⟨[.val 29], .val 64, 51, true⟩ = true := by kernel_rfl
theorem c104 : ctrOk? Tryz.prog tabS 104 ⟨[.val 108], .own 22, 46, true⟩ = true := by kernel_rfl
theorem c105 : ctrOk? Tryz.prog tabS 105 ⟨[.val 2, .val 3], .own 22, 45, true⟩ = true := by kernel_rfl
theorem c106 : ctrOk? Tryz.prog tabS 106 ⟨[.val 3], .val 3, 55, true⟩ = true := by kernel_rfl
theorem c107 : ctrOk? Tryz.prog tabS 107 ⟨[.val 52, .val 3, .val 26], .val 4, 56, true⟩ = true := by kernel_rfl
theorem c150 : ctrOk? Tryz.prog tabS 150 ⟨[.val 4, .val 4, .val 3, .val 3], .own 22, 53, true⟩ = true := by kernel_rfl
theorem c151 : ctrOk? Tryz.prog tabS 151 ⟨[.val 3, .val 29, .val 4, .val 3, .val 4, .val 26], .own 22, 48, true⟩ = true := by kernel_rfl
theorem c134 : ctrOk2? Tryz.prog tabS tabR 134 ⟨[.rd 22 false], .rd 21 false, 65, true⟩ = true := by kernel_rfl
theorem c135 : ctrOk2? Tryz.prog tabS tabR 135 ⟨[.rd 22 false], .rd 47 false, 63, true⟩ = true := by kernel_rfl
theorem c136 : ctrOk2? Tryz.prog tabS tabR 136 ⟨[.rd 22 false], .rd 21 false, 81, true⟩ = true := by kernel_rfl
theorem c137 : ctrOk2? Tryz.prog tabS tabR 137 ⟨[.rd 22 false], .rd 21 false, 80, true⟩ = true := by kernel_rfl
theorem c143 : ctrOk2? Tryz.prog tabS tabR 143 ⟨[.rd 22 false], .rd 9 false, 73, true⟩ = true := by kernel_rfl
theorem c144 : ctrOk2? Tryz.prog tabS tabR 144 ⟨[.rd 22 false], .rd 9 false, 72, true⟩ = true := by kernel_rfl
theorem c145 : ctrOk2? Tryz.prog tabS tabR 145 ⟨[.rd 22 false], .rd 99 false, 62, true⟩ = true := by kernel_rfl
theorem c146 : ctrOk2? Tryz.prog tabS tabR 146 ⟨[.rd 22 false], .rd 93 false, 82, true⟩ = true := by kernel_rfl
theorem c153 : ctrOk2? Tryz.prog tabS tabR 153 ⟨[.rd 22 false], .rd 4 false, 61, true⟩ = true := by kernel_rfl
theorem c161 : ctrOk2? Tryz.prog tabS tabR 161 ⟨[.rd 22 false], .rd 135 false, 75, true⟩ = true := by kernel_rfl
theorem c163 : ctrOk2? Tryz.prog tabS tabR 163 ⟨[.rd 22 false], .rd 135 false, 74, true⟩ = true := by kernel_rfl
theorem c166 : ctrOk2? Tryz.prog tabS tabR 166 ⟨[.rd 22 false], .rd 2 false, 66, true⟩ = true := by kernel_rfl
theorem c169 : ctrOk2? Tryz.prog tabS tabR 169 ⟨[.rd 22 false], .rd 151 false, 67, true⟩ = true := by kernel_rfl
theorem c179 : ctrOk2? Tryz.prog tabS tabR 179 ⟨[.rd 22 false], .rd 64 false, 70, true⟩ = true := by kernel_rfl
theorem c181 : ctrOk2? Tryz.prog tabS tabR 181 ⟨[.rd 22 false, .val 3], .rd 22 false, 71, true⟩ = true := by kernel_rfl
theorem c189 : ctrOk2? Tryz.prog tabS tabR 189 ⟨[.rd 22 false], .rd 108 false, 69, true⟩ = true := by kernel_rfl
theorem c61 : ctrOk3? Tryz.prog tabS tabT 61 ⟨[.val 3, .val 2], .val 2, 306, true⟩ = true := by kernel_rfl
end Go.Proofs
