/- Part of a verified symbolic run of the program's code (no condition of its own). -/
import Derived.Test.YtefilhocfegfhaaDoorQ14
set_option linter.unusedVariables false
set_option linter.unusedSimpArgs false
noncomputable section
open Go Go.Dx Go.Mx
namespace Go.Proofs
def tabK : List (Nat × Ctr) := [(12, ⟨[.val 5, .val 3], .val 3, 58, true⟩),
  (15, ⟨[.val 27], .val 35, 44, true⟩),
  (17, ⟨[.val 42, .val 3, .val 35], .own 22, 60, true⟩),
  (41, ⟨[.val 22, .val 22], .val 4, 52, true⟩),
  (45, ⟨[.val 2, .val 3], .own 22, 45, true⟩),
  (46, ⟨[.val 42, .val 3, .val 35], .own 22, 59, true⟩),
  (87, ⟨[.val 40, .val 3, .val 4, .val 35], .own 22, 47, true⟩),
  (119, ⟨[.val 69, .val 3], .val 4, 57, true⟩),
  (120, ⟨[.val 69, .val 3, .val 4, .val 35], .own 22, 49, true⟩),
  (121, ⟨[.val 35, .val 3], .val 35, 40, true⟩),
  (122, ⟨[.val 40], .val 55, 51, true⟩),
  (123, ⟨[.val 69, .val 35], .val 4, 50, true⟩),
  (124, ⟨[.val 153], .own 22, 46, true⟩),
  (125, ⟨[.val 40, .val 33], .own 33, 41, true⟩),
  (169, ⟨[.val 69, .val 3, .val 35], .val 4, 56, true⟩),
  (171, ⟨[.val 4, .val 4, .val 3, .val 3], .own 22, 53, true⟩),
  (172, ⟨[.val 3, .val 40, .val 4, .val 3, .val 4, .val 35], .own 22, 48, true⟩),
  (173, ⟨[.val 3], .val 3, 55, true⟩)]
theorem k12 : ctrOk? Tryd.prog tabK 12 ⟨[.val 5, .val 3], .val 3, 58, true⟩ = true := by kernel_rfl
theorem k15 : ctrOk? Tryd.prog tabK 15 ⟨[.val 27], .val 35, 44, true⟩ = true := by kernel_rfl
theorem k17 : ctrOk? Tryd.prog tabK 17 ⟨[.val 42, .val 3, .val 35], .own 22, 60, true⟩ = true := by kernel_rfl
theorem k41 : ctrOk? Tryd.prog tabK 41 ⟨[.val 22, .val 22], .val 4, 52, true⟩ = true := by kernel_rfl
theorem k45 : ctrOk? Tryd.prog tabK 45 ⟨[.val 2, .val 3], .own 22, 45, true⟩ = true := by kernel_rfl
theorem k46 : ctrOk? Tryd.prog tabK 46 ⟨[.val 42, .val 3, .val 35], .own 22, 59, true⟩ = true := by kernel_rfl
theorem k87 : ctrOk? Tryd.prog tabK 87 ⟨[.val 40, .val 3, .val 4, .val 35], .own 22, 47, true⟩ = true := by kernel_rfl
theorem k119 : ctrOk? Tryd.prog tabK 119 ⟨[.val 69, .val 3], .val 4, 57, true⟩ = true := by kernel_rfl
theorem k120 : ctrOk? Tryd.prog tabK 120 ⟨[.val 69, .val 3, .val 4, .val 35], .own 22, 49, true⟩ = true := by kernel_rfl
theorem k121 : ctrOk? Tryd.prog tabK 121 ⟨[.val 35, .val 3], .val 35, 40, true⟩ = true := by kernel_rfl
theorem k122 : ctrOk? Tryd.prog tabK 122 ⟨[.val 40], .val 55, 51, true⟩ = true := by kernel_rfl
theorem k123 : ctrOk? Tryd.prog tabK 123 ⟨[.val 69, .val 35], .val 4, 50, true⟩ = true := by kernel_rfl
theorem k124 : ctrOk? Tryd.prog tabK 124 ⟨[.val 153], .own 22, 46, true⟩ = true := by kernel_rfl
theorem k125 : ctrOk? Tryd.prog tabK 125 ⟨[.val 40, .val 33], .own 33, 41, true⟩ = true := by kernel_rfl
theorem k169 : ctrOk? Tryd.prog tabK 169 ⟨[.val 69, .val 3, .val 35], .val 4, 56, true⟩ = true := by kernel_rfl
theorem k171 : ctrOk? Tryd.prog tabK 171 ⟨[.val 4, .val 4, .val 3, .val 3], .own 22, 53, true⟩ = true := by kernel_rfl
theorem k172 : ctrOk? Tryd.prog tabK 172 ⟨[.val 3, .val 40, .val 4, .val 3, .val 4, .val 35], .own 22, 48, true⟩ = true := by kernel_rfl
theorem k173 : ctrOk? Tryd.prog tabK 173 ⟨[.val 3], .val 3, 55, true⟩ = true := by kernel_rfl
theorem hallK : ∀ p ∈ tabK, ctrOk? Tryd.prog tabK p.1 p.2 = true := by
  intro p hp
  simp only [tabK, List.mem_cons, List.not_mem_nil, or_false] at hp
  rcases hp with rfl | rfl | rfl | rfl | rfl | rfl | rfl | rfl | rfl | rfl | rfl | rfl | rfl | rfl | rfl | rfl | rfl | rfl
  · exact k12
  · exact k15
  · exact k17
  · exact k41
  · exact k45
  · exact k46
  · exact k87
  · exact k119
  · exact k120
  · exact k121
  · exact k122
  · exact k123
  · exact k124
  · exact k125
  · exact k169
  · exact k171
  · exact k172
  · exact k173
theorem fnK : ∀ p ∈ tabK, isRd p.2.fn = false ∧ p.2.fn ≠ 399 ∧ p.2.fn ≠ 148 ∧ p.2.fn ≠ 308 := by
  intro p hp
  simp only [tabK, List.mem_cons, List.not_mem_nil, or_false] at hp
  rcases hp with rfl | rfl | rfl | rfl | rfl | rfl | rfl | rfl | rfl | rfl | rfl | rfl | rfl | rfl | rfl | rfl | rfl | rfl <;> exact ⟨rfl, by decide, by decide, by decide⟩
theorem ctrsK : ∀ f c, lk f tabK = some c → xDA Tryd.prog X side f c :=
  all_ok (hand := fun _ => false) nm ord (fun _ _ _ h => by cases h) (fun f c h _ => hallK (f, c) (zBB h)) (fun _ h => by cases h)
theorem baseK : ∀ f c, lk f tabK = some c → c.fn ≠ 148 ∧ c.fn ≠ 308 ∧ xDA Tryd.prog (X1 1) zOB f c := fun f c h => ⟨(fnK (f, c) (zBB h)).2.2.1, (fnK (f, c) (zBB h)).2.2.2, base_okU (fnK (f, c) (zBB h)).1 (fnK (f, c) (zBB h)).2.1 (ctrsK f c h)⟩
end Go.Proofs
