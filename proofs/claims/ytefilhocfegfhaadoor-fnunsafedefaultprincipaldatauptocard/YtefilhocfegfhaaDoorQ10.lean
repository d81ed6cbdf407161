/- Part of a verified symbolic run of the program's code (no condition of its own). -/
import Derived.Test.YtefilhocfegfhaaDoorQ9
set_option linter.unusedVariables false
set_option linter.unusedSimpArgs false
noncomputable section
open Go Go.Dx Go.Mx
namespace Go.Proofs
theorem handR : ∀ p ∈ tabR, xDA Tryd.prog X side p.1 p.2 := by
  intro p hp
  simp only [tabR, List.mem_cons, List.not_mem_nil, or_false] at hp
  rcases hp with rfl | rfl | rfl
  · exact hand161
  · exact hand174
  · exact hand200
theorem fnR : ∀ p ∈ tabR, isRd p.2.fn = false ∧ p.2.fn ≠ 399 := by
  intro p hp
  simp only [tabR, List.mem_cons, List.not_mem_nil, or_false] at hp
  rcases hp with rfl | rfl | rfl <;> exact ⟨rfl, by decide⟩
theorem baseR : ∀ f c, lk f tabR = some c → xDA Tryd.prog (X1 1) zOB f c := fun f c h => base_okU (fnR (f, c) (zBB h)).1 (fnR (f, c) (zBB h)).2 (handR (f, c) (zBB h))
theorem hallU : ∀ p ∈ tabU, ctrOkU? Tryd.prog tabR tabU p.1 p.2 = true := by
  intro p hp
  simp only [tabU, List.mem_cons, List.not_mem_nil, or_false] at hp
  rcases hp with rfl | rfl | rfl | rfl | rfl | rfl | rfl | rfl | rfl | rfl | rfl | rfl | rfl | rfl | rfl | rfl | rfl | rfl | rfl | rfl | rfl | rfl
  · exact c109
  · exact c110
  · exact c114
  · exact c115
  · exact c116
  · exact c117
  · exact c118
  · exact c127
  · exact c128
  · exact c131
  · exact c133
  · exact c134
  · exact c135
  · exact c136
  · exact c137
  · exact c144
  · exact c147
  · exact c155
  · exact c156
  · exact c160
  · exact c162
  · exact c177
theorem usOk : ∀ f c, lk f tabU = some c → xDA Tryd.prog (X1 1) zOB f c := all_okU nm ord baseR (fun f c h => hallU (f, c) (zBB h))
theorem smallU : ∀ p ∈ tabU, p.2.fn < 1000000 := by
  intro p hp
  simp only [tabU, List.mem_cons, List.not_mem_nil, or_false] at hp
  rcases hp with rfl | rfl | rfl | rfl | rfl | rfl | rfl | rfl | rfl | rfl | rfl | rfl | rfl | rfl | rfl | rfl | rfl | rfl | rfl | rfl | rfl | rfl <;> decide
theorem hallS : ∀ p ∈ tabS, ctrOk? Tryd.prog tabS p.1 p.2 = true := by
  intro p hp
  simp only [tabS, List.mem_cons, List.not_mem_nil, or_false] at hp
  rcases hp with rfl | rfl | rfl
  · exact c12
  · exact c15
  · exact c41
theorem fnS : ∀ p ∈ tabS, isRd p.2.fn = false ∧ p.2.fn ≠ 399 ∧ p.2.fn ≠ 148 ∧ p.2.fn ≠ 308 := by
  intro p hp
  simp only [tabS, List.mem_cons, List.not_mem_nil, or_false] at hp
  rcases hp with rfl | rfl | rfl <;> exact ⟨rfl, by decide, by decide, by decide⟩
theorem ctrsOk : ∀ f c, lk f tabS = some c → xDA Tryd.prog X side f c :=
  all_ok (hand := fun _ => false) nm ord (fun _ _ _ h => by cases h) (fun f c h _ => hallS (f, c) (zBB h)) (fun _ h => by cases h)
theorem baseS : ∀ f c, lk f tabS = some c → c.fn ≠ 148 ∧ c.fn ≠ 308 ∧ xDA Tryd.prog (X1 1) zOB f c := fun f c h => ⟨(fnS (f, c) (zBB h)).2.2.1, (fnS (f, c) (zBB h)).2.2.2, base_okU (fnS (f, c) (zBB h)).1 (fnS (f, c) (zBB h)).2.1 (ctrsOk f c h)⟩
def ctrSo : Ctr := ⟨[.val 25], .unit, 301, true⟩
theorem sortOk : xDA Tryd.prog (X1 1) zOB 82 ctrSo := base_okU rfl (by decide) (all_ok3 (tab := [(82, ctrSo)]) nm ord (base := []) (fun _ _ h => by cases h) (fun f c h => by
  have hp := zBB h
  simp only [List.mem_cons, List.not_mem_nil, or_false] at hp
  cases hp
  exact c82) 82 ctrSo rfl)
def ctrSt : Ctr := ⟨[.val 35, .val 35], .val 4, 308, true⟩
end Go.Proofs
