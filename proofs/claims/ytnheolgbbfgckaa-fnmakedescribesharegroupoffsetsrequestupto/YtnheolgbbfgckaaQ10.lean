/- Part of a verified symbolic run of the program's code (no condition of its own). -/
import Derived.Test.YtnheolgbbfgckaaQ9
set_option linter.unusedVariables false
set_option linter.unusedSimpArgs false
open Go Go.Dx Go.Mx
namespace Go.Proofs
def handF (k : Nat) : Bool := k == 23 || k == 24 || k == 25 || k == 9 || k == 28
theorem hallS : ∀ p ∈ tabS, handF p.2.fn = false → ctrOk? Try.prog tabS p.1 p.2 = true := by
  intro p hp hf
  simp only [tabS, List.mem_cons, List.not_mem_nil, or_false] at hp
  rcases hp with rfl | rfl | rfl | rfl | rfl | rfl | rfl | rfl | rfl | rfl | rfl | rfl | rfl | rfl | rfl | rfl | rfl | rfl | rfl | rfl | rfl | rfl | rfl | rfl | rfl | rfl | rfl | rfl | rfl | rfl | rfl | rfl | rfl | rfl | rfl | rfl | rfl | rfl | rfl | rfl | rfl | rfl | rfl | rfl | rfl
  · exact c15
  · exact c18
  · exact c19
  · exact c21
  · exact c22
  · exact c23
  · exact c64
  · exact c65
  · exact c66
  · exact c68
  · exact c134
  · exact c137
  · exact c138
  · exact c139
  · exact c140
  · exact c141
  · exact c144
  · exact c146
  · exact c147
  · exact c148
  · exact c149
  · exact c150
  · exact c153
  · exact c154
  · exact c156
  · exact c157
  · exact c158
  · exact c159
  · exact c160
  · exact c161
  · exact c163
  · exact c179
  · exact c185
  · exact c188
  · exact c189
  · exact c190
  · exact c191
  · exact c192
  · exact c193
  · exact c194
  · cases hf
  · cases hf
  · cases hf
  · cases hf
  · cases hf
theorem handS : ∀ p ∈ tabS, handF p.2.fn = true → CtrOk Try.prog X side p.1 p.2 := by
  intro p hp hf
  simp only [tabS, List.mem_cons, List.not_mem_nil, or_false] at hp
  rcases hp with rfl | rfl | rfl | rfl | rfl | rfl | rfl | rfl | rfl | rfl | rfl | rfl | rfl | rfl | rfl | rfl | rfl | rfl | rfl | rfl | rfl | rfl | rfl | rfl | rfl | rfl | rfl | rfl | rfl | rfl | rfl | rfl | rfl | rfl | rfl | rfl | rfl | rfl | rfl | rfl | rfl | rfl | rfl | rfl | rfl
  · cases hf
  · cases hf
  · cases hf
  · cases hf
  · cases hf
  · cases hf
  · cases hf
  · cases hf
  · cases hf
  · cases hf
  · cases hf
  · cases hf
  · cases hf
  · cases hf
  · cases hf
  · cases hf
  · cases hf
  · cases hf
  · cases hf
  · cases hf
  · cases hf
  · cases hf
  · cases hf
  · cases hf
  · cases hf
  · cases hf
  · cases hf
  · cases hf
  · cases hf
  · cases hf
  · cases hf
  · cases hf
  · cases hf
  · cases hf
  · cases hf
  · cases hf
  · cases hf
  · cases hf
  · cases hf
  · cases hf
  · exact hand136
  · exact hand142
  · exact hand143
  · exact hand174
  · exact hand178
theorem ctrsOk : ∀ f c, lk f tabS = some c → CtrOk Try.prog X side f c :=
  all_ok (hand := handF) nm ord (fun f c h hf => handS (f, c) (lk_mem h) hf) (fun f c h hf => hallS (f, c) (lk_mem h) hf) (fun k hk => by
    simp only [handF, Bool.or_eq_true, beq_iff_eq] at hk
    rcases hk with (((rfl | rfl) | rfl) | rfl) | rfl <;> rfl)
end Go.Proofs
