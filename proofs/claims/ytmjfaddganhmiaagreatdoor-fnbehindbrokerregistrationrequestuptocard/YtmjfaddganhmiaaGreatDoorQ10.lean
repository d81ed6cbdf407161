/- Part of a verified symbolic run of the program's code (no condition of its own). -/
import Derived.Test.YtmjfaddganhmiaaGreatDoorQ9
set_option linter.unusedVariables false
set_option linter.unusedSimpArgs false
open Go Go.Dx Go.Mx
namespace Go.Proofs
def handF (k : Nat) : Bool := k == 23 || k == 24 || k == 25 || k == 9 || k == 28
theorem hallS : ∀ p ∈ tabS, handF p.2.fn = false → ctrOk? Tryz.prog tabS p.1 p.2 = true := by
  intro p hp hf
  simp only [tabS, List.mem_cons, List.not_mem_nil, or_false] at hp
  rcases hp with rfl | rfl | rfl | rfl | rfl | rfl | rfl | rfl | rfl | rfl | rfl | rfl | rfl | rfl | rfl | rfl | rfl | rfl | rfl | rfl | rfl | rfl | rfl | rfl | rfl | rfl | rfl | rfl | rfl | rfl | rfl | rfl | rfl | rfl | rfl | rfl | rfl | rfl
  · exact c15
  · exact c18
  · exact c19
  · exact c21
  · exact c58
  · exact c129
  · exact c130
  · exact c131
  · exact c132
  · exact c133
  · exact c134
  · exact c135
  · exact c138
  · exact c139
  · exact c140
  · exact c141
  · exact c142
  · exact c149
  · exact c150
  · exact c154
  · exact c155
  · exact c160
  · exact c167
  · exact c172
  · exact c178
  · exact c183
  · exact c184
  · exact c186
  · exact c187
  · exact c188
  · exact c189
  · exact c198
  · exact c199
  · exact c215
  · cases hf
  · cases hf
  · cases hf
  · cases hf
theorem handS : ∀ p ∈ tabS, handF p.2.fn = true → CtrOk Tryz.prog X side p.1 p.2 := by
  intro p hp hf
  simp only [tabS, List.mem_cons, List.not_mem_nil, or_false] at hp
  rcases hp with rfl | rfl | rfl | rfl | rfl | rfl | rfl | rfl | rfl | rfl | rfl | rfl | rfl | rfl | rfl | rfl | rfl | rfl | rfl | rfl | rfl | rfl | rfl | rfl | rfl | rfl | rfl | rfl | rfl | rfl | rfl | rfl | rfl | rfl | rfl | rfl | rfl | rfl
  · cases hf
  · cases hf
  · cases hf
  · cases hf
  · cases hf
  · cases hf
  · cases hf
  · cases hf
  · cases hf
  · cases hf
  · cases hf
  · cases hf
  · cases hf
  · cases hf
  · cases hf
  · cases hf
  · cases hf
  · cases hf
  · cases hf
  · cases hf
  · cases hf
  · cases hf
  · cases hf
  · cases hf
  · cases hf
  · cases hf
  · cases hf
  · cases hf
  · cases hf
  · cases hf
  · cases hf
  · cases hf
  · cases hf
  · cases hf
  · exact hand143
  · exact hand144
  · exact hand156
  · exact hand238
theorem ctrsOk : ∀ f c, lk f tabS = some c → CtrOk Tryz.prog X side f c :=
  all_ok (hand := handF) nm ord (fun f c h hf => handS (f, c) (lk_mem h) hf) (fun f c h hf => hallS (f, c) (lk_mem h) hf) (fun k hk => by
    simp only [handF, Bool.or_eq_true, beq_iff_eq] at hk
    rcases hk with (((rfl | rfl) | rfl) | rfl) | rfl <;> rfl)
theorem hallR : ∀ p ∈ tabR, hand2 p.2.fn = false → ctrOk2? Tryz.prog tabS tabR p.1 p.2 = true := by
  intro p hp hf
  simp only [tabR, List.mem_cons, List.not_mem_nil, or_false] at hp
  rcases hp with rfl | rfl | rfl | rfl | rfl | rfl | rfl | rfl | rfl | rfl | rfl | rfl | rfl | rfl | rfl | rfl | rfl | rfl | rfl | rfl | rfl
  · exact c190
  · exact c191
  · exact c193
  · exact c195
  · exact c196
  · exact c204
  · exact c205
  · exact c206
  · exact c207
  · exact c210
  · exact c214
  · exact c218
  · exact c222
  · exact c227
  · exact c231
  · exact c232
  · cases hf
  · exact c235
  · exact c237
  · exact c242
  · cases hf
theorem handR : ∀ p ∈ tabR, hand2 p.2.fn = true → CtrOk Tryz.prog X side p.1 p.2 := by
  intro p hp hf
  simp only [tabR, List.mem_cons, List.not_mem_nil, or_false] at hp
  rcases hp with rfl | rfl | rfl | rfl | rfl | rfl | rfl | rfl | rfl | rfl | rfl | rfl | rfl | rfl | rfl | rfl | rfl | rfl | rfl | rfl | rfl
  · cases hf
  · cases hf
  · cases hf
  · cases hf
  · cases hf
  · cases hf
  · cases hf
  · cases hf
  · cases hf
  · cases hf
  · cases hf
  · cases hf
  · cases hf
  · cases hf
  · cases hf
  · cases hf
  · exact hand233
  · cases hf
  · cases hf
  · cases hf
  · exact hand249
theorem rdsOk : ∀ f c, lk f tabR = some c → CtrOk Tryz.prog X side f c :=
  all_ok2 nm ord ctrsOk (fun f c h hf => handR (f, c) (lk_mem h) hf) (fun f c h hf => hallR (f, c) (lk_mem h) hf)
noncomputable def ctrA (g : Nat) : Option Ctr :=
  match lk g tabR with
  | some c => some c
  | none => lk g tabS
theorem ctrAOk : ∀ f c, ctrA f = some c → CtrOk Tryz.prog X side f c := fun f c h => by
  unfold ctrA at h
  split at h
  · rename_i c' hc
    cases h
    exact rdsOk f _ hc
  · exact ctrsOk f c h
end Go.Proofs
