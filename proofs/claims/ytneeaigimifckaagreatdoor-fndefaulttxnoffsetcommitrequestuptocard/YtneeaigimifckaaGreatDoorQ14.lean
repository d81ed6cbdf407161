/- Part of a verified symbolic run of the program's code (no condition of its own). -/
import Derived.Test.YtneeaigimifckaaGreatDoorQ13
set_option linter.unusedVariables false
set_option linter.unusedSimpArgs false
noncomputable section
open Go Go.Dx Go.Mx
namespace Go.Proofs
def handF (k : Nat) : Bool := k == 23 || k == 24 || k == 25 || k == 9 || k == 28
theorem hallS : ∀ p ∈ tabS, handF p.2.fn = false → ctrOk? Tryz.prog tabS p.1 p.2 = true := by
  intro p hp hf
  simp only [tabS, List.mem_cons, List.not_mem_nil, or_false] at hp
  rcases hp with rfl | rfl | rfl | rfl | rfl | rfl | rfl | rfl | rfl | rfl | rfl | rfl | rfl | rfl | rfl | rfl | rfl | rfl | rfl
  · exact c10
  · exact c13
  · exact c15
  · exact c18
  · exact c45
  · exact c46
  · exact c47
  · exact c48
  · exact c51
  · exact c52
  · exact c102
  · exact c103
  · exact c104
  · exact c105
  · exact c106
  · exact c107
  · exact c150
  · exact c151
  · cases hf
theorem handS : ∀ p ∈ tabS, handF p.2.fn = true → qRA Tryz.prog X side p.1 p.2 := by
  intro p hp hf
  simp only [tabS, List.mem_cons, List.not_mem_nil, or_false] at hp
  rcases hp with rfl | rfl | rfl | rfl | rfl | rfl | rfl | rfl | rfl | rfl | rfl | rfl | rfl | rfl | rfl | rfl | rfl | rfl | rfl
  · cases hf
  · cases hf
  · cases hf
  · cases hf
  · cases hf
  · cases hf
  · cases hf
  · cases hf
  · cases hf
  · cases hf
  · cases hf
  · cases hf
  · cases hf
  · cases hf
  · cases hf
  · cases hf
  · cases hf
  · cases hf
  · exact hand182
theorem ctrsOk : ∀ f c, lk f tabS = some c → qRA Tryz.prog X side f c :=
  all_ok (hand := handF) nm ord (fun f c h hf => handS (f, c) (qZA h) hf) (fun f c h hf => hallS (f, c) (qZA h) hf) (fun k hk => by
    simp only [handF, Bool.or_eq_true, beq_iff_eq] at hk
    rcases hk with (((rfl | rfl) | rfl) | rfl) | rfl <;> rfl)
theorem hallR : ∀ p ∈ tabR, hand2 p.2.fn = false → ctrOk2? Tryz.prog tabS tabR p.1 p.2 = true := by
  intro p hp hf
  simp only [tabR, List.mem_cons, List.not_mem_nil, or_false] at hp
  rcases hp with rfl | rfl | rfl | rfl | rfl | rfl | rfl | rfl | rfl | rfl | rfl | rfl | rfl | rfl | rfl | rfl | rfl | rfl
  · exact c134
  · exact c135
  · exact c136
  · exact c137
  · exact c143
  · exact c144
  · exact c145
  · exact c146
  · exact c153
  · exact c161
  · exact c163
  · exact c166
  · exact c169
  · cases hf
  · exact c179
  · exact c181
  · exact c189
  · cases hf
theorem handR : ∀ p ∈ tabR, hand2 p.2.fn = true → qRA Tryz.prog X side p.1 p.2 := by
  intro p hp hf
  simp only [tabR, List.mem_cons, List.not_mem_nil, or_false] at hp
  rcases hp with rfl | rfl | rfl | rfl | rfl | rfl | rfl | rfl | rfl | rfl | rfl | rfl | rfl | rfl | rfl | rfl | rfl | rfl
  · cases hf
  · cases hf
  · cases hf
  · cases hf
  · cases hf
  · cases hf
  · cases hf
  · cases hf
  · cases hf
  · cases hf
  · cases hf
  · cases hf
  · cases hf
  · exact hand177
  · cases hf
  · cases hf
  · cases hf
  · exact hand212
theorem rdsOk : ∀ f c, lk f tabR = some c → qRA Tryz.prog X side f c :=
  all_ok2 nm ord ctrsOk (fun f c h hf => handR (f, c) (qZA h) hf) (fun f c h hf => hallR (f, c) (qZA h) hf)
theorem hallT : ∀ p ∈ tabT, ctrOk3? Tryz.prog tabS tabT p.1 p.2 = true := by
  intro p hp
  simp only [tabT, List.mem_cons, List.not_mem_nil, or_false] at hp
  rcases hp with rfl | rfl | rfl | rfl | rfl | rfl
  · exact c16
  · exact c22
  · exact c49
  · exact c50
  · exact c61
  · exact c101
theorem tdsOk : ∀ f c, lk f tabT = some c → qRA Tryz.prog X side f c :=
  all_ok3 nm ord ctrsOk (fun f c h => hallT (f, c) (qZA h))
noncomputable def ctrA (g : Nat) : Option Ctr :=
  match lk g tabT with
  | some c => some c
  | none => match lk g tabR with
    | some c => some c
    | none => lk g tabS
theorem ctrAOk : ∀ f c, ctrA f = some c → qRA Tryz.prog X side f c := fun f c h => by
  unfold ctrA at h
  split at h
  · rename_i c' hc
    cases h
    exact tdsOk f _ hc
  · split at h
    · rename_i c' hc
      cases h
      exact rdsOk f _ hc
    · exact ctrsOk f c h
end Go.Proofs
