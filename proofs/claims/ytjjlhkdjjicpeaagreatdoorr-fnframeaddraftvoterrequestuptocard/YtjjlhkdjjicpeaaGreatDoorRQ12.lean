/- Part of a verified symbolic run of the program's code (no condition of its own). -/
import Derived.Test.YtjjlhkdjjicpeaaGreatDoorRQ11
set_option linter.unusedVariables false
set_option linter.unusedSimpArgs false
open Go Go.Dx Go.Mx
namespace Go.Proofs
def handF (k : Nat) : Bool := k == 23 || k == 24 || k == 25 || k == 9 || k == 28
theorem hallS : ∀ p ∈ tabS, handF p.2.fn = false → ctrOk? Tryz.prog tabS p.1 p.2 = true := by
  intro p hp hf
  simp only [tabS, List.mem_cons, List.not_mem_nil, or_false] at hp
  rcases hp with rfl | rfl | rfl | rfl | rfl | rfl | rfl | rfl | rfl | rfl | rfl | rfl | rfl | rfl | rfl | rfl | rfl | rfl | rfl | rfl | rfl | rfl | rfl | rfl | rfl | rfl | rfl | rfl | rfl | rfl | rfl | rfl | rfl | rfl | rfl | rfl | rfl | rfl | rfl | rfl | rfl
  · exact c13
  · exact c16
  · exact c17
  · exact c19
  · exact c50
  · exact c54
  · exact c95
  · exact c96
  · exact c97
  · exact c98
  · exact c99
  · exact c100
  · exact c101
  · exact c124
  · exact c126
  · exact c127
  · exact c128
  · exact c148
  · exact c149
  · exact c150
  · exact c171
  · exact c172
  · exact c173
  · exact c197
  · exact c199
  · exact c200
  · exact c201
  · exact c202
  · exact c205
  · exact c206
  · exact c245
  · exact c251
  · exact c252
  · exact c253
  · exact c259
  · exact c272
  · exact c273
  · cases hf
  · cases hf
  · cases hf
  · cases hf
theorem handS : ∀ p ∈ tabS, handF p.2.fn = true → qRA Tryz.prog X side p.1 p.2 := by
  intro p hp hf
  simp only [tabS, List.mem_cons, List.not_mem_nil, or_false] at hp
  rcases hp with rfl | rfl | rfl | rfl | rfl | rfl | rfl | rfl | rfl | rfl | rfl | rfl | rfl | rfl | rfl | rfl | rfl | rfl | rfl | rfl | rfl | rfl | rfl | rfl | rfl | rfl | rfl | rfl | rfl | rfl | rfl | rfl | rfl | rfl | rfl | rfl | rfl | rfl | rfl | rfl | rfl
  · cases hf
  · cases hf
  · cases hf
  · cases hf
  · cases hf
  · cases hf
  · cases hf
  · cases hf
  · cases hf
  · cases hf
  · cases hf
  · cases hf
  · cases hf
  · cases hf
  · cases hf
  · cases hf
  · cases hf
  · cases hf
  · cases hf
  · cases hf
  · cases hf
  · cases hf
  · cases hf
  · cases hf
  · cases hf
  · cases hf
  · cases hf
  · cases hf
  · cases hf
  · cases hf
  · cases hf
  · cases hf
  · cases hf
  · cases hf
  · cases hf
  · cases hf
  · cases hf
  · exact hand170
  · exact hand198
  · exact hand203
  · exact hand204
theorem ctrsOk : ∀ f c, lk f tabS = some c → qRA Tryz.prog X side f c :=
  all_ok (hand := handF) nm ord (fun f c h hf => handS (f, c) (qXA h) hf) (fun f c h hf => hallS (f, c) (qXA h) hf) (fun k hk => by
    simp only [handF, Bool.or_eq_true, beq_iff_eq] at hk
    rcases hk with (((rfl | rfl) | rfl) | rfl) | rfl <;> rfl)
theorem hallR : ∀ p ∈ tabR, hand2 p.2.fn = false → ctrOk2? Tryz.prog tabS tabR p.1 p.2 = true := by
  intro p hp hf
  simp only [tabR, List.mem_cons, List.not_mem_nil, or_false] at hp
  rcases hp with rfl | rfl | rfl | rfl | rfl | rfl | rfl | rfl | rfl | rfl | rfl | rfl | rfl | rfl | rfl | rfl | rfl | rfl | rfl | rfl | rfl | rfl | rfl
  · exact c130
  · exact c132
  · exact c133
  · exact c134
  · exact c135
  · exact c136
  · exact c142
  · exact c143
  · exact c144
  · exact c145
  · exact c146
  · exact c152
  · exact c154
  · exact c155
  · exact c156
  · exact c157
  · exact c158
  · exact c164
  · exact c166
  · exact c167
  · cases hf
  · exact c174
  · cases hf
theorem handR : ∀ p ∈ tabR, hand2 p.2.fn = true → qRA Tryz.prog X side p.1 p.2 := by
  intro p hp hf
  simp only [tabR, List.mem_cons, List.not_mem_nil, or_false] at hp
  rcases hp with rfl | rfl | rfl | rfl | rfl | rfl | rfl | rfl | rfl | rfl | rfl | rfl | rfl | rfl | rfl | rfl | rfl | rfl | rfl | rfl | rfl | rfl | rfl
  · cases hf
  · cases hf
  · cases hf
  · cases hf
  · cases hf
  · cases hf
  · cases hf
  · cases hf
  · cases hf
  · cases hf
  · cases hf
  · cases hf
  · cases hf
  · cases hf
  · cases hf
  · cases hf
  · cases hf
  · cases hf
  · cases hf
  · cases hf
  · exact hand168
  · cases hf
  · exact hand176
theorem rdsOk : ∀ f c, lk f tabR = some c → qRA Tryz.prog X side f c :=
  all_ok2 nm ord ctrsOk (fun f c h hf => handR (f, c) (qXA h) hf) (fun f c h hf => hallR (f, c) (qXA h) hf)
theorem hallT : ∀ p ∈ tabT, ctrOk3? Tryz.prog tabS tabT p.1 p.2 = true := by
  intro p hp
  simp only [tabT, List.mem_cons, List.not_mem_nil, or_false] at hp
  rcases hp with rfl | rfl | rfl
  · exact c20
  · exact c250
  · exact c258
theorem tdsOk : ∀ f c, lk f tabT = some c → qRA Tryz.prog X side f c :=
  all_ok3 nm ord ctrsOk (fun f c h => hallT (f, c) (qXA h))
noncomputable def ctrA (g : Nat) : Option Ctr :=
  match lk g tabT with
  | some c => some c
  | none => match lk g tabR with
    | some c => some c
    | none => lk g tabS
theorem ctrAOk : ∀ f c, ctrA f = some c → qRA Tryz.prog X side f c := fun f c h => by
  unfold ctrA at h
  split at h
  · rename_i c' hc
    cases h
    exact tdsOk f _ hc
  · split at h
    · rename_i c' hc
      cases h
      exact rdsOk f _ hc
    · exact ctrsOk f c h
end Go.Proofs
