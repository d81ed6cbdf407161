/- Part of a verified symbolic run of the program's code (no condition of its own). -/
import Derived.Test.YtneeaigimifckaaDoorQ11
set_option linter.unusedVariables false
set_option linter.unusedSimpArgs false
open Go Go.Dx Go.Mx
namespace Go.Proofs
def handF (k : Nat) : Bool := k == 23 || k == 24 || k == 25 || k == 9 || k == 28
theorem hallS : ∀ p ∈ tabS, handF p.2.fn = false → ctrOk? Tryd.prog tabS p.1 p.2 = true := by
  intro p hp hf
  simp only [tabS, List.mem_cons, List.not_mem_nil, or_false] at hp
  rcases hp with rfl | rfl | rfl | rfl | rfl | rfl | rfl | rfl | rfl | rfl | rfl | rfl | rfl | rfl | rfl | rfl | rfl | rfl
  · exact c4
  · exact c7
  · exact c10
  · exact c15
  · exact c16
  · exact c17
  · exact c18
  · exact c19
  · exact c22
  · exact c23
  · exact c28
  · exact c29
  · exact c30
  · exact c33
  · exact c39
  · exact c40
  · exact c45
  · exact c46
theorem handS : ∀ p ∈ tabS, handF p.2.fn = true → zPB Tryd.prog X side p.1 p.2 := by
  intro p hp hf
  simp only [tabS, List.mem_cons, List.not_mem_nil, or_false] at hp
  rcases hp with rfl | rfl | rfl | rfl | rfl | rfl | rfl | rfl | rfl | rfl | rfl | rfl | rfl | rfl | rfl | rfl | rfl | rfl
  · cases hf
  · cases hf
  · cases hf
  · cases hf
  · cases hf
  · cases hf
  · cases hf
  · cases hf
  · cases hf
  · cases hf
  · cases hf
  · cases hf
  · cases hf
  · cases hf
  · cases hf
  · cases hf
  · cases hf
  · cases hf
theorem ctrsOk : ∀ f c, lk f tabS = some c → zPB Tryd.prog X side f c :=
  all_ok (hand := handF) nm ord (fun f c h hf => handS (f, c) (zBB h) hf) (fun f c h hf => hallS (f, c) (zBB h) hf) (fun k hk => by
    simp only [handF, Bool.or_eq_true, beq_iff_eq] at hk
    rcases hk with (((rfl | rfl) | rfl) | rfl) | rfl <;> rfl)
theorem hallR : ∀ p ∈ tabR, hand2 p.2.fn = false → ctrOk2? Tryd.prog tabS tabR p.1 p.2 = true := by
  intro p hp hf
  simp only [tabR, List.mem_cons, List.not_mem_nil, or_false] at hp
  rcases hp with rfl | rfl | rfl | rfl | rfl
  · exact c34
  · exact c36
  · exact c37
  · exact c43
  · cases hf
theorem handR : ∀ p ∈ tabR, hand2 p.2.fn = true → zPB Tryd.prog X side p.1 p.2 := by
  intro p hp hf
  simp only [tabR, List.mem_cons, List.not_mem_nil, or_false] at hp
  rcases hp with rfl | rfl | rfl | rfl | rfl
  · cases hf
  · cases hf
  · cases hf
  · cases hf
  · exact hand44
theorem rdsOk : ∀ f c, lk f tabR = some c → zPB Tryd.prog X side f c :=
  all_ok2 nm ord ctrsOk (fun f c h hf => handR (f, c) (zBB h) hf) (fun f c h hf => hallR (f, c) (zBB h) hf)
theorem hallT : ∀ p ∈ tabT, ctrOk3? Tryd.prog tabS tabT p.1 p.2 = true := by
  intro p hp
  simp only [tabT, List.mem_cons, List.not_mem_nil, or_false] at hp
  rcases hp with rfl | rfl | rfl | rfl
  · exact c8
  · exact c20
  · exact c21
  · exact c32
theorem tdsOk : ∀ f c, lk f tabT = some c → zPB Tryd.prog X side f c :=
  all_ok3 nm ord ctrsOk (fun f c h => hallT (f, c) (zBB h))
noncomputable def ctrA (g : Nat) : Option Ctr :=
  match lk g tabT with
  | some c => some c
  | none => match lk g tabR with
    | some c => some c
    | none => lk g tabS
theorem ctrAOk : ∀ f c, ctrA f = some c → zPB Tryd.prog X side f c := fun f c h => by
  unfold ctrA at h
  split at h
  · rename_i c' hc
    cases h
    exact tdsOk f _ hc
  · split at h
    · rename_i c' hc
      cases h
      exact rdsOk f _ hc
    · exact ctrsOk f c h
end Go.Proofs
