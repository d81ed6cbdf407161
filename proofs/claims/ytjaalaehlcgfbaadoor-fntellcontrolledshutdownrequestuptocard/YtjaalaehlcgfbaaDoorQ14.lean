/- Part of a verified symbolic run of the program's code (no condition of its own). -/
import Derived.Test.YtjaalaehlcgfbaaDoorQ13
set_option linter.unusedVariables false
set_option linter.unusedSimpArgs false
open Go Go.Dx Go.Mx
namespace Go.Proofs
def handF (k : Nat) : Bool := k == 23 || k == 24 || k == 25 || k == 9 || k == 28
theorem hallS : ∀ p ∈ tabS, handF p.2.fn = false → ctrOk? Tryd.prog tabS p.1 p.2 = true := by
  intro p hp hf
  simp only [tabS, List.mem_cons, List.not_mem_nil, or_false] at hp
  rcases hp with rfl | rfl | rfl | rfl | rfl | rfl | rfl | rfl | rfl | rfl | rfl | rfl | rfl | rfl | rfl | rfl | rfl | rfl | rfl | rfl
  · exact c5
  · exact c8
  · exact c11
  · exact c14
  · exact c16
  · exact c21
  · exact c22
  · exact c23
  · exact c24
  · exact c27
  · exact c28
  · exact c35
  · exact c39
  · exact c40
  · exact c43
  · exact c49
  · exact c50
  · exact c60
  · exact c61
  · cases hf
theorem handS : ∀ p ∈ tabS, handF p.2.fn = true → CtrOk Tryd.prog X side p.1 p.2 := by
  intro p hp hf
  simp only [tabS, List.mem_cons, List.not_mem_nil, or_false] at hp
  rcases hp with rfl | rfl | rfl | rfl | rfl | rfl | rfl | rfl | rfl | rfl | rfl | rfl | rfl | rfl | rfl | rfl | rfl | rfl | rfl | rfl
  · cases hf
  · cases hf
  · cases hf
  · cases hf
  · cases hf
  · cases hf
  · cases hf
  · cases hf
  · cases hf
  · cases hf
  · cases hf
  · cases hf
  · cases hf
  · cases hf
  · cases hf
  · cases hf
  · cases hf
  · cases hf
  · cases hf
  · exact hand68
theorem yYI : ∀ f c, lk f tabS = some c → CtrOk Tryd.prog X side f c :=
  all_ok (hand := handF) nm ord (fun f c h hf => handS (f, c) (yVA h) hf) (fun f c h hf => hallS (f, c) (yVA h) hf) (fun k hk => by
    simp only [handF, Bool.or_eq_true, beq_iff_eq] at hk
    rcases hk with (((rfl | rfl) | rfl) | rfl) | rfl <;> rfl)
theorem hallR : ∀ p ∈ tabR, hand2 p.2.fn = false → ctrOk2? Tryd.prog tabS tabR p.1 p.2 = true := by
  intro p hp hf
  simp only [tabR, List.mem_cons, List.not_mem_nil, or_false] at hp
  rcases hp with rfl | rfl | rfl | rfl | rfl | rfl | rfl | rfl | rfl | rfl
  · exact c51
  · exact c53
  · exact c54
  · exact c56
  · exact c57
  · exact c64
  · cases hf
  · exact c66
  · exact c67
  · cases hf
theorem handR : ∀ p ∈ tabR, hand2 p.2.fn = true → CtrOk Tryd.prog X side p.1 p.2 := by
  intro p hp hf
  simp only [tabR, List.mem_cons, List.not_mem_nil, or_false] at hp
  rcases hp with rfl | rfl | rfl | rfl | rfl | rfl | rfl | rfl | rfl | rfl
  · cases hf
  · cases hf
  · cases hf
  · cases hf
  · cases hf
  · cases hf
  · exact hand65
  · cases hf
  · cases hf
  · exact hand74
theorem rdsOk : ∀ f c, lk f tabR = some c → CtrOk Tryd.prog X side f c :=
  all_ok2 nm ord yYI (fun f c h hf => handR (f, c) (yVA h) hf) (fun f c h hf => hallR (f, c) (yVA h) hf)
theorem hallT : ∀ p ∈ tabT, ctrOk3? Tryd.prog tabS tabT p.1 p.2 = true := by
  intro p hp
  simp only [tabT, List.mem_cons, List.not_mem_nil, or_false] at hp
  rcases hp with rfl | rfl | rfl | rfl | rfl
  · exact c9
  · exact c25
  · exact c26
  · exact c42
  · exact c48
theorem tdsOk : ∀ f c, lk f tabT = some c → CtrOk Tryd.prog X side f c :=
  all_ok3 nm ord yYI (fun f c h => hallT (f, c) (yVA h))
noncomputable def ctrA (g : Nat) : Option Ctr :=
  match lk g tabT with
  | some c => some c
  | none => match lk g tabR with
    | some c => some c
    | none => lk g tabS
theorem ctrAOk : ∀ f c, ctrA f = some c → CtrOk Tryd.prog X side f c := fun f c h => by
  unfold ctrA at h
  split at h
  · rename_i c' hc
    cases h
    exact tdsOk f _ hc
  · split at h
    · rename_i c' hc
      cases h
      exact rdsOk f _ hc
    · exact yYI f c h
end Go.Proofs
