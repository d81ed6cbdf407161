/- Part of a verified symbolic run of the program's code (no condition of its own). -/
import Derived.Test.YtoofifpimidjlaaDoorQ9
set_option linter.unusedVariables false
set_option linter.unusedSimpArgs false
open Go Go.Dx Go.Mx
namespace Go.Proofs
def handF (k : Nat) : Bool := k == 23 || k == 24 || k == 25 || k == 9 || k == 28
theorem hallS : ∀ p ∈ tabS, handF p.2.fn = false → ctrOk? Tryd.prog tabS p.1 p.2 = true := by
  intro p hp hf
  simp only [tabS, List.mem_cons, List.not_mem_nil, or_false] at hp
  rcases hp with rfl | rfl | rfl | rfl | rfl | rfl | rfl | rfl | rfl | rfl | rfl | rfl | rfl | rfl | rfl | rfl | rfl | rfl | rfl | rfl | rfl | rfl | rfl | rfl | rfl | rfl | rfl | rfl | rfl | rfl
  · exact c5
  · exact c8
  · exact c9
  · exact c11
  · exact c19
  · exact c31
  · exact c32
  · exact c33
  · exact c34
  · exact c35
  · exact c36
  · exact c37
  · exact c40
  · exact c41
  · exact c42
  · exact c43
  · exact c46
  · exact c47
  · exact c50
  · exact c52
  · exact c53
  · exact c54
  · exact c55
  · exact c65
  · exact c66
  · exact c69
  · exact c70
  · cases hf
  · cases hf
  · cases hf
theorem handS : ∀ p ∈ tabS, handF p.2.fn = true → CtrOk Tryd.prog X side p.1 p.2 := by
  intro p hp hf
  simp only [tabS, List.mem_cons, List.not_mem_nil, or_false] at hp
  rcases hp with rfl | rfl | rfl | rfl | rfl | rfl | rfl | rfl | rfl | rfl | rfl | rfl | rfl | rfl | rfl | rfl | rfl | rfl | rfl | rfl | rfl | rfl | rfl | rfl | rfl | rfl | rfl | rfl | rfl | rfl
  · cases hf
  · cases hf
  · cases hf
  · cases hf
  · cases hf
  · cases hf
  · cases hf
  · cases hf
  · cases hf
  · cases hf
  · cases hf
  · cases hf
  · cases hf
  · cases hf
  · cases hf
  · cases hf
  · cases hf
  · cases hf
  · cases hf
  · cases hf
  · cases hf
  · cases hf
  · cases hf
  · cases hf
  · cases hf
  · cases hf
  · cases hf
  · exact hand48
  · exact hand49
  · exact hand79
theorem ctrsOk : ∀ f c, lk f tabS = some c → CtrOk Tryd.prog X side f c :=
  all_ok (hand := handF) nm ord (fun f c h hf => handS (f, c) (lk_mem h) hf) (fun f c h hf => hallS (f, c) (lk_mem h) hf) (fun k hk => by
    simp only [handF, Bool.or_eq_true, beq_iff_eq] at hk
    rcases hk with (((rfl | rfl) | rfl) | rfl) | rfl <;> rfl)
theorem hallR : ∀ p ∈ tabR, hand2 p.2.fn = false → ctrOk2? Tryd.prog tabS tabR p.1 p.2 = true := by
  intro p hp hf
  simp only [tabR, List.mem_cons, List.not_mem_nil, or_false] at hp
  rcases hp with rfl | rfl | rfl | rfl | rfl | rfl | rfl | rfl | rfl | rfl | rfl
  · exact c56
  · exact c57
  · exact c58
  · exact c63
  · exact c67
  · exact c68
  · cases hf
  · exact c76
  · exact c77
  · exact c78
  · cases hf
theorem handR : ∀ p ∈ tabR, hand2 p.2.fn = true → CtrOk Tryd.prog X side p.1 p.2 := by
  intro p hp hf
  simp only [tabR, List.mem_cons, List.not_mem_nil, or_false] at hp
  rcases hp with rfl | rfl | rfl | rfl | rfl | rfl | rfl | rfl | rfl | rfl | rfl
  · cases hf
  · cases hf
  · cases hf
  · cases hf
  · cases hf
  · cases hf
  · exact hand74
  · cases hf
  · cases hf
  · cases hf
  · exact hand83
theorem rdsOk : ∀ f c, lk f tabR = some c → CtrOk Tryd.prog X side f c :=
  all_ok2 nm ord ctrsOk (fun f c h hf => handR (f, c) (lk_mem h) hf) (fun f c h hf => hallR (f, c) (lk_mem h) hf)
noncomputable def ctrA (g : Nat) : Option Ctr :=
  match lk g tabR with
  | some c => some c
  | none => lk g tabS
theorem ctrAOk : ∀ f c, ctrA f = some c → CtrOk Tryd.prog X side f c := fun f c h => by
  unfold ctrA at h
  split at h
  · rename_i c' hc
    cases h
    exact rdsOk f _ hc
  · exact ctrsOk f c h
end Go.Proofs
