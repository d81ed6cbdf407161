/- Part of a verified symbolic run of the program's code (no condition of its own). -/
import Derived.Test.YtblndkbbnboldaaGreatDoorQ9
set_option linter.unusedVariables false
set_option linter.unusedSimpArgs false
open Go Go.Dx Go.Mx
namespace Go.Proofs
def handF (k : Nat) : Bool := k == 23 || k == 24 || k == 25 || k == 9 || k == 28
theorem hallS : ∀ p ∈ tabS, handF p.2.fn = false → ctrOk? Tryz.prog tabS p.1 p.2 = true := by
  intro p hp hf
  simp only [tabS, List.mem_cons, List.not_mem_nil, or_false] at hp
  rcases hp with rfl | rfl | rfl | rfl | rfl | rfl | rfl | rfl | rfl | rfl | rfl | rfl | rfl | rfl | rfl | rfl | rfl | rfl | rfl | rfl | rfl | rfl | rfl | rfl | rfl | rfl | rfl | rfl | rfl | rfl | rfl | rfl | rfl | rfl | rfl
  · exact c5
  · exact c8
  · exact c9
  · exact c11
  · exact c19
  · exact c31
  · exact c32
  · exact c33
  · exact c34
  · exact c35
  · exact c36
  · exact c37
  · exact c40
  · exact c41
  · exact c42
  · exact c43
  · exact c44
  · exact c50
  · exact c51
  · exact c52
  · exact c53
  · exact c54
  · exact c55
  · exact c57
  · exact c58
  · exact c60
  · exact c61
  · exact c62
  · exact c63
  · exact c74
  · exact c87
  · exact c88
  · cases hf
  · cases hf
  · cases hf
theorem handS : ∀ p ∈ tabS, handF p.2.fn = true → zMB Tryz.prog X side p.1 p.2 := by
  intro p hp hf
  simp only [tabS, List.mem_cons, List.not_mem_nil, or_false] at hp
  rcases hp with rfl | rfl | rfl | rfl | rfl | rfl | rfl | rfl | rfl | rfl | rfl | rfl | rfl | rfl | rfl | rfl | rfl | rfl | rfl | rfl | rfl | rfl | rfl | rfl | rfl | rfl | rfl | rfl | rfl | rfl | rfl | rfl | rfl | rfl | rfl
  · cases hf
  · cases hf
  · cases hf
  · cases hf
  · cases hf
  · cases hf
  · cases hf
  · cases hf
  · cases hf
  · cases hf
  · cases hf
  · cases hf
  · cases hf
  · cases hf
  · cases hf
  · cases hf
  · cases hf
  · cases hf
  · cases hf
  · cases hf
  · cases hf
  · cases hf
  · cases hf
  · cases hf
  · cases hf
  · cases hf
  · cases hf
  · cases hf
  · cases hf
  · cases hf
  · cases hf
  · cases hf
  · exact hand45
  · exact hand46
  · exact hand92
theorem ctrsOk : ∀ f c, lk f tabS = some c → zMB Tryz.prog X side f c :=
  all_ok (hand := handF) nm ord (fun f c h hf => handS (f, c) (zHB h) hf) (fun f c h hf => hallS (f, c) (zHB h) hf) (fun k hk => by
    simp only [handF, Bool.or_eq_true, beq_iff_eq] at hk
    rcases hk with (((rfl | rfl) | rfl) | rfl) | rfl <;> rfl)
theorem hallR : ∀ p ∈ tabR, hand2 p.2.fn = false → ctrOk2? Tryz.prog tabS tabR p.1 p.2 = true := by
  intro p hp hf
  simp only [tabR, List.mem_cons, List.not_mem_nil, or_false] at hp
  rcases hp with rfl | rfl | rfl | rfl | rfl | rfl | rfl | rfl | rfl | rfl | rfl | rfl | rfl | rfl
  · exact c64
  · exact c65
  · exact c71
  · exact c72
  · exact c73
  · exact c77
  · exact c79
  · exact c81
  · exact c83
  · exact c85
  · exact c86
  · exact c89
  · exact c91
  · cases hf
theorem handR : ∀ p ∈ tabR, hand2 p.2.fn = true → zMB Tryz.prog X side p.1 p.2 := by
  intro p hp hf
  simp only [tabR, List.mem_cons, List.not_mem_nil, or_false] at hp
  rcases hp with rfl | rfl | rfl | rfl | rfl | rfl | rfl | rfl | rfl | rfl | rfl | rfl | rfl | rfl
  · cases hf
  · cases hf
  · cases hf
  · cases hf
  · cases hf
  · cases hf
  · cases hf
  · cases hf
  · cases hf
  · cases hf
  · cases hf
  · cases hf
  · cases hf
  · exact hand96
theorem rdsOk : ∀ f c, lk f tabR = some c → zMB Tryz.prog X side f c :=
  all_ok2 nm ord ctrsOk (fun f c h hf => handR (f, c) (zHB h) hf) (fun f c h hf => hallR (f, c) (zHB h) hf)
theorem hallT : ∀ p ∈ tabT, ctrOk3? Tryz.prog tabS tabT p.1 p.2 = true := by
  intro p hp
  simp only [tabT, List.mem_cons, List.not_mem_nil, or_false] at hp
  rcases hp with rfl
  · exact c56
theorem tdsOk : ∀ f c, lk f tabT = some c → zMB Tryz.prog X side f c :=
  all_ok3 nm ord ctrsOk (fun f c h => hallT (f, c) (zHB h))
noncomputable def ctrA (g : Nat) : Option Ctr :=
  match lk g tabT with
  | some c => some c
  | none => match lk g tabR with
    | some c => some c
    | none => lk g tabS
theorem ctrAOk : ∀ f c, ctrA f = some c → zMB Tryz.prog X side f c := fun f c h => by
  unfold ctrA at h
  split at h
  · rename_i c' hc
    cases h
    exact tdsOk f _ hc
  · split at h
    · rename_i c' hc
      cases h
      exact rdsOk f _ hc
    · exact ctrsOk f c h
end Go.Proofs
