/- Part of a verified symbolic run of the program's code (no condition of its own). -/
import Derived.Test.YtefilhocfegfhaaDoorQ11
set_option linter.unusedVariables false
set_option linter.unusedSimpArgs false
noncomputable section
open Go Go.Dx Go.Mx
namespace Go.Proofs
noncomputable def ctrRun (g : Nat) : Option Ctr := if g = 80 then some ctrE else if g = 82 then some ctrSo else lk g tabU
theorem ctrRunOk : ∀ f c, ctrRun f = some c → c.fn < 1000000 ∧ xDA Tryd.prog (X1 1) zOB f c := fun f c hc => by
  have hc : (if f = 80 then some ctrE else if f = 82 then some ctrSo else lk f tabU) = some c := hc
  split at hc
  · rename_i h12; cases hc; subst h12; exact ⟨by decide, base_okU rfl (by decide) handE⟩
  · split at hc
    · rename_i h12; cases hc; subst h12; exact ⟨by decide, sortOk⟩
    · exact ⟨smallU (f, c) (zBB hc), usOk f c hc⟩
def ctrT : Ctr := ⟨[.val 22], .valB 27, 148, true⟩
noncomputable def U : UP := ⟨1, Tryd.prog, fun _ => ⟨Tryd.prog, ctrRun, lookH [(0, 999999, 0, ([], 0)), (0, 999995, 0, ([], 0))]⟩, 16, ctrT⟩
end Go.Proofs
