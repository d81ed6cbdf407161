/- Part of a verified symbolic run of the program's code (no condition of its own). -/
import Derived.Test.YtefilhocfegfhaaDoorQ11
set_option linter.unusedVariables false
set_option linter.unusedSimpArgs false
noncomputable section
open Go Go.Dx Go.Mx
namespace Go.Proofs
noncomputable def ctrRun (g : Nat) : Option Ctr := if g = 80 then some ctrE else if g = 82 then some ctrSo else lk g tabU
theorem ctrRunOk : ∀ f c, ctrRun f = some c → c.fn < 1000000 ∧ xTA Tryd.prog (X1 1) xXB f c := fun f c hc => by
  have hc : (if f = 80 then some ctrE else if f = 82 then some ctrSo else lk f tabU) = some c := hc
  split at hc
  · rename_i h12; cases hc; subst h12; exact ⟨by decide, base_okU rfl (by decide) handE⟩
  · split at hc
    · rename_i h12; cases hc; subst h12; exact ⟨by decide, sortOk⟩
    · exact ⟨smallU (f, c) (zBB hc), usOk f c hc⟩
def ctrT : Ctr := ⟨[.val 3, .val 22], .valB 27, 148, true⟩
def h0 : List (Nat × Nat × Nat × Hint) := [(150, 2, 4, ([(.slot 19, .var (.own 99)), (.cell 871567839708081630077595418626 0, .var (.set 22)), (.cell 871567839708081630077595418626 1, .bool)], 0)), (150, 0, 2, ([(.slot 12, .var (.own 93)), (.cell 871567839708081630077595418626 0, .var (.set 22)), (.cell 871567839708081630077595418626 1, .bool)], 1)), (150, 2, 8, ([(.slot 19, .var (.own 99)), (.cell 871567839708081630077595418626 0, .var (.set 22)), (.cell 871567839708081630077595418626 1, .bool)], 0)), (72, 0, 2, ([(.cell 1346898105555607573157042454530 3, .var (.own 24))], 0))]
def hU (v : Int) : List (Nat × Nat × Nat × Hint) :=
  if v = 0 then h0 else
  if v = 1 then h0 else
  []
noncomputable def U : UP := ⟨1, Tryd.prog, fun v => ⟨Tryd.prog, ctrRun, lookH ((0, 999999, 0, ([], 0)) :: (0, 999995, 0, ([], 0)) :: hU v)⟩, 21, ctrT⟩
end Go.Proofs
