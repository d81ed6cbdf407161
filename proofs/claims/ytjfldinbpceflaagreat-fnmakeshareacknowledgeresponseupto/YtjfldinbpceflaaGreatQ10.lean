/- Part of a verified symbolic run of the program's code (no condition of its own). -/
import Derived.Test.YtjfldinbpceflaaGreatQ9
set_option linter.unusedVariables false
set_option linter.unusedSimpArgs false
open Go Go.Dx Go.Mx
namespace Go.Proofs
def handF (k : Nat) : Bool := k == 23 || k == 24 || k == 25 || k == 9 || k == 28
theorem hallS : ∀ p ∈ tabS, handF p.2.fn = false → ctrOk? Tryz.prog tabS p.1 p.2 = true := by
  intro p hp hf
  simp only [tabS, List.mem_cons, List.not_mem_nil, or_false] at hp
  rcases hp with rfl | rfl | rfl | rfl | rfl | rfl | rfl | rfl | rfl | rfl | rfl | rfl | rfl | rfl | rfl | rfl | rfl | rfl | rfl | rfl | rfl | rfl | rfl | rfl | rfl | rfl | rfl | rfl | rfl | rfl | rfl | rfl | rfl | rfl | rfl | rfl | rfl | rfl | rfl | rfl | rfl | rfl
  · exact c5
  · exact c8
  · exact c9
  · exact c11
  · exact c12
  · exact c13
  · exact c25
  · exact c26
  · exact c27
  · exact c29
  · exact c41
  · exact c42
  · exact c46
  · exact c47
  · exact c48
  · exact c49
  · exact c50
  · exact c51
  · exact c53
  · exact c56
  · exact c57
  · exact c58
  · exact c60
  · exact c61
  · exact c62
  · exact c63
  · exact c64
  · exact c70
  · exact c71
  · exact c78
  · exact c79
  · exact c80
  · exact c83
  · exact c84
  · exact c85
  · exact c86
  · exact c88
  · cases hf
  · cases hf
  · cases hf
  · cases hf
  · cases hf
theorem handS : ∀ p ∈ tabS, handF p.2.fn = true → CtrOk Tryz.prog X side p.1 p.2 := by
  intro p hp hf
  simp only [tabS, List.mem_cons, List.not_mem_nil, or_false] at hp
  rcases hp with rfl | rfl | rfl | rfl | rfl | rfl | rfl | rfl | rfl | rfl | rfl | rfl | rfl | rfl | rfl | rfl | rfl | rfl | rfl | rfl | rfl | rfl | rfl | rfl | rfl | rfl | rfl | rfl | rfl | rfl | rfl | rfl | rfl | rfl | rfl | rfl | rfl | rfl | rfl | rfl | rfl | rfl
  · cases hf
  · cases hf
  · cases hf
  · cases hf
  · cases hf
  · cases hf
  · cases hf
  · cases hf
  · cases hf
  · cases hf
  · cases hf
  · cases hf
  · cases hf
  · cases hf
  · cases hf
  · cases hf
  · cases hf
  · cases hf
  · cases hf
  · cases hf
  · cases hf
  · cases hf
  · cases hf
  · cases hf
  · cases hf
  · cases hf
  · cases hf
  · cases hf
  · cases hf
  · cases hf
  · cases hf
  · cases hf
  · cases hf
  · cases hf
  · cases hf
  · cases hf
  · cases hf
  · exact hand45
  · exact hand52
  · exact hand54
  · exact hand55
  · exact hand76
theorem ctrsOk : ∀ f c, lk f tabS = some c → CtrOk Tryz.prog X side f c :=
  all_ok (hand := handF) nm ord (fun f c h hf => handS (f, c) (lk_mem h) hf) (fun f c h hf => hallS (f, c) (lk_mem h) hf) (fun k hk => by
    simp only [handF, Bool.or_eq_true, beq_iff_eq] at hk
    rcases hk with (((rfl | rfl) | rfl) | rfl) | rfl <;> rfl)
end Go.Proofs
