/-
  NARROWER THAN 'FOR EVERY INPUT', by the rows' own cells (each row's printed sentence says how): FnMakeShareAcknowledgeResponse: loops · FnMakeFetchRequest: loops.
  DERIVED. THE GIVEN ROWS OF THIS SEAT. 2 by the template 'for every input the law returns true; each argument reads behind the call as it read before'; 0 by the template 'total and deterministic' (their statements: YtjfldinbpceflaaGreatTotals.lean).
  GIVEN WITH THE SEED: the statements are not yours to turn. If you find one false, say at which input.
  Laid BY PROGRAM, IN A SANDBOX (cutbox-rows.mjs): the forced cells as the released guide's own fill.sh prints them over the translation 343765874c76b084… (all of the seat's roots in one cut). By AI agents, Wed Nov 11 2026. No macro, syntax, notation, axiom, sorry.
-/
import Derived.Test.YtjfldinbpceflaaGreatChecked
import GoSem.Claim
import GoSem.ClaimJoined
import GoSem.ClaimMapViews
import Derived.JoinedTies
import Derived.KernelRfl
namespace Go.Proofs.YtjfldinbpceflaaGreat
/- THE CELL 'sum', in the pinned program and in every row, IS THE sha256 OF THE DUMP (.gsa) THAT YtjfldinbpceflaaGreatProg.lean LOADS. Nothing in Lean hashes anything: it is a label: what it is worth is what the hold of that sum in a sandbox is worth. -/
noncomputable def Tryz.pinned : Pinned := { name := "ytjfldinbpceflaagreat", sum := "343765874c76b08455040b3603279dde64cd53d6db22a2deed7f885b08729454", checked := Tryz.checked }
namespace Rows
def none {H : Type} : Left H := { results := [], args := [] }

/-- 'laws.FnMakeShareAcknowledgeResponse': WHATEVER THE INPUT: true; the input reads as it did. -/
def fnMakeShareAcknowledgeResponseSpec : ChangeSpec := { name := "fnMakeShareAcknowledgeResponse", fn := fun _ => fun
  | [d1, d2] => { results := [.lit (.bool true)], args := [d1, d2] }
  | _ => none }
def fnMakeShareAcknowledgeResponseRow : OpenClaim := { program := "ytjfldinbpceflaagreat", sum := "343765874c76b08455040b3603279dde64cd53d6db22a2deed7f885b08729454", func := "pub-mailsack/laws.FnMakeShareAcknowledgeResponse", spec := "fnMakeShareAcknowledgeResponse", inPlace := ["internal/reflectlite.ValueOf", "internal/reflectlite.Swapper", "(internal/reflectlite.Value).Len"], unfollowed := true, recurses := true, loops := true, apart := false }
def FnMakeShareAcknowledgeResponseSaid : Prop := fnMakeShareAcknowledgeResponseRow.holds Tryz.pinned (OpenSpec.ofChange fnMakeShareAcknowledgeResponseSpec)

/-- ITS FALSE NEIGHBOUR: 'it returns false'. Refute it at one input. -/
def fnMakeShareAcknowledgeResponseWrong : ChangeSpec := { name := "fnMakeShareAcknowledgeResponse", fn := fun _ => fun
  | [d1, d2] => { results := [.lit (.bool false)], args := [d1, d2] }
  | _ => none }
def FnMakeShareAcknowledgeResponseWrongFalsely : Prop := fnMakeShareAcknowledgeResponseRow.holds Tryz.pinned (OpenSpec.ofChange fnMakeShareAcknowledgeResponseWrong)

/-- 'laws.FnMakeFetchRequest': WHATEVER THE INPUT: true; the input reads as it did. -/
def fnMakeFetchRequestSpec : ChangeSpec := { name := "fnMakeFetchRequest", fn := fun _ => fun
  | [d1, d2] => { results := [.lit (.bool true)], args := [d1, d2] }
  | _ => none }
def fnMakeFetchRequestRow : OpenClaim := { program := "ytjfldinbpceflaagreat", sum := "343765874c76b08455040b3603279dde64cd53d6db22a2deed7f885b08729454", func := "pub-mailsack/laws.FnMakeFetchRequest", spec := "fnMakeFetchRequest", inPlace := ["internal/reflectlite.ValueOf", "internal/reflectlite.Swapper", "(internal/reflectlite.Value).Len"], unfollowed := true, recurses := true, loops := true, apart := false }
def FnMakeFetchRequestSaid : Prop := fnMakeFetchRequestRow.holds Tryz.pinned (OpenSpec.ofChange fnMakeFetchRequestSpec)

/-- ITS FALSE NEIGHBOUR: 'it returns false'. Refute it at one input. -/
def fnMakeFetchRequestWrong : ChangeSpec := { name := "fnMakeFetchRequest", fn := fun _ => fun
  | [d1, d2] => { results := [.lit (.bool false)], args := [d1, d2] }
  | _ => none }
def FnMakeFetchRequestWrongFalsely : Prop := fnMakeFetchRequestRow.holds Tryz.pinned (OpenSpec.ofChange fnMakeFetchRequestWrong)

/- THE SECOND FORM. 'bulk': how many values and letters a reading holds, each counted each time it is reached (what is shared counts as often as it is met; a slice's spare places count too). A statement '..UptoSaid' is the law's where the arguments, and the package variables that the reading takes, are together of bulk at most 1048576: NARROWER than '..Said'. Prove '..Said' where nothing that the law and all that it calls make is longer than what came in: it says more and counts as full. Else prove '..UptoSaid'. A law counts once. -/
mutual
def uptoBulk {H : Type} : DataW H → Nat
  | .lit (.string bytes) => bytes.length + 1
  | .lit _ => 1
  | .nil => 1
  | .ptr d => uptoBulk d + 1
  | .slice elems spare => uptoBulkAll elems + uptoBulkAll spare + 1
  | .agg parts => uptoBulkAll parts + 1
  | .iface _ d => uptoBulk d + 1
  | .map entries => uptoBulkEntries entries + 1
  | .held _ => 1
def uptoBulkAll {H : Type} : List (DataW H) → Nat
  | [] => 0
  | d :: r => uptoBulk d + uptoBulkAll r
def uptoBulkEntries {H : Type} : List (Lit × DataW H) → Nat
  | [] => 0
  | x :: r => uptoBulkEntry x + uptoBulkEntries r
def uptoBulkEntry {H : Type} : Lit × DataW H → Nat
  | (.string bytes, d) => bytes.length + uptoBulk d + 1
  | (_, d) => uptoBulk d + 1
 end
def uptoSmall : (H : Type) → List (DataW H) → Bool := fun _ ds => decide (uptoBulkAll ds ≤ 1048576)
def OpenSpec.upto (s : _root_.Go.ChangeSpec) : _root_.Go.OpenSpec := { _root_.Go.OpenSpec.ofChange s with cond := some uptoSmall }

/-- 'laws.FnMakeShareAcknowledgeResponse', WHERE WHAT IT READS IS OF BULK AT MOST 1048576: true; the input reads as it did. -/
def fnMakeShareAcknowledgeResponseUptoRow : OpenClaim := { program := "ytjfldinbpceflaagreat", sum := "343765874c76b08455040b3603279dde64cd53d6db22a2deed7f885b08729454", func := "pub-mailsack/laws.FnMakeShareAcknowledgeResponse", spec := "fnMakeShareAcknowledgeResponse", inPlace := ["internal/reflectlite.ValueOf", "internal/reflectlite.Swapper", "(internal/reflectlite.Value).Len"], unfollowed := true, recurses := true, loops := true, apart := false, narrowed := true }
def FnMakeShareAcknowledgeResponseUptoSaid : Prop := fnMakeShareAcknowledgeResponseUptoRow.holds Tryz.pinned (OpenSpec.upto fnMakeShareAcknowledgeResponseSpec)

/-- 'laws.FnMakeFetchRequest', WHERE WHAT IT READS IS OF BULK AT MOST 1048576: true; the input reads as it did. -/
def fnMakeFetchRequestUptoRow : OpenClaim := { program := "ytjfldinbpceflaagreat", sum := "343765874c76b08455040b3603279dde64cd53d6db22a2deed7f885b08729454", func := "pub-mailsack/laws.FnMakeFetchRequest", spec := "fnMakeFetchRequest", inPlace := ["internal/reflectlite.ValueOf", "internal/reflectlite.Swapper", "(internal/reflectlite.Value).Len"], unfollowed := true, recurses := true, loops := true, apart := false, narrowed := true }
def FnMakeFetchRequestUptoSaid : Prop := fnMakeFetchRequestUptoRow.holds Tryz.pinned (OpenSpec.upto fnMakeFetchRequestSpec)

end Rows
end Go.Proofs.YtjfldinbpceflaaGreat
