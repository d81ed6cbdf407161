/-
  NARROWER THAN 'FOR EVERY INPUT', by the rows' own cells (each row's printed sentence says how): FnMakeShareGroupHeartbeatResponse: loops · FnMakeListPartitionReassignmentsResponse: loops · FnMakeAddPartitionsToTxnRequest: loops.
  DERIVED. THE GIVEN ROWS OF THIS SEAT. 3 by the template 'for every input the law returns true; each argument reads behind the call as it read before'; 0 by the template 'total and deterministic' (their statements: YtnheolgbbfgckabTotals.lean).
  GIVEN WITH THE SEED: the statements are not yours to turn. If you find one false, say at which input.
  Laid BY PROGRAM, IN A SANDBOX (cutbox-rows.mjs): the forced cells as the released guide's own fill.sh prints them over the translation d4401ac91f11a14a… (all of the seat's roots in one cut). By AI agents, Wed Nov 11 2026. No macro, syntax, notation, axiom, sorry.
-/
import Derived.Test.YtnheolgbbfgckabChecked
import GoSem.Claim
import GoSem.ClaimJoined
import GoSem.ClaimMapViews
import Derived.JoinedTies
import Derived.KernelRfl
namespace Go.Proofs.Ytnheolgbbfgckab
/- THE CELL 'sum', in the pinned program and in every row, IS THE sha256 OF THE DUMP (.gsa) THAT YtnheolgbbfgckabProg.lean LOADS. Nothing in Lean hashes anything: it is a label: what it is worth is what the hold of that sum in a sandbox is worth. -/
noncomputable def Try.pinned : Pinned := { name := "ytnheolgbbfgckab", sum := "d4401ac91f11a14acba630fa6513ceeeeb0363d0efa27a1696e91011bce07c1b", checked := Try.checked }
namespace Rows
def none {H : Type} : Left H := { results := [], args := [] }

/-- 'laws.FnMakeShareGroupHeartbeatResponse': WHATEVER THE INPUT: true; the input reads as it did. -/
def fnMakeShareGroupHeartbeatResponseSpec : ChangeSpec := { name := "fnMakeShareGroupHeartbeatResponse", fn := fun _ => fun
  | [d1, d2] => { results := [.lit (.bool true)], args := [d1, d2] }
  | _ => none }
def fnMakeShareGroupHeartbeatResponseRow : OpenClaim := { program := "ytnheolgbbfgckab", sum := "d4401ac91f11a14acba630fa6513ceeeeb0363d0efa27a1696e91011bce07c1b", func := "pub-mailsack/laws.FnMakeShareGroupHeartbeatResponse", spec := "fnMakeShareGroupHeartbeatResponse", inPlace := ["internal/reflectlite.ValueOf", "internal/reflectlite.Swapper", "(internal/reflectlite.Value).Len"], unfollowed := true, recurses := true, loops := true, apart := false }
def FnMakeShareGroupHeartbeatResponseSaid : Prop := fnMakeShareGroupHeartbeatResponseRow.holds Try.pinned (OpenSpec.ofChange fnMakeShareGroupHeartbeatResponseSpec)

/-- ITS FALSE NEIGHBOUR: 'it returns false'. Refute it at one input. -/
def fnMakeShareGroupHeartbeatResponseWrong : ChangeSpec := { name := "fnMakeShareGroupHeartbeatResponse", fn := fun _ => fun
  | [d1, d2] => { results := [.lit (.bool false)], args := [d1, d2] }
  | _ => none }
def FnMakeShareGroupHeartbeatResponseWrongFalsely : Prop := fnMakeShareGroupHeartbeatResponseRow.holds Try.pinned (OpenSpec.ofChange fnMakeShareGroupHeartbeatResponseWrong)

/-- 'laws.FnMakeListPartitionReassignmentsResponse': WHATEVER THE INPUT: true; the input reads as it did. -/
def fnMakeListPartitionReassignmentsResponseSpec : ChangeSpec := { name := "fnMakeListPartitionReassignmentsResponse", fn := fun _ => fun
  | [d1, d2] => { results := [.lit (.bool true)], args := [d1, d2] }
  | _ => none }
def fnMakeListPartitionReassignmentsResponseRow : OpenClaim := { program := "ytnheolgbbfgckab", sum := "d4401ac91f11a14acba630fa6513ceeeeb0363d0efa27a1696e91011bce07c1b", func := "pub-mailsack/laws.FnMakeListPartitionReassignmentsResponse", spec := "fnMakeListPartitionReassignmentsResponse", inPlace := ["internal/reflectlite.ValueOf", "internal/reflectlite.Swapper", "(internal/reflectlite.Value).Len"], unfollowed := true, recurses := true, loops := true, apart := false }
def FnMakeListPartitionReassignmentsResponseSaid : Prop := fnMakeListPartitionReassignmentsResponseRow.holds Try.pinned (OpenSpec.ofChange fnMakeListPartitionReassignmentsResponseSpec)

/-- ITS FALSE NEIGHBOUR: 'it returns false'. Refute it at one input. -/
def fnMakeListPartitionReassignmentsResponseWrong : ChangeSpec := { name := "fnMakeListPartitionReassignmentsResponse", fn := fun _ => fun
  | [d1, d2] => { results := [.lit (.bool false)], args := [d1, d2] }
  | _ => none }
def FnMakeListPartitionReassignmentsResponseWrongFalsely : Prop := fnMakeListPartitionReassignmentsResponseRow.holds Try.pinned (OpenSpec.ofChange fnMakeListPartitionReassignmentsResponseWrong)

/-- 'laws.FnMakeAddPartitionsToTxnRequest': WHATEVER THE INPUT: true; the input reads as it did. -/
def fnMakeAddPartitionsToTxnRequestSpec : ChangeSpec := { name := "fnMakeAddPartitionsToTxnRequest", fn := fun _ => fun
  | [d1, d2] => { results := [.lit (.bool true)], args := [d1, d2] }
  | _ => none }
def fnMakeAddPartitionsToTxnRequestRow : OpenClaim := { program := "ytnheolgbbfgckab", sum := "d4401ac91f11a14acba630fa6513ceeeeb0363d0efa27a1696e91011bce07c1b", func := "pub-mailsack/laws.FnMakeAddPartitionsToTxnRequest", spec := "fnMakeAddPartitionsToTxnRequest", inPlace := ["internal/reflectlite.ValueOf", "internal/reflectlite.Swapper", "(internal/reflectlite.Value).Len"], unfollowed := true, recurses := true, loops := true, apart := false }
def FnMakeAddPartitionsToTxnRequestSaid : Prop := fnMakeAddPartitionsToTxnRequestRow.holds Try.pinned (OpenSpec.ofChange fnMakeAddPartitionsToTxnRequestSpec)

/-- ITS FALSE NEIGHBOUR: 'it returns false'. Refute it at one input. -/
def fnMakeAddPartitionsToTxnRequestWrong : ChangeSpec := { name := "fnMakeAddPartitionsToTxnRequest", fn := fun _ => fun
  | [d1, d2] => { results := [.lit (.bool false)], args := [d1, d2] }
  | _ => none }
def FnMakeAddPartitionsToTxnRequestWrongFalsely : Prop := fnMakeAddPartitionsToTxnRequestRow.holds Try.pinned (OpenSpec.ofChange fnMakeAddPartitionsToTxnRequestWrong)

/- THE SECOND FORM. 'bulk': how many values and letters a reading holds, each counted each time it is reached (what is shared counts as often as it is met; a slice's spare places count too). A statement '..UptoSaid' is the law's where the arguments, and the package variables that the reading takes, are together of bulk at most 1048576: NARROWER than '..Said'. Prove '..Said' where nothing that the law and all that it calls make is longer than what came in: it says more and counts as full. Else prove '..UptoSaid'. A law counts once. -/
mutual
def uptoBulk {H : Type} : DataW H → Nat
  | .lit (.string bytes) => bytes.length + 1
  | .lit _ => 1
  | .nil => 1
  | .ptr d => uptoBulk d + 1
  | .slice elems spare => uptoBulkAll elems + uptoBulkAll spare + 1
  | .agg parts => uptoBulkAll parts + 1
  | .iface _ d => uptoBulk d + 1
  | .map entries => uptoBulkEntries entries + 1
  | .held _ => 1
def uptoBulkAll {H : Type} : List (DataW H) → Nat
  | [] => 0
  | d :: r => uptoBulk d + uptoBulkAll r
def uptoBulkEntries {H : Type} : List (Lit × DataW H) → Nat
  | [] => 0
  | x :: r => uptoBulkEntry x + uptoBulkEntries r
def uptoBulkEntry {H : Type} : Lit × DataW H → Nat
  | (.string bytes, d) => bytes.length + uptoBulk d + 1
  | (_, d) => uptoBulk d + 1
 end
def uptoSmall : (H : Type) → List (DataW H) → Bool := fun _ ds => decide (uptoBulkAll ds ≤ 1048576)
def OpenSpec.upto (s : _root_.Go.ChangeSpec) : _root_.Go.OpenSpec := { _root_.Go.OpenSpec.ofChange s with cond := some uptoSmall }

/-- 'laws.FnMakeShareGroupHeartbeatResponse', WHERE WHAT IT READS IS OF BULK AT MOST 1048576: true; the input reads as it did. -/
def fnMakeShareGroupHeartbeatResponseUptoRow : OpenClaim := { program := "ytnheolgbbfgckab", sum := "d4401ac91f11a14acba630fa6513ceeeeb0363d0efa27a1696e91011bce07c1b", func := "pub-mailsack/laws.FnMakeShareGroupHeartbeatResponse", spec := "fnMakeShareGroupHeartbeatResponse", inPlace := ["internal/reflectlite.ValueOf", "internal/reflectlite.Swapper", "(internal/reflectlite.Value).Len"], unfollowed := true, recurses := true, loops := true, apart := false, narrowed := true }
def FnMakeShareGroupHeartbeatResponseUptoSaid : Prop := fnMakeShareGroupHeartbeatResponseUptoRow.holds Try.pinned (OpenSpec.upto fnMakeShareGroupHeartbeatResponseSpec)

/-- 'laws.FnMakeListPartitionReassignmentsResponse', WHERE WHAT IT READS IS OF BULK AT MOST 1048576: true; the input reads as it did. -/
def fnMakeListPartitionReassignmentsResponseUptoRow : OpenClaim := { program := "ytnheolgbbfgckab", sum := "d4401ac91f11a14acba630fa6513ceeeeb0363d0efa27a1696e91011bce07c1b", func := "pub-mailsack/laws.FnMakeListPartitionReassignmentsResponse", spec := "fnMakeListPartitionReassignmentsResponse", inPlace := ["internal/reflectlite.ValueOf", "internal/reflectlite.Swapper", "(internal/reflectlite.Value).Len"], unfollowed := true, recurses := true, loops := true, apart := false, narrowed := true }
def FnMakeListPartitionReassignmentsResponseUptoSaid : Prop := fnMakeListPartitionReassignmentsResponseUptoRow.holds Try.pinned (OpenSpec.upto fnMakeListPartitionReassignmentsResponseSpec)

/-- 'laws.FnMakeAddPartitionsToTxnRequest', WHERE WHAT IT READS IS OF BULK AT MOST 1048576: true; the input reads as it did. -/
def fnMakeAddPartitionsToTxnRequestUptoRow : OpenClaim := { program := "ytnheolgbbfgckab", sum := "d4401ac91f11a14acba630fa6513ceeeeb0363d0efa27a1696e91011bce07c1b", func := "pub-mailsack/laws.FnMakeAddPartitionsToTxnRequest", spec := "fnMakeAddPartitionsToTxnRequest", inPlace := ["internal/reflectlite.ValueOf", "internal/reflectlite.Swapper", "(internal/reflectlite.Value).Len"], unfollowed := true, recurses := true, loops := true, apart := false, narrowed := true }
def FnMakeAddPartitionsToTxnRequestUptoSaid : Prop := fnMakeAddPartitionsToTxnRequestUptoRow.holds Try.pinned (OpenSpec.upto fnMakeAddPartitionsToTxnRequestSpec)

end Rows
end Go.Proofs.Ytnheolgbbfgckab
