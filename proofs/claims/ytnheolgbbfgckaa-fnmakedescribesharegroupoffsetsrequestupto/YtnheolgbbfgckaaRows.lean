/-
  NARROWER THAN 'FOR EVERY INPUT', by the rows' own cells (each row's printed sentence says how): FnMakeDescribeUserSCRAMCredentialsRequest: loops · FnMakeDeleteShareGroupOffsetsRequest: loops · FnMakeInitProducerIDRequest: loops · FnMakeDescribeACLsRequest: loops · FnMakeCreatePartitionsResponse: loops · FnMakeDeleteGroupsResponse: loops · FnMakeDescribeShareGroupOffsetsRequest: loops · FnMakeDeleteShareGroupStateResponse: loops · FnMakeDeleteACLsRequest: loops · FnMakeBrokerHeartbeatRequest: loops · FnMakeAssignReplicasToDirsResponse: loops · FnMakeMetadataRequest: loops.
  DERIVED. THE GIVEN ROWS OF THIS SEAT. 12 by the template 'for every input the law returns true; each argument reads behind the call as it read before'; 0 by the template 'total and deterministic' (their statements: YtnheolgbbfgckaaTotals.lean).
  GIVEN WITH THE SEED: the statements are not yours to turn. If you find one false, say at which input.
  Laid BY PROGRAM, IN A SANDBOX (cutbox-rows.mjs): the forced cells as the released guide's own fill.sh prints them over the translation 62f9a85c08cb6349… (all of the seat's roots in one cut). By AI agents, Wed Nov 11 2026. No macro, syntax, notation, axiom, sorry.
-/
import Derived.Test.YtnheolgbbfgckaaChecked
import GoSem.Claim
import GoSem.ClaimJoined
import GoSem.ClaimMapViews
import Derived.JoinedTies
import Derived.KernelRfl
namespace Go.Proofs.Ytnheolgbbfgckaa
/- THE CELL 'sum', in the pinned program and in every row, IS THE sha256 OF THE DUMP (.gsa) THAT YtnheolgbbfgckaaProg.lean LOADS. Nothing in Lean hashes anything: it is a label: what it is worth is what the hold of that sum in a sandbox is worth. -/
noncomputable def Try.pinned : Pinned := { name := "ytnheolgbbfgckaa", sum := "62f9a85c08cb63498a44eb487950113d6c4caf27023fb4209e28885cec29a109", checked := Try.checked }
namespace Rows
def none {H : Type} : Left H := { results := [], args := [] }

/-- 'laws.FnMakeDescribeUserSCRAMCredentialsRequest': WHATEVER THE INPUT: true; the input reads as it did. -/
def fnMakeDescribeUserSCRAMCredentialsRequestSpec : ChangeSpec := { name := "fnMakeDescribeUserSCRAMCredentialsRequest", fn := fun _ => fun
  | [d1, d2] => { results := [.lit (.bool true)], args := [d1, d2] }
  | _ => none }
def fnMakeDescribeUserSCRAMCredentialsRequestRow : OpenClaim := { program := "ytnheolgbbfgckaa", sum := "62f9a85c08cb63498a44eb487950113d6c4caf27023fb4209e28885cec29a109", func := "pub-mailsack/laws.FnMakeDescribeUserSCRAMCredentialsRequest", spec := "fnMakeDescribeUserSCRAMCredentialsRequest", inPlace := ["internal/reflectlite.ValueOf", "internal/reflectlite.Swapper", "(internal/reflectlite.Value).Len"], unfollowed := true, recurses := true, loops := true, apart := false }
def FnMakeDescribeUserSCRAMCredentialsRequestSaid : Prop := fnMakeDescribeUserSCRAMCredentialsRequestRow.holds Try.pinned (OpenSpec.ofChange fnMakeDescribeUserSCRAMCredentialsRequestSpec)

/-- ITS FALSE NEIGHBOUR: 'it returns false'. Refute it at one input. -/
def fnMakeDescribeUserSCRAMCredentialsRequestWrong : ChangeSpec := { name := "fnMakeDescribeUserSCRAMCredentialsRequest", fn := fun _ => fun
  | [d1, d2] => { results := [.lit (.bool false)], args := [d1, d2] }
  | _ => none }
def FnMakeDescribeUserSCRAMCredentialsRequestWrongFalsely : Prop := fnMakeDescribeUserSCRAMCredentialsRequestRow.holds Try.pinned (OpenSpec.ofChange fnMakeDescribeUserSCRAMCredentialsRequestWrong)

/-- 'laws.FnMakeDeleteShareGroupOffsetsRequest': WHATEVER THE INPUT: true; the input reads as it did. -/
def fnMakeDeleteShareGroupOffsetsRequestSpec : ChangeSpec := { name := "fnMakeDeleteShareGroupOffsetsRequest", fn := fun _ => fun
  | [d1, d2] => { results := [.lit (.bool true)], args := [d1, d2] }
  | _ => none }
def fnMakeDeleteShareGroupOffsetsRequestRow : OpenClaim := { program := "ytnheolgbbfgckaa", sum := "62f9a85c08cb63498a44eb487950113d6c4caf27023fb4209e28885cec29a109", func := "pub-mailsack/laws.FnMakeDeleteShareGroupOffsetsRequest", spec := "fnMakeDeleteShareGroupOffsetsRequest", inPlace := ["internal/reflectlite.ValueOf", "internal/reflectlite.Swapper", "(internal/reflectlite.Value).Len"], unfollowed := true, recurses := true, loops := true, apart := false }
def FnMakeDeleteShareGroupOffsetsRequestSaid : Prop := fnMakeDeleteShareGroupOffsetsRequestRow.holds Try.pinned (OpenSpec.ofChange fnMakeDeleteShareGroupOffsetsRequestSpec)

/-- ITS FALSE NEIGHBOUR: 'it returns false'. Refute it at one input. -/
def fnMakeDeleteShareGroupOffsetsRequestWrong : ChangeSpec := { name := "fnMakeDeleteShareGroupOffsetsRequest", fn := fun _ => fun
  | [d1, d2] => { results := [.lit (.bool false)], args := [d1, d2] }
  | _ => none }
def FnMakeDeleteShareGroupOffsetsRequestWrongFalsely : Prop := fnMakeDeleteShareGroupOffsetsRequestRow.holds Try.pinned (OpenSpec.ofChange fnMakeDeleteShareGroupOffsetsRequestWrong)

/-- 'laws.FnMakeInitProducerIDRequest': WHATEVER THE INPUT: true; the input reads as it did. -/
def fnMakeInitProducerIDRequestSpec : ChangeSpec := { name := "fnMakeInitProducerIDRequest", fn := fun _ => fun
  | [d1, d2] => { results := [.lit (.bool true)], args := [d1, d2] }
  | _ => none }
def fnMakeInitProducerIDRequestRow : OpenClaim := { program := "ytnheolgbbfgckaa", sum := "62f9a85c08cb63498a44eb487950113d6c4caf27023fb4209e28885cec29a109", func := "pub-mailsack/laws.FnMakeInitProducerIDRequest", spec := "fnMakeInitProducerIDRequest", inPlace := ["internal/reflectlite.ValueOf", "internal/reflectlite.Swapper", "(internal/reflectlite.Value).Len"], unfollowed := true, recurses := true, loops := true, apart := false }
def FnMakeInitProducerIDRequestSaid : Prop := fnMakeInitProducerIDRequestRow.holds Try.pinned (OpenSpec.ofChange fnMakeInitProducerIDRequestSpec)

/-- ITS FALSE NEIGHBOUR: 'it returns false'. Refute it at one input. -/
def fnMakeInitProducerIDRequestWrong : ChangeSpec := { name := "fnMakeInitProducerIDRequest", fn := fun _ => fun
  | [d1, d2] => { results := [.lit (.bool false)], args := [d1, d2] }
  | _ => none }
def FnMakeInitProducerIDRequestWrongFalsely : Prop := fnMakeInitProducerIDRequestRow.holds Try.pinned (OpenSpec.ofChange fnMakeInitProducerIDRequestWrong)

/-- 'laws.FnMakeDescribeACLsRequest': WHATEVER THE INPUT: true; the input reads as it did. -/
def fnMakeDescribeACLsRequestSpec : ChangeSpec := { name := "fnMakeDescribeACLsRequest", fn := fun _ => fun
  | [d1, d2] => { results := [.lit (.bool true)], args := [d1, d2] }
  | _ => none }
def fnMakeDescribeACLsRequestRow : OpenClaim := { program := "ytnheolgbbfgckaa", sum := "62f9a85c08cb63498a44eb487950113d6c4caf27023fb4209e28885cec29a109", func := "pub-mailsack/laws.FnMakeDescribeACLsRequest", spec := "fnMakeDescribeACLsRequest", inPlace := ["internal/reflectlite.ValueOf", "internal/reflectlite.Swapper", "(internal/reflectlite.Value).Len"], unfollowed := true, recurses := true, loops := true, apart := false }
def FnMakeDescribeACLsRequestSaid : Prop := fnMakeDescribeACLsRequestRow.holds Try.pinned (OpenSpec.ofChange fnMakeDescribeACLsRequestSpec)

/-- ITS FALSE NEIGHBOUR: 'it returns false'. Refute it at one input. -/
def fnMakeDescribeACLsRequestWrong : ChangeSpec := { name := "fnMakeDescribeACLsRequest", fn := fun _ => fun
  | [d1, d2] => { results := [.lit (.bool false)], args := [d1, d2] }
  | _ => none }
def FnMakeDescribeACLsRequestWrongFalsely : Prop := fnMakeDescribeACLsRequestRow.holds Try.pinned (OpenSpec.ofChange fnMakeDescribeACLsRequestWrong)

/-- 'laws.FnMakeCreatePartitionsResponse': WHATEVER THE INPUT: true; the input reads as it did. -/
def fnMakeCreatePartitionsResponseSpec : ChangeSpec := { name := "fnMakeCreatePartitionsResponse", fn := fun _ => fun
  | [d1, d2] => { results := [.lit (.bool true)], args := [d1, d2] }
  | _ => none }
def fnMakeCreatePartitionsResponseRow : OpenClaim := { program := "ytnheolgbbfgckaa", sum := "62f9a85c08cb63498a44eb487950113d6c4caf27023fb4209e28885cec29a109", func := "pub-mailsack/laws.FnMakeCreatePartitionsResponse", spec := "fnMakeCreatePartitionsResponse", inPlace := ["internal/reflectlite.ValueOf", "internal/reflectlite.Swapper", "(internal/reflectlite.Value).Len"], unfollowed := true, recurses := true, loops := true, apart := false }
def FnMakeCreatePartitionsResponseSaid : Prop := fnMakeCreatePartitionsResponseRow.holds Try.pinned (OpenSpec.ofChange fnMakeCreatePartitionsResponseSpec)

/-- ITS FALSE NEIGHBOUR: 'it returns false'. Refute it at one input. -/
def fnMakeCreatePartitionsResponseWrong : ChangeSpec := { name := "fnMakeCreatePartitionsResponse", fn := fun _ => fun
  | [d1, d2] => { results := [.lit (.bool false)], args := [d1, d2] }
  | _ => none }
def FnMakeCreatePartitionsResponseWrongFalsely : Prop := fnMakeCreatePartitionsResponseRow.holds Try.pinned (OpenSpec.ofChange fnMakeCreatePartitionsResponseWrong)

/-- 'laws.FnMakeDeleteGroupsResponse': WHATEVER THE INPUT: true; the input reads as it did. -/
def fnMakeDeleteGroupsResponseSpec : ChangeSpec := { name := "fnMakeDeleteGroupsResponse", fn := fun _ => fun
  | [d1, d2] => { results := [.lit (.bool true)], args := [d1, d2] }
  | _ => none }
def fnMakeDeleteGroupsResponseRow : OpenClaim := { program := "ytnheolgbbfgckaa", sum := "62f9a85c08cb63498a44eb487950113d6c4caf27023fb4209e28885cec29a109", func := "pub-mailsack/laws.FnMakeDeleteGroupsResponse", spec := "fnMakeDeleteGroupsResponse", inPlace := ["internal/reflectlite.ValueOf", "internal/reflectlite.Swapper", "(internal/reflectlite.Value).Len"], unfollowed := true, recurses := true, loops := true, apart := false }
def FnMakeDeleteGroupsResponseSaid : Prop := fnMakeDeleteGroupsResponseRow.holds Try.pinned (OpenSpec.ofChange fnMakeDeleteGroupsResponseSpec)

/-- ITS FALSE NEIGHBOUR: 'it returns false'. Refute it at one input. -/
def fnMakeDeleteGroupsResponseWrong : ChangeSpec := { name := "fnMakeDeleteGroupsResponse", fn := fun _ => fun
  | [d1, d2] => { results := [.lit (.bool false)], args := [d1, d2] }
  | _ => none }
def FnMakeDeleteGroupsResponseWrongFalsely : Prop := fnMakeDeleteGroupsResponseRow.holds Try.pinned (OpenSpec.ofChange fnMakeDeleteGroupsResponseWrong)

/-- 'laws.FnMakeDescribeShareGroupOffsetsRequest': WHATEVER THE INPUT: true; the input reads as it did. -/
def fnMakeDescribeShareGroupOffsetsRequestSpec : ChangeSpec := { name := "fnMakeDescribeShareGroupOffsetsRequest", fn := fun _ => fun
  | [d1, d2] => { results := [.lit (.bool true)], args := [d1, d2] }
  | _ => none }
def fnMakeDescribeShareGroupOffsetsRequestRow : OpenClaim := { program := "ytnheolgbbfgckaa", sum := "62f9a85c08cb63498a44eb487950113d6c4caf27023fb4209e28885cec29a109", func := "pub-mailsack/laws.FnMakeDescribeShareGroupOffsetsRequest", spec := "fnMakeDescribeShareGroupOffsetsRequest", inPlace := ["internal/reflectlite.ValueOf", "internal/reflectlite.Swapper", "(internal/reflectlite.Value).Len"], unfollowed := true, recurses := true, loops := true, apart := false }
def FnMakeDescribeShareGroupOffsetsRequestSaid : Prop := fnMakeDescribeShareGroupOffsetsRequestRow.holds Try.pinned (OpenSpec.ofChange fnMakeDescribeShareGroupOffsetsRequestSpec)

/-- ITS FALSE NEIGHBOUR: 'it returns false'. Refute it at one input. -/
def fnMakeDescribeShareGroupOffsetsRequestWrong : ChangeSpec := { name := "fnMakeDescribeShareGroupOffsetsRequest", fn := fun _ => fun
  | [d1, d2] => { results := [.lit (.bool false)], args := [d1, d2] }
  | _ => none }
def FnMakeDescribeShareGroupOffsetsRequestWrongFalsely : Prop := fnMakeDescribeShareGroupOffsetsRequestRow.holds Try.pinned (OpenSpec.ofChange fnMakeDescribeShareGroupOffsetsRequestWrong)

/-- 'laws.FnMakeDeleteShareGroupStateResponse': WHATEVER THE INPUT: true; the input reads as it did. -/
def fnMakeDeleteShareGroupStateResponseSpec : ChangeSpec := { name := "fnMakeDeleteShareGroupStateResponse", fn := fun _ => fun
  | [d1, d2] => { results := [.lit (.bool true)], args := [d1, d2] }
  | _ => none }
def fnMakeDeleteShareGroupStateResponseRow : OpenClaim := { program := "ytnheolgbbfgckaa", sum := "62f9a85c08cb63498a44eb487950113d6c4caf27023fb4209e28885cec29a109", func := "pub-mailsack/laws.FnMakeDeleteShareGroupStateResponse", spec := "fnMakeDeleteShareGroupStateResponse", inPlace := ["internal/reflectlite.ValueOf", "internal/reflectlite.Swapper", "(internal/reflectlite.Value).Len"], unfollowed := true, recurses := true, loops := true, apart := false }
def FnMakeDeleteShareGroupStateResponseSaid : Prop := fnMakeDeleteShareGroupStateResponseRow.holds Try.pinned (OpenSpec.ofChange fnMakeDeleteShareGroupStateResponseSpec)

/-- ITS FALSE NEIGHBOUR: 'it returns false'. Refute it at one input. -/
def fnMakeDeleteShareGroupStateResponseWrong : ChangeSpec := { name := "fnMakeDeleteShareGroupStateResponse", fn := fun _ => fun
  | [d1, d2] => { results := [.lit (.bool false)], args := [d1, d2] }
  | _ => none }
def FnMakeDeleteShareGroupStateResponseWrongFalsely : Prop := fnMakeDeleteShareGroupStateResponseRow.holds Try.pinned (OpenSpec.ofChange fnMakeDeleteShareGroupStateResponseWrong)

/-- 'laws.FnMakeDeleteACLsRequest': WHATEVER THE INPUT: true; the input reads as it did. -/
def fnMakeDeleteACLsRequestSpec : ChangeSpec := { name := "fnMakeDeleteACLsRequest", fn := fun _ => fun
  | [d1, d2] => { results := [.lit (.bool true)], args := [d1, d2] }
  | _ => none }
def fnMakeDeleteACLsRequestRow : OpenClaim := { program := "ytnheolgbbfgckaa", sum := "62f9a85c08cb63498a44eb487950113d6c4caf27023fb4209e28885cec29a109", func := "pub-mailsack/laws.FnMakeDeleteACLsRequest", spec := "fnMakeDeleteACLsRequest", inPlace := ["internal/reflectlite.ValueOf", "internal/reflectlite.Swapper", "(internal/reflectlite.Value).Len"], unfollowed := true, recurses := true, loops := true, apart := false }
def FnMakeDeleteACLsRequestSaid : Prop := fnMakeDeleteACLsRequestRow.holds Try.pinned (OpenSpec.ofChange fnMakeDeleteACLsRequestSpec)

/-- ITS FALSE NEIGHBOUR: 'it returns false'. Refute it at one input. -/
def fnMakeDeleteACLsRequestWrong : ChangeSpec := { name := "fnMakeDeleteACLsRequest", fn := fun _ => fun
  | [d1, d2] => { results := [.lit (.bool false)], args := [d1, d2] }
  | _ => none }
def FnMakeDeleteACLsRequestWrongFalsely : Prop := fnMakeDeleteACLsRequestRow.holds Try.pinned (OpenSpec.ofChange fnMakeDeleteACLsRequestWrong)

/-- 'laws.FnMakeBrokerHeartbeatRequest': WHATEVER THE INPUT: true; the input reads as it did. -/
def fnMakeBrokerHeartbeatRequestSpec : ChangeSpec := { name := "fnMakeBrokerHeartbeatRequest", fn := fun _ => fun
  | [d1, d2] => { results := [.lit (.bool true)], args := [d1, d2] }
  | _ => none }
def fnMakeBrokerHeartbeatRequestRow : OpenClaim := { program := "ytnheolgbbfgckaa", sum := "62f9a85c08cb63498a44eb487950113d6c4caf27023fb4209e28885cec29a109", func := "pub-mailsack/laws.FnMakeBrokerHeartbeatRequest", spec := "fnMakeBrokerHeartbeatRequest", inPlace := ["internal/reflectlite.ValueOf", "internal/reflectlite.Swapper", "(internal/reflectlite.Value).Len"], unfollowed := true, recurses := true, loops := true, apart := false }
def FnMakeBrokerHeartbeatRequestSaid : Prop := fnMakeBrokerHeartbeatRequestRow.holds Try.pinned (OpenSpec.ofChange fnMakeBrokerHeartbeatRequestSpec)

/-- ITS FALSE NEIGHBOUR: 'it returns false'. Refute it at one input. -/
def fnMakeBrokerHeartbeatRequestWrong : ChangeSpec := { name := "fnMakeBrokerHeartbeatRequest", fn := fun _ => fun
  | [d1, d2] => { results := [.lit (.bool false)], args := [d1, d2] }
  | _ => none }
def FnMakeBrokerHeartbeatRequestWrongFalsely : Prop := fnMakeBrokerHeartbeatRequestRow.holds Try.pinned (OpenSpec.ofChange fnMakeBrokerHeartbeatRequestWrong)

/-- 'laws.FnMakeAssignReplicasToDirsResponse': WHATEVER THE INPUT: true; the input reads as it did. -/
def fnMakeAssignReplicasToDirsResponseSpec : ChangeSpec := { name := "fnMakeAssignReplicasToDirsResponse", fn := fun _ => fun
  | [d1, d2] => { results := [.lit (.bool true)], args := [d1, d2] }
  | _ => none }
def fnMakeAssignReplicasToDirsResponseRow : OpenClaim := { program := "ytnheolgbbfgckaa", sum := "62f9a85c08cb63498a44eb487950113d6c4caf27023fb4209e28885cec29a109", func := "pub-mailsack/laws.FnMakeAssignReplicasToDirsResponse", spec := "fnMakeAssignReplicasToDirsResponse", inPlace := ["internal/reflectlite.ValueOf", "internal/reflectlite.Swapper", "(internal/reflectlite.Value).Len"], unfollowed := true, recurses := true, loops := true, apart := false }
def FnMakeAssignReplicasToDirsResponseSaid : Prop := fnMakeAssignReplicasToDirsResponseRow.holds Try.pinned (OpenSpec.ofChange fnMakeAssignReplicasToDirsResponseSpec)

/-- ITS FALSE NEIGHBOUR: 'it returns false'. Refute it at one input. -/
def fnMakeAssignReplicasToDirsResponseWrong : ChangeSpec := { name := "fnMakeAssignReplicasToDirsResponse", fn := fun _ => fun
  | [d1, d2] => { results := [.lit (.bool false)], args := [d1, d2] }
  | _ => none }
def FnMakeAssignReplicasToDirsResponseWrongFalsely : Prop := fnMakeAssignReplicasToDirsResponseRow.holds Try.pinned (OpenSpec.ofChange fnMakeAssignReplicasToDirsResponseWrong)

/-- 'laws.FnMakeMetadataRequest': WHATEVER THE INPUT: true; the input reads as it did. -/
def fnMakeMetadataRequestSpec : ChangeSpec := { name := "fnMakeMetadataRequest", fn := fun _ => fun
  | [d1, d2] => { results := [.lit (.bool true)], args := [d1, d2] }
  | _ => none }
def fnMakeMetadataRequestRow : OpenClaim := { program := "ytnheolgbbfgckaa", sum := "62f9a85c08cb63498a44eb487950113d6c4caf27023fb4209e28885cec29a109", func := "pub-mailsack/laws.FnMakeMetadataRequest", spec := "fnMakeMetadataRequest", inPlace := ["internal/reflectlite.ValueOf", "internal/reflectlite.Swapper", "(internal/reflectlite.Value).Len"], unfollowed := true, recurses := true, loops := true, apart := false }
def FnMakeMetadataRequestSaid : Prop := fnMakeMetadataRequestRow.holds Try.pinned (OpenSpec.ofChange fnMakeMetadataRequestSpec)

/-- ITS FALSE NEIGHBOUR: 'it returns false'. Refute it at one input. -/
def fnMakeMetadataRequestWrong : ChangeSpec := { name := "fnMakeMetadataRequest", fn := fun _ => fun
  | [d1, d2] => { results := [.lit (.bool false)], args := [d1, d2] }
  | _ => none }
def FnMakeMetadataRequestWrongFalsely : Prop := fnMakeMetadataRequestRow.holds Try.pinned (OpenSpec.ofChange fnMakeMetadataRequestWrong)

/- THE SECOND FORM. 'bulk': how many values and letters a reading holds, each counted each time it is reached (what is shared counts as often as it is met; a slice's spare places count too). A statement '..UptoSaid' is the law's where the arguments, and the package variables that the reading takes, are together of bulk at most 1048576: NARROWER than '..Said'. Prove '..Said' where nothing that the law and all that it calls make is longer than what came in: it says more and counts as full. Else prove '..UptoSaid'. A law counts once. -/
mutual
def uptoBulk {H : Type} : DataW H → Nat
  | .lit (.string bytes) => bytes.length + 1
  | .lit _ => 1
  | .nil => 1
  | .ptr d => uptoBulk d + 1
  | .slice elems spare => uptoBulkAll elems + uptoBulkAll spare + 1
  | .agg parts => uptoBulkAll parts + 1
  | .iface _ d => uptoBulk d + 1
  | .map entries => uptoBulkEntries entries + 1
  | .held _ => 1
def uptoBulkAll {H : Type} : List (DataW H) → Nat
  | [] => 0
  | d :: r => uptoBulk d + uptoBulkAll r
def uptoBulkEntries {H : Type} : List (Lit × DataW H) → Nat
  | [] => 0
  | x :: r => uptoBulkEntry x + uptoBulkEntries r
def uptoBulkEntry {H : Type} : Lit × DataW H → Nat
  | (.string bytes, d) => bytes.length + uptoBulk d + 1
  | (_, d) => uptoBulk d + 1
 end
def uptoSmall : (H : Type) → List (DataW H) → Bool := fun _ ds => decide (uptoBulkAll ds ≤ 1048576)
def OpenSpec.upto (s : _root_.Go.ChangeSpec) : _root_.Go.OpenSpec := { _root_.Go.OpenSpec.ofChange s with cond := some uptoSmall }

/-- 'laws.FnMakeDescribeUserSCRAMCredentialsRequest', WHERE WHAT IT READS IS OF BULK AT MOST 1048576: true; the input reads as it did. -/
def fnMakeDescribeUserSCRAMCredentialsRequestUptoRow : OpenClaim := { program := "ytnheolgbbfgckaa", sum := "62f9a85c08cb63498a44eb487950113d6c4caf27023fb4209e28885cec29a109", func := "pub-mailsack/laws.FnMakeDescribeUserSCRAMCredentialsRequest", spec := "fnMakeDescribeUserSCRAMCredentialsRequest", inPlace := ["internal/reflectlite.ValueOf", "internal/reflectlite.Swapper", "(internal/reflectlite.Value).Len"], unfollowed := true, recurses := true, loops := true, apart := false, narrowed := true }
def FnMakeDescribeUserSCRAMCredentialsRequestUptoSaid : Prop := fnMakeDescribeUserSCRAMCredentialsRequestUptoRow.holds Try.pinned (OpenSpec.upto fnMakeDescribeUserSCRAMCredentialsRequestSpec)

/-- 'laws.FnMakeDeleteShareGroupOffsetsRequest', WHERE WHAT IT READS IS OF BULK AT MOST 1048576: true; the input reads as it did. -/
def fnMakeDeleteShareGroupOffsetsRequestUptoRow : OpenClaim := { program := "ytnheolgbbfgckaa", sum := "62f9a85c08cb63498a44eb487950113d6c4caf27023fb4209e28885cec29a109", func := "pub-mailsack/laws.FnMakeDeleteShareGroupOffsetsRequest", spec := "fnMakeDeleteShareGroupOffsetsRequest", inPlace := ["internal/reflectlite.ValueOf", "internal/reflectlite.Swapper", "(internal/reflectlite.Value).Len"], unfollowed := true, recurses := true, loops := true, apart := false, narrowed := true }
def FnMakeDeleteShareGroupOffsetsRequestUptoSaid : Prop := fnMakeDeleteShareGroupOffsetsRequestUptoRow.holds Try.pinned (OpenSpec.upto fnMakeDeleteShareGroupOffsetsRequestSpec)

/-- 'laws.FnMakeInitProducerIDRequest', WHERE WHAT IT READS IS OF BULK AT MOST 1048576: true; the input reads as it did. -/
def fnMakeInitProducerIDRequestUptoRow : OpenClaim := { program := "ytnheolgbbfgckaa", sum := "62f9a85c08cb63498a44eb487950113d6c4caf27023fb4209e28885cec29a109", func := "pub-mailsack/laws.FnMakeInitProducerIDRequest", spec := "fnMakeInitProducerIDRequest", inPlace := ["internal/reflectlite.ValueOf", "internal/reflectlite.Swapper", "(internal/reflectlite.Value).Len"], unfollowed := true, recurses := true, loops := true, apart := false, narrowed := true }
def FnMakeInitProducerIDRequestUptoSaid : Prop := fnMakeInitProducerIDRequestUptoRow.holds Try.pinned (OpenSpec.upto fnMakeInitProducerIDRequestSpec)

/-- 'laws.FnMakeDescribeACLsRequest', WHERE WHAT IT READS IS OF BULK AT MOST 1048576: true; the input reads as it did. -/
def fnMakeDescribeACLsRequestUptoRow : OpenClaim := { program := "ytnheolgbbfgckaa", sum := "62f9a85c08cb63498a44eb487950113d6c4caf27023fb4209e28885cec29a109", func := "pub-mailsack/laws.FnMakeDescribeACLsRequest", spec := "fnMakeDescribeACLsRequest", inPlace := ["internal/reflectlite.ValueOf", "internal/reflectlite.Swapper", "(internal/reflectlite.Value).Len"], unfollowed := true, recurses := true, loops := true, apart := false, narrowed := true }
def FnMakeDescribeACLsRequestUptoSaid : Prop := fnMakeDescribeACLsRequestUptoRow.holds Try.pinned (OpenSpec.upto fnMakeDescribeACLsRequestSpec)

/-- 'laws.FnMakeCreatePartitionsResponse', WHERE WHAT IT READS IS OF BULK AT MOST 1048576: true; the input reads as it did. -/
def fnMakeCreatePartitionsResponseUptoRow : OpenClaim := { program := "ytnheolgbbfgckaa", sum := "62f9a85c08cb63498a44eb487950113d6c4caf27023fb4209e28885cec29a109", func := "pub-mailsack/laws.FnMakeCreatePartitionsResponse", spec := "fnMakeCreatePartitionsResponse", inPlace := ["internal/reflectlite.ValueOf", "internal/reflectlite.Swapper", "(internal/reflectlite.Value).Len"], unfollowed := true, recurses := true, loops := true, apart := false, narrowed := true }
def FnMakeCreatePartitionsResponseUptoSaid : Prop := fnMakeCreatePartitionsResponseUptoRow.holds Try.pinned (OpenSpec.upto fnMakeCreatePartitionsResponseSpec)

/-- 'laws.FnMakeDeleteGroupsResponse', WHERE WHAT IT READS IS OF BULK AT MOST 1048576: true; the input reads as it did. -/
def fnMakeDeleteGroupsResponseUptoRow : OpenClaim := { program := "ytnheolgbbfgckaa", sum := "62f9a85c08cb63498a44eb487950113d6c4caf27023fb4209e28885cec29a109", func := "pub-mailsack/laws.FnMakeDeleteGroupsResponse", spec := "fnMakeDeleteGroupsResponse", inPlace := ["internal/reflectlite.ValueOf", "internal/reflectlite.Swapper", "(internal/reflectlite.Value).Len"], unfollowed := true, recurses := true, loops := true, apart := false, narrowed := true }
def FnMakeDeleteGroupsResponseUptoSaid : Prop := fnMakeDeleteGroupsResponseUptoRow.holds Try.pinned (OpenSpec.upto fnMakeDeleteGroupsResponseSpec)

/-- 'laws.FnMakeDescribeShareGroupOffsetsRequest', WHERE WHAT IT READS IS OF BULK AT MOST 1048576: true; the input reads as it did. -/
def fnMakeDescribeShareGroupOffsetsRequestUptoRow : OpenClaim := { program := "ytnheolgbbfgckaa", sum := "62f9a85c08cb63498a44eb487950113d6c4caf27023fb4209e28885cec29a109", func := "pub-mailsack/laws.FnMakeDescribeShareGroupOffsetsRequest", spec := "fnMakeDescribeShareGroupOffsetsRequest", inPlace := ["internal/reflectlite.ValueOf", "internal/reflectlite.Swapper", "(internal/reflectlite.Value).Len"], unfollowed := true, recurses := true, loops := true, apart := false, narrowed := true }
def FnMakeDescribeShareGroupOffsetsRequestUptoSaid : Prop := fnMakeDescribeShareGroupOffsetsRequestUptoRow.holds Try.pinned (OpenSpec.upto fnMakeDescribeShareGroupOffsetsRequestSpec)

/-- 'laws.FnMakeDeleteShareGroupStateResponse', WHERE WHAT IT READS IS OF BULK AT MOST 1048576: true; the input reads as it did. -/
def fnMakeDeleteShareGroupStateResponseUptoRow : OpenClaim := { program := "ytnheolgbbfgckaa", sum := "62f9a85c08cb63498a44eb487950113d6c4caf27023fb4209e28885cec29a109", func := "pub-mailsack/laws.FnMakeDeleteShareGroupStateResponse", spec := "fnMakeDeleteShareGroupStateResponse", inPlace := ["internal/reflectlite.ValueOf", "internal/reflectlite.Swapper", "(internal/reflectlite.Value).Len"], unfollowed := true, recurses := true, loops := true, apart := false, narrowed := true }
def FnMakeDeleteShareGroupStateResponseUptoSaid : Prop := fnMakeDeleteShareGroupStateResponseUptoRow.holds Try.pinned (OpenSpec.upto fnMakeDeleteShareGroupStateResponseSpec)

/-- 'laws.FnMakeDeleteACLsRequest', WHERE WHAT IT READS IS OF BULK AT MOST 1048576: true; the input reads as it did. -/
def fnMakeDeleteACLsRequestUptoRow : OpenClaim := { program := "ytnheolgbbfgckaa", sum := "62f9a85c08cb63498a44eb487950113d6c4caf27023fb4209e28885cec29a109", func := "pub-mailsack/laws.FnMakeDeleteACLsRequest", spec := "fnMakeDeleteACLsRequest", inPlace := ["internal/reflectlite.ValueOf", "internal/reflectlite.Swapper", "(internal/reflectlite.Value).Len"], unfollowed := true, recurses := true, loops := true, apart := false, narrowed := true }
def FnMakeDeleteACLsRequestUptoSaid : Prop := fnMakeDeleteACLsRequestUptoRow.holds Try.pinned (OpenSpec.upto fnMakeDeleteACLsRequestSpec)

/-- 'laws.FnMakeBrokerHeartbeatRequest', WHERE WHAT IT READS IS OF BULK AT MOST 1048576: true; the input reads as it did. -/
def fnMakeBrokerHeartbeatRequestUptoRow : OpenClaim := { program := "ytnheolgbbfgckaa", sum := "62f9a85c08cb63498a44eb487950113d6c4caf27023fb4209e28885cec29a109", func := "pub-mailsack/laws.FnMakeBrokerHeartbeatRequest", spec := "fnMakeBrokerHeartbeatRequest", inPlace := ["internal/reflectlite.ValueOf", "internal/reflectlite.Swapper", "(internal/reflectlite.Value).Len"], unfollowed := true, recurses := true, loops := true, apart := false, narrowed := true }
def FnMakeBrokerHeartbeatRequestUptoSaid : Prop := fnMakeBrokerHeartbeatRequestUptoRow.holds Try.pinned (OpenSpec.upto fnMakeBrokerHeartbeatRequestSpec)

/-- 'laws.FnMakeAssignReplicasToDirsResponse', WHERE WHAT IT READS IS OF BULK AT MOST 1048576: true; the input reads as it did. -/
def fnMakeAssignReplicasToDirsResponseUptoRow : OpenClaim := { program := "ytnheolgbbfgckaa", sum := "62f9a85c08cb63498a44eb487950113d6c4caf27023fb4209e28885cec29a109", func := "pub-mailsack/laws.FnMakeAssignReplicasToDirsResponse", spec := "fnMakeAssignReplicasToDirsResponse", inPlace := ["internal/reflectlite.ValueOf", "internal/reflectlite.Swapper", "(internal/reflectlite.Value).Len"], unfollowed := true, recurses := true, loops := true, apart := false, narrowed := true }
def FnMakeAssignReplicasToDirsResponseUptoSaid : Prop := fnMakeAssignReplicasToDirsResponseUptoRow.holds Try.pinned (OpenSpec.upto fnMakeAssignReplicasToDirsResponseSpec)

/-- 'laws.FnMakeMetadataRequest', WHERE WHAT IT READS IS OF BULK AT MOST 1048576: true; the input reads as it did. -/
def fnMakeMetadataRequestUptoRow : OpenClaim := { program := "ytnheolgbbfgckaa", sum := "62f9a85c08cb63498a44eb487950113d6c4caf27023fb4209e28885cec29a109", func := "pub-mailsack/laws.FnMakeMetadataRequest", spec := "fnMakeMetadataRequest", inPlace := ["internal/reflectlite.ValueOf", "internal/reflectlite.Swapper", "(internal/reflectlite.Value).Len"], unfollowed := true, recurses := true, loops := true, apart := false, narrowed := true }
def FnMakeMetadataRequestUptoSaid : Prop := fnMakeMetadataRequestUptoRow.holds Try.pinned (OpenSpec.upto fnMakeMetadataRequestSpec)

end Rows
end Go.Proofs.Ytnheolgbbfgckaa
