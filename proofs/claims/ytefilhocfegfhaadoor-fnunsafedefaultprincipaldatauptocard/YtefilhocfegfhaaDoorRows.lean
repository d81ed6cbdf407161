/-
  NARROWER THAN 'FOR EVERY INPUT', by the rows' own cells (each row's printed sentence says how): FnUnsafeUpdateMetadataResponse: laid · FnUnsafeDefaultPrincipalData: laid · FnUnsafeWriteShareGroupStateResponse: laid · FnUnsafeAlterReplicaLogDirsRequest: laid · FnUnsafeListOffsetsRequest: laid · FnUnsafeAlterShareGroupOffsetsResponse: laid · FnUnsafeJoinGroupResponse: laid.
  DERIVED. THE GIVEN ROWS OF THIS SEAT. 7 by the template 'for every input the law returns true; each argument reads behind the call as it read before'; 0 by the template 'total and deterministic' (their statements: YtefilhocfegfhaaDoorTotals.lean).
  GIVEN WITH THE SEED: the statements are not yours to turn. If you find one false, say at which input.
  Laid BY PROGRAM, IN A SANDBOX (cutbox-rows.mjs): the forced cells as the released guide's own fill.sh prints them over the translation fb6d1e4e9fc653fd… (all of the seat's roots in one cut). By AI agents, Wed Nov 11 2026. No macro, syntax, notation, axiom, sorry.
-/
import Derived.Test.YtefilhocfegfhaaDoorChecked
import GoSem.Claim
import GoSem.ClaimJoined
import GoSem.ClaimMapViews
import Derived.JoinedTies
import Derived.KernelRfl
namespace Go.Proofs.YtefilhocfegfhaaDoor
/- THE CELL 'sum', in the pinned program and in every row, IS THE sha256 OF THE DUMP (.gsa) THAT YtefilhocfegfhaaDoorProg.lean LOADS. Nothing in Lean hashes anything: it is a label: what it is worth is what the hold of that sum in a sandbox is worth. -/
noncomputable def Tryd.pinned : Pinned := { name := "ytefilhocfegfhaadoor", sum := "fb6d1e4e9fc653fd919b4b04279510f7f5227b0d4ca31c58688be902e62460bf", checked := Tryd.checked }
namespace Rows
def none {H : Type} : Left H := { results := [], args := [] }

/- WHAT THE LISTED PACKAGE-LEVEL VARIABLES READ AS WHEN THE CALL BEGINS. Each datum BY PROGRAM (the guide's laid-datum.mjs) off the statement by which the dump's own 'gosem.cut.vars' lays the variable. In a bare row this is a premise. The card (YtefilhocfegfhaaDoorCards.lean) ties it to the program's text. -/
def laid_pub_mailsack_pub_kmsg_inner_kbin_ErrNotEnoughData {H : Type} : DataW H := .iface "*errors.errorString" (.ptr (.agg [.lit (.string [114, 101, 115, 112, 111, 110, 115, 101, 32, 100, 105, 100, 32, 110, 111, 116, 32, 99, 111, 110, 116, 97, 105, 110, 32, 101, 110, 111, 117, 103, 104, 32, 100, 97, 116, 97, 32, 116, 111, 32, 98, 101, 32, 118, 97, 108, 105, 100])]))

/-- 'laws.FnUnsafeUpdateMetadataResponse': WHATEVER THE INPUT: true; the input reads as it did. -/
def fnUnsafeUpdateMetadataResponseSpec : ChangeSpec := { name := "fnUnsafeUpdateMetadataResponse", fn := fun _ => fun
  | [d1, d2] => { results := [.lit (.bool true)], args := [d1, d2] }
  | _ => none }
def fnUnsafeUpdateMetadataResponseRow : OpenClaim := { program := "ytefilhocfegfhaadoor", sum := "fb6d1e4e9fc653fd919b4b04279510f7f5227b0d4ca31c58688be902e62460bf", func := "pub-mailsack/laws.FnUnsafeUpdateMetadataResponse", spec := "fnUnsafeUpdateMetadataResponse", inPlace := ["internal/reflectlite.ValueOf", "internal/reflectlite.Swapper", "(internal/reflectlite.Value).Len"], unfollowed := true, recurses := true, named := ["encoding/binary.BigEndian", "pub-mailsack/pub/kmsg/inner/kbin.ErrNotEnoughData"], apart := false, laid := [("pub-mailsack/pub/kmsg/inner/kbin.ErrNotEnoughData", laid_pub_mailsack_pub_kmsg_inner_kbin_ErrNotEnoughData)] }
def FnUnsafeUpdateMetadataResponseSaid : Prop := fnUnsafeUpdateMetadataResponseRow.holds Tryd.pinned (OpenSpec.ofChange fnUnsafeUpdateMetadataResponseSpec)

/-- ITS FALSE NEIGHBOUR: 'it returns false'. Refute it at one input. -/
def fnUnsafeUpdateMetadataResponseWrong : ChangeSpec := { name := "fnUnsafeUpdateMetadataResponse", fn := fun _ => fun
  | [d1, d2] => { results := [.lit (.bool false)], args := [d1, d2] }
  | _ => none }
def FnUnsafeUpdateMetadataResponseWrongFalsely : Prop := fnUnsafeUpdateMetadataResponseRow.holds Tryd.pinned (OpenSpec.ofChange fnUnsafeUpdateMetadataResponseWrong)

/-- 'laws.FnUnsafeDefaultPrincipalData': WHATEVER THE INPUT: true; the input reads as it did. -/
def fnUnsafeDefaultPrincipalDataSpec : ChangeSpec := { name := "fnUnsafeDefaultPrincipalData", fn := fun _ => fun
  | [d] => { results := [.lit (.bool true)], args := [d] }
  | _ => none }
def fnUnsafeDefaultPrincipalDataRow : OpenClaim := { program := "ytefilhocfegfhaadoor", sum := "fb6d1e4e9fc653fd919b4b04279510f7f5227b0d4ca31c58688be902e62460bf", func := "pub-mailsack/laws.FnUnsafeDefaultPrincipalData", spec := "fnUnsafeDefaultPrincipalData", inPlace := ["internal/reflectlite.ValueOf", "internal/reflectlite.Swapper", "(internal/reflectlite.Value).Len"], unfollowed := true, recurses := true, named := ["encoding/binary.BigEndian", "pub-mailsack/pub/kmsg/inner/kbin.ErrNotEnoughData"], apart := false, laid := [("pub-mailsack/pub/kmsg/inner/kbin.ErrNotEnoughData", laid_pub_mailsack_pub_kmsg_inner_kbin_ErrNotEnoughData)] }
def FnUnsafeDefaultPrincipalDataSaid : Prop := fnUnsafeDefaultPrincipalDataRow.holds Tryd.pinned (OpenSpec.ofChange fnUnsafeDefaultPrincipalDataSpec)

/-- ITS FALSE NEIGHBOUR: 'it returns false'. Refute it at one input. -/
def fnUnsafeDefaultPrincipalDataWrong : ChangeSpec := { name := "fnUnsafeDefaultPrincipalData", fn := fun _ => fun
  | [d] => { results := [.lit (.bool false)], args := [d] }
  | _ => none }
def FnUnsafeDefaultPrincipalDataWrongFalsely : Prop := fnUnsafeDefaultPrincipalDataRow.holds Tryd.pinned (OpenSpec.ofChange fnUnsafeDefaultPrincipalDataWrong)

/-- 'laws.FnUnsafeWriteShareGroupStateResponse': WHATEVER THE INPUT: true; the input reads as it did. -/
def fnUnsafeWriteShareGroupStateResponseSpec : ChangeSpec := { name := "fnUnsafeWriteShareGroupStateResponse", fn := fun _ => fun
  | [d1, d2] => { results := [.lit (.bool true)], args := [d1, d2] }
  | _ => none }
def fnUnsafeWriteShareGroupStateResponseRow : OpenClaim := { program := "ytefilhocfegfhaadoor", sum := "fb6d1e4e9fc653fd919b4b04279510f7f5227b0d4ca31c58688be902e62460bf", func := "pub-mailsack/laws.FnUnsafeWriteShareGroupStateResponse", spec := "fnUnsafeWriteShareGroupStateResponse", inPlace := ["internal/reflectlite.ValueOf", "internal/reflectlite.Swapper", "(internal/reflectlite.Value).Len"], unfollowed := true, recurses := true, named := ["encoding/binary.BigEndian", "pub-mailsack/pub/kmsg/inner/kbin.ErrNotEnoughData"], apart := false, laid := [("pub-mailsack/pub/kmsg/inner/kbin.ErrNotEnoughData", laid_pub_mailsack_pub_kmsg_inner_kbin_ErrNotEnoughData)] }
def FnUnsafeWriteShareGroupStateResponseSaid : Prop := fnUnsafeWriteShareGroupStateResponseRow.holds Tryd.pinned (OpenSpec.ofChange fnUnsafeWriteShareGroupStateResponseSpec)

/-- ITS FALSE NEIGHBOUR: 'it returns false'. Refute it at one input. -/
def fnUnsafeWriteShareGroupStateResponseWrong : ChangeSpec := { name := "fnUnsafeWriteShareGroupStateResponse", fn := fun _ => fun
  | [d1, d2] => { results := [.lit (.bool false)], args := [d1, d2] }
  | _ => none }
def FnUnsafeWriteShareGroupStateResponseWrongFalsely : Prop := fnUnsafeWriteShareGroupStateResponseRow.holds Tryd.pinned (OpenSpec.ofChange fnUnsafeWriteShareGroupStateResponseWrong)

/-- 'laws.FnUnsafeAlterReplicaLogDirsRequest': WHATEVER THE INPUT: true; the input reads as it did. -/
def fnUnsafeAlterReplicaLogDirsRequestSpec : ChangeSpec := { name := "fnUnsafeAlterReplicaLogDirsRequest", fn := fun _ => fun
  | [d1, d2] => { results := [.lit (.bool true)], args := [d1, d2] }
  | _ => none }
def fnUnsafeAlterReplicaLogDirsRequestRow : OpenClaim := { program := "ytefilhocfegfhaadoor", sum := "fb6d1e4e9fc653fd919b4b04279510f7f5227b0d4ca31c58688be902e62460bf", func := "pub-mailsack/laws.FnUnsafeAlterReplicaLogDirsRequest", spec := "fnUnsafeAlterReplicaLogDirsRequest", inPlace := ["internal/reflectlite.ValueOf", "internal/reflectlite.Swapper", "(internal/reflectlite.Value).Len"], unfollowed := true, recurses := true, named := ["encoding/binary.BigEndian", "pub-mailsack/pub/kmsg/inner/kbin.ErrNotEnoughData"], apart := false, laid := [("pub-mailsack/pub/kmsg/inner/kbin.ErrNotEnoughData", laid_pub_mailsack_pub_kmsg_inner_kbin_ErrNotEnoughData)] }
def FnUnsafeAlterReplicaLogDirsRequestSaid : Prop := fnUnsafeAlterReplicaLogDirsRequestRow.holds Tryd.pinned (OpenSpec.ofChange fnUnsafeAlterReplicaLogDirsRequestSpec)

/-- ITS FALSE NEIGHBOUR: 'it returns false'. Refute it at one input. -/
def fnUnsafeAlterReplicaLogDirsRequestWrong : ChangeSpec := { name := "fnUnsafeAlterReplicaLogDirsRequest", fn := fun _ => fun
  | [d1, d2] => { results := [.lit (.bool false)], args := [d1, d2] }
  | _ => none }
def FnUnsafeAlterReplicaLogDirsRequestWrongFalsely : Prop := fnUnsafeAlterReplicaLogDirsRequestRow.holds Tryd.pinned (OpenSpec.ofChange fnUnsafeAlterReplicaLogDirsRequestWrong)

/-- 'laws.FnUnsafeListOffsetsRequest': WHATEVER THE INPUT: true; the input reads as it did. -/
def fnUnsafeListOffsetsRequestSpec : ChangeSpec := { name := "fnUnsafeListOffsetsRequest", fn := fun _ => fun
  | [d1, d2] => { results := [.lit (.bool true)], args := [d1, d2] }
  | _ => none }
def fnUnsafeListOffsetsRequestRow : OpenClaim := { program := "ytefilhocfegfhaadoor", sum := "fb6d1e4e9fc653fd919b4b04279510f7f5227b0d4ca31c58688be902e62460bf", func := "pub-mailsack/laws.FnUnsafeListOffsetsRequest", spec := "fnUnsafeListOffsetsRequest", inPlace := ["internal/reflectlite.ValueOf", "internal/reflectlite.Swapper", "(internal/reflectlite.Value).Len"], unfollowed := true, recurses := true, named := ["encoding/binary.BigEndian", "pub-mailsack/pub/kmsg/inner/kbin.ErrNotEnoughData"], apart := false, laid := [("pub-mailsack/pub/kmsg/inner/kbin.ErrNotEnoughData", laid_pub_mailsack_pub_kmsg_inner_kbin_ErrNotEnoughData)] }
def FnUnsafeListOffsetsRequestSaid : Prop := fnUnsafeListOffsetsRequestRow.holds Tryd.pinned (OpenSpec.ofChange fnUnsafeListOffsetsRequestSpec)

/-- ITS FALSE NEIGHBOUR: 'it returns false'. Refute it at one input. -/
def fnUnsafeListOffsetsRequestWrong : ChangeSpec := { name := "fnUnsafeListOffsetsRequest", fn := fun _ => fun
  | [d1, d2] => { results := [.lit (.bool false)], args := [d1, d2] }
  | _ => none }
def FnUnsafeListOffsetsRequestWrongFalsely : Prop := fnUnsafeListOffsetsRequestRow.holds Tryd.pinned (OpenSpec.ofChange fnUnsafeListOffsetsRequestWrong)

/-- 'laws.FnUnsafeAlterShareGroupOffsetsResponse': WHATEVER THE INPUT: true; the input reads as it did. -/
def fnUnsafeAlterShareGroupOffsetsResponseSpec : ChangeSpec := { name := "fnUnsafeAlterShareGroupOffsetsResponse", fn := fun _ => fun
  | [d1, d2] => { results := [.lit (.bool true)], args := [d1, d2] }
  | _ => none }
def fnUnsafeAlterShareGroupOffsetsResponseRow : OpenClaim := { program := "ytefilhocfegfhaadoor", sum := "fb6d1e4e9fc653fd919b4b04279510f7f5227b0d4ca31c58688be902e62460bf", func := "pub-mailsack/laws.FnUnsafeAlterShareGroupOffsetsResponse", spec := "fnUnsafeAlterShareGroupOffsetsResponse", inPlace := ["internal/reflectlite.ValueOf", "internal/reflectlite.Swapper", "(internal/reflectlite.Value).Len"], unfollowed := true, recurses := true, named := ["encoding/binary.BigEndian", "pub-mailsack/pub/kmsg/inner/kbin.ErrNotEnoughData"], apart := false, laid := [("pub-mailsack/pub/kmsg/inner/kbin.ErrNotEnoughData", laid_pub_mailsack_pub_kmsg_inner_kbin_ErrNotEnoughData)] }
def FnUnsafeAlterShareGroupOffsetsResponseSaid : Prop := fnUnsafeAlterShareGroupOffsetsResponseRow.holds Tryd.pinned (OpenSpec.ofChange fnUnsafeAlterShareGroupOffsetsResponseSpec)

/-- ITS FALSE NEIGHBOUR: 'it returns false'. Refute it at one input. -/
def fnUnsafeAlterShareGroupOffsetsResponseWrong : ChangeSpec := { name := "fnUnsafeAlterShareGroupOffsetsResponse", fn := fun _ => fun
  | [d1, d2] => { results := [.lit (.bool false)], args := [d1, d2] }
  | _ => none }
def FnUnsafeAlterShareGroupOffsetsResponseWrongFalsely : Prop := fnUnsafeAlterShareGroupOffsetsResponseRow.holds Tryd.pinned (OpenSpec.ofChange fnUnsafeAlterShareGroupOffsetsResponseWrong)

/-- 'laws.FnUnsafeJoinGroupResponse': WHATEVER THE INPUT: true; the input reads as it did. -/
def fnUnsafeJoinGroupResponseSpec : ChangeSpec := { name := "fnUnsafeJoinGroupResponse", fn := fun _ => fun
  | [d1, d2] => { results := [.lit (.bool true)], args := [d1, d2] }
  | _ => none }
def fnUnsafeJoinGroupResponseRow : OpenClaim := { program := "ytefilhocfegfhaadoor", sum := "fb6d1e4e9fc653fd919b4b04279510f7f5227b0d4ca31c58688be902e62460bf", func := "pub-mailsack/laws.FnUnsafeJoinGroupResponse", spec := "fnUnsafeJoinGroupResponse", inPlace := ["internal/reflectlite.ValueOf", "internal/reflectlite.Swapper", "(internal/reflectlite.Value).Len"], unfollowed := true, recurses := true, named := ["encoding/binary.BigEndian", "pub-mailsack/pub/kmsg/inner/kbin.ErrNotEnoughData"], apart := false, laid := [("pub-mailsack/pub/kmsg/inner/kbin.ErrNotEnoughData", laid_pub_mailsack_pub_kmsg_inner_kbin_ErrNotEnoughData)] }
def FnUnsafeJoinGroupResponseSaid : Prop := fnUnsafeJoinGroupResponseRow.holds Tryd.pinned (OpenSpec.ofChange fnUnsafeJoinGroupResponseSpec)

/-- ITS FALSE NEIGHBOUR: 'it returns false'. Refute it at one input. -/
def fnUnsafeJoinGroupResponseWrong : ChangeSpec := { name := "fnUnsafeJoinGroupResponse", fn := fun _ => fun
  | [d1, d2] => { results := [.lit (.bool false)], args := [d1, d2] }
  | _ => none }
def FnUnsafeJoinGroupResponseWrongFalsely : Prop := fnUnsafeJoinGroupResponseRow.holds Tryd.pinned (OpenSpec.ofChange fnUnsafeJoinGroupResponseWrong)

/- THE SECOND FORM. 'bulk': how many values and letters a reading holds, each counted each time it is reached (what is shared counts as often as it is met; a slice's spare places count too). A statement '..UptoSaid' is the law's where the arguments, and the package variables that the reading takes, are together of bulk at most 1048576: NARROWER than '..Said'. Prove '..Said' where nothing that the law and all that it calls make is longer than what came in: it says more and counts as full. Else prove '..UptoSaid'. A law counts once. -/
mutual
def uptoBulk {H : Type} : DataW H → Nat
  | .lit (.string bytes) => bytes.length + 1
  | .lit _ => 1
  | .nil => 1
  | .ptr d => uptoBulk d + 1
  | .slice elems spare => uptoBulkAll elems + uptoBulkAll spare + 1
  | .agg parts => uptoBulkAll parts + 1
  | .iface _ d => uptoBulk d + 1
  | .map entries => uptoBulkEntries entries + 1
  | .held _ => 1
def uptoBulkAll {H : Type} : List (DataW H) → Nat
  | [] => 0
  | d :: r => uptoBulk d + uptoBulkAll r
def uptoBulkEntries {H : Type} : List (Lit × DataW H) → Nat
  | [] => 0
  | x :: r => uptoBulkEntry x + uptoBulkEntries r
def uptoBulkEntry {H : Type} : Lit × DataW H → Nat
  | (.string bytes, d) => bytes.length + uptoBulk d + 1
  | (_, d) => uptoBulk d + 1
 end
def uptoSmall : (H : Type) → List (DataW H) → Bool := fun _ ds => decide (uptoBulkAll ds ≤ 1048576)
def OpenSpec.upto (s : _root_.Go.ChangeSpec) : _root_.Go.OpenSpec := { _root_.Go.OpenSpec.ofChange s with cond := some uptoSmall }

/-- 'laws.FnUnsafeUpdateMetadataResponse', WHERE WHAT IT READS IS OF BULK AT MOST 1048576: true; the input reads as it did. -/
def fnUnsafeUpdateMetadataResponseUptoRow : OpenClaim := { program := "ytefilhocfegfhaadoor", sum := "fb6d1e4e9fc653fd919b4b04279510f7f5227b0d4ca31c58688be902e62460bf", func := "pub-mailsack/laws.FnUnsafeUpdateMetadataResponse", spec := "fnUnsafeUpdateMetadataResponse", inPlace := ["internal/reflectlite.ValueOf", "internal/reflectlite.Swapper", "(internal/reflectlite.Value).Len"], unfollowed := true, recurses := true, named := ["encoding/binary.BigEndian", "pub-mailsack/pub/kmsg/inner/kbin.ErrNotEnoughData"], apart := false, laid := [("pub-mailsack/pub/kmsg/inner/kbin.ErrNotEnoughData", laid_pub_mailsack_pub_kmsg_inner_kbin_ErrNotEnoughData)], narrowed := true }
def FnUnsafeUpdateMetadataResponseUptoSaid : Prop := fnUnsafeUpdateMetadataResponseUptoRow.holds Tryd.pinned (OpenSpec.upto fnUnsafeUpdateMetadataResponseSpec)

/-- 'laws.FnUnsafeDefaultPrincipalData', WHERE WHAT IT READS IS OF BULK AT MOST 1048576: true; the input reads as it did. -/
def fnUnsafeDefaultPrincipalDataUptoRow : OpenClaim := { program := "ytefilhocfegfhaadoor", sum := "fb6d1e4e9fc653fd919b4b04279510f7f5227b0d4ca31c58688be902e62460bf", func := "pub-mailsack/laws.FnUnsafeDefaultPrincipalData", spec := "fnUnsafeDefaultPrincipalData", inPlace := ["internal/reflectlite.ValueOf", "internal/reflectlite.Swapper", "(internal/reflectlite.Value).Len"], unfollowed := true, recurses := true, named := ["encoding/binary.BigEndian", "pub-mailsack/pub/kmsg/inner/kbin.ErrNotEnoughData"], apart := false, laid := [("pub-mailsack/pub/kmsg/inner/kbin.ErrNotEnoughData", laid_pub_mailsack_pub_kmsg_inner_kbin_ErrNotEnoughData)], narrowed := true }
def FnUnsafeDefaultPrincipalDataUptoSaid : Prop := fnUnsafeDefaultPrincipalDataUptoRow.holds Tryd.pinned (OpenSpec.upto fnUnsafeDefaultPrincipalDataSpec)

/-- 'laws.FnUnsafeWriteShareGroupStateResponse', WHERE WHAT IT READS IS OF BULK AT MOST 1048576: true; the input reads as it did. -/
def fnUnsafeWriteShareGroupStateResponseUptoRow : OpenClaim := { program := "ytefilhocfegfhaadoor", sum := "fb6d1e4e9fc653fd919b4b04279510f7f5227b0d4ca31c58688be902e62460bf", func := "pub-mailsack/laws.FnUnsafeWriteShareGroupStateResponse", spec := "fnUnsafeWriteShareGroupStateResponse", inPlace := ["internal/reflectlite.ValueOf", "internal/reflectlite.Swapper", "(internal/reflectlite.Value).Len"], unfollowed := true, recurses := true, named := ["encoding/binary.BigEndian", "pub-mailsack/pub/kmsg/inner/kbin.ErrNotEnoughData"], apart := false, laid := [("pub-mailsack/pub/kmsg/inner/kbin.ErrNotEnoughData", laid_pub_mailsack_pub_kmsg_inner_kbin_ErrNotEnoughData)], narrowed := true }
def FnUnsafeWriteShareGroupStateResponseUptoSaid : Prop := fnUnsafeWriteShareGroupStateResponseUptoRow.holds Tryd.pinned (OpenSpec.upto fnUnsafeWriteShareGroupStateResponseSpec)

/-- 'laws.FnUnsafeAlterReplicaLogDirsRequest', WHERE WHAT IT READS IS OF BULK AT MOST 1048576: true; the input reads as it did. -/
def fnUnsafeAlterReplicaLogDirsRequestUptoRow : OpenClaim := { program := "ytefilhocfegfhaadoor", sum := "fb6d1e4e9fc653fd919b4b04279510f7f5227b0d4ca31c58688be902e62460bf", func := "pub-mailsack/laws.FnUnsafeAlterReplicaLogDirsRequest", spec := "fnUnsafeAlterReplicaLogDirsRequest", inPlace := ["internal/reflectlite.ValueOf", "internal/reflectlite.Swapper", "(internal/reflectlite.Value).Len"], unfollowed := true, recurses := true, named := ["encoding/binary.BigEndian", "pub-mailsack/pub/kmsg/inner/kbin.ErrNotEnoughData"], apart := false, laid := [("pub-mailsack/pub/kmsg/inner/kbin.ErrNotEnoughData", laid_pub_mailsack_pub_kmsg_inner_kbin_ErrNotEnoughData)], narrowed := true }
def FnUnsafeAlterReplicaLogDirsRequestUptoSaid : Prop := fnUnsafeAlterReplicaLogDirsRequestUptoRow.holds Tryd.pinned (OpenSpec.upto fnUnsafeAlterReplicaLogDirsRequestSpec)

/-- 'laws.FnUnsafeListOffsetsRequest', WHERE WHAT IT READS IS OF BULK AT MOST 1048576: true; the input reads as it did. -/
def fnUnsafeListOffsetsRequestUptoRow : OpenClaim := { program := "ytefilhocfegfhaadoor", sum := "fb6d1e4e9fc653fd919b4b04279510f7f5227b0d4ca31c58688be902e62460bf", func := "pub-mailsack/laws.FnUnsafeListOffsetsRequest", spec := "fnUnsafeListOffsetsRequest", inPlace := ["internal/reflectlite.ValueOf", "internal/reflectlite.Swapper", "(internal/reflectlite.Value).Len"], unfollowed := true, recurses := true, named := ["encoding/binary.BigEndian", "pub-mailsack/pub/kmsg/inner/kbin.ErrNotEnoughData"], apart := false, laid := [("pub-mailsack/pub/kmsg/inner/kbin.ErrNotEnoughData", laid_pub_mailsack_pub_kmsg_inner_kbin_ErrNotEnoughData)], narrowed := true }
def FnUnsafeListOffsetsRequestUptoSaid : Prop := fnUnsafeListOffsetsRequestUptoRow.holds Tryd.pinned (OpenSpec.upto fnUnsafeListOffsetsRequestSpec)

/-- 'laws.FnUnsafeAlterShareGroupOffsetsResponse', WHERE WHAT IT READS IS OF BULK AT MOST 1048576: true; the input reads as it did. -/
def fnUnsafeAlterShareGroupOffsetsResponseUptoRow : OpenClaim := { program := "ytefilhocfegfhaadoor", sum := "fb6d1e4e9fc653fd919b4b04279510f7f5227b0d4ca31c58688be902e62460bf", func := "pub-mailsack/laws.FnUnsafeAlterShareGroupOffsetsResponse", spec := "fnUnsafeAlterShareGroupOffsetsResponse", inPlace := ["internal/reflectlite.ValueOf", "internal/reflectlite.Swapper", "(internal/reflectlite.Value).Len"], unfollowed := true, recurses := true, named := ["encoding/binary.BigEndian", "pub-mailsack/pub/kmsg/inner/kbin.ErrNotEnoughData"], apart := false, laid := [("pub-mailsack/pub/kmsg/inner/kbin.ErrNotEnoughData", laid_pub_mailsack_pub_kmsg_inner_kbin_ErrNotEnoughData)], narrowed := true }
def FnUnsafeAlterShareGroupOffsetsResponseUptoSaid : Prop := fnUnsafeAlterShareGroupOffsetsResponseUptoRow.holds Tryd.pinned (OpenSpec.upto fnUnsafeAlterShareGroupOffsetsResponseSpec)

/-- 'laws.FnUnsafeJoinGroupResponse', WHERE WHAT IT READS IS OF BULK AT MOST 1048576: true; the input reads as it did. -/
def fnUnsafeJoinGroupResponseUptoRow : OpenClaim := { program := "ytefilhocfegfhaadoor", sum := "fb6d1e4e9fc653fd919b4b04279510f7f5227b0d4ca31c58688be902e62460bf", func := "pub-mailsack/laws.FnUnsafeJoinGroupResponse", spec := "fnUnsafeJoinGroupResponse", inPlace := ["internal/reflectlite.ValueOf", "internal/reflectlite.Swapper", "(internal/reflectlite.Value).Len"], unfollowed := true, recurses := true, named := ["encoding/binary.BigEndian", "pub-mailsack/pub/kmsg/inner/kbin.ErrNotEnoughData"], apart := false, laid := [("pub-mailsack/pub/kmsg/inner/kbin.ErrNotEnoughData", laid_pub_mailsack_pub_kmsg_inner_kbin_ErrNotEnoughData)], narrowed := true }
def FnUnsafeJoinGroupResponseUptoSaid : Prop := fnUnsafeJoinGroupResponseUptoRow.holds Tryd.pinned (OpenSpec.upto fnUnsafeJoinGroupResponseSpec)

end Rows
end Go.Proofs.YtefilhocfegfhaaDoor
