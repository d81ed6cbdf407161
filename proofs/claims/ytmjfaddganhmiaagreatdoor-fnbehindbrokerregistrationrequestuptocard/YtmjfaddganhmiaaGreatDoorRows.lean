/-
  NARROWER THAN 'FOR EVERY INPUT', by the rows' own cells (each row's printed sentence says how): FnBehindUnregisterBrokerResponse: loops, laid · FnBehindStreamsGroupTopologyDescriptionUpdateResponse: loops, laid · FnBehindApiVersionsRequest: loops, laid · FnBehindReadShareGroupStateRequest: loops, laid · FnBehindInitializeShareGroupStateRequest: loops, laid · FnBehindReadShareGroupStateSummaryResponse: loops, laid · FnBehindAlterPartitionAssignmentsResponse: loops, laid · FnBehindFindCoordinatorResponse: loops, laid · FnBehindDescribeClusterResponse: loops, laid · FnBehindVoteRequest: loops, laid · FnBehindBrokerRegistrationRequest: loops, laid · FnBehindDescribeGroupsResponse: loops, laid.
  DERIVED. THE GIVEN ROWS OF THIS SEAT. 12 by the template 'for every input the law returns true; each argument reads behind the call as it read before'; 0 by the template 'total and deterministic' (their statements: YtmjfaddganhmiaaGreatDoorTotals.lean).
  GIVEN WITH THE SEED: the statements are not yours to turn. If you find one false, say at which input.
  Laid BY PROGRAM, IN A SANDBOX (cutbox-rows.mjs): the forced cells as the released guide's own fill.sh prints them over the translation 6617613922f8c4e7… (all of the seat's roots in one cut). By AI agents, Wed Nov 11 2026. No macro, syntax, notation, axiom, sorry.
-/
import Derived.Test.YtmjfaddganhmiaaGreatDoorChecked
import GoSem.Claim
import GoSem.ClaimJoined
import GoSem.ClaimMapViews
import Derived.JoinedTies
import Derived.KernelRfl
namespace Go.Proofs.YtmjfaddganhmiaaGreatDoor
/- THE CELL 'sum', in the pinned program and in every row, IS THE sha256 OF THE DUMP (.gsa) THAT YtmjfaddganhmiaaGreatDoorProg.lean LOADS. Nothing in Lean hashes anything: it is a label: what it is worth is what the hold of that sum in a sandbox is worth. -/
noncomputable def Tryz.pinned : Pinned := { name := "ytmjfaddganhmiaagreatdoor", sum := "6617613922f8c4e75d146e3b6c0056e67f4dff4bf0c431359dafa47a5a1557a2", checked := Tryz.checked }
namespace Rows
def none {H : Type} : Left H := { results := [], args := [] }

/- WHAT THE LISTED PACKAGE-LEVEL VARIABLES READ AS WHEN THE CALL BEGINS. Each datum BY PROGRAM (the guide's laid-datum.mjs) off the statement by which the dump's own 'gosem.cut.vars' lays the variable. In a bare row this is a premise. The card (YtmjfaddganhmiaaGreatDoorCards.lean) ties it to the program's text. -/
def laid_pub_mailsack_pub_kmsg_inner_kbin_ErrNotEnoughData {H : Type} : DataW H := .iface "*errors.errorString" (.ptr (.agg [.lit (.string [114, 101, 115, 112, 111, 110, 115, 101, 32, 100, 105, 100, 32, 110, 111, 116, 32, 99, 111, 110, 116, 97, 105, 110, 32, 101, 110, 111, 117, 103, 104, 32, 100, 97, 116, 97, 32, 116, 111, 32, 98, 101, 32, 118, 97, 108, 105, 100])]))

/-- 'laws.FnBehindUnregisterBrokerResponse': WHATEVER THE INPUT: true; the input reads as it did. -/
def fnBehindUnregisterBrokerResponseSpec : ChangeSpec := { name := "fnBehindUnregisterBrokerResponse", fn := fun _ => fun
  | [d1, d2, d3] => { results := [.lit (.bool true)], args := [d1, d2, d3] }
  | _ => none }
def fnBehindUnregisterBrokerResponseRow : OpenClaim := { program := "ytmjfaddganhmiaagreatdoor", sum := "6617613922f8c4e75d146e3b6c0056e67f4dff4bf0c431359dafa47a5a1557a2", func := "pub-mailsack/laws.FnBehindUnregisterBrokerResponse", spec := "fnBehindUnregisterBrokerResponse", inPlace := ["internal/reflectlite.ValueOf", "internal/reflectlite.Swapper", "(internal/reflectlite.Value).Len"], unfollowed := true, recurses := true, named := ["encoding/binary.BigEndian", "pub-mailsack/pub/kmsg/inner/kbin.ErrNotEnoughData"], loops := true, apart := false, laid := [("pub-mailsack/pub/kmsg/inner/kbin.ErrNotEnoughData", laid_pub_mailsack_pub_kmsg_inner_kbin_ErrNotEnoughData)] }
def FnBehindUnregisterBrokerResponseSaid : Prop := fnBehindUnregisterBrokerResponseRow.holds Tryz.pinned (OpenSpec.ofChange fnBehindUnregisterBrokerResponseSpec)

/-- ITS FALSE NEIGHBOUR: 'it returns false'. Refute it at one input. -/
def fnBehindUnregisterBrokerResponseWrong : ChangeSpec := { name := "fnBehindUnregisterBrokerResponse", fn := fun _ => fun
  | [d1, d2, d3] => { results := [.lit (.bool false)], args := [d1, d2, d3] }
  | _ => none }
def FnBehindUnregisterBrokerResponseWrongFalsely : Prop := fnBehindUnregisterBrokerResponseRow.holds Tryz.pinned (OpenSpec.ofChange fnBehindUnregisterBrokerResponseWrong)

/-- 'laws.FnBehindStreamsGroupTopologyDescriptionUpdateResponse': WHATEVER THE INPUT: true; the input reads as it did. -/
def fnBehindStreamsGroupTopologyDescriptionUpdateResponseSpec : ChangeSpec := { name := "fnBehindStreamsGroupTopologyDescriptionUpdateResponse", fn := fun _ => fun
  | [d1, d2, d3] => { results := [.lit (.bool true)], args := [d1, d2, d3] }
  | _ => none }
def fnBehindStreamsGroupTopologyDescriptionUpdateResponseRow : OpenClaim := { program := "ytmjfaddganhmiaagreatdoor", sum := "6617613922f8c4e75d146e3b6c0056e67f4dff4bf0c431359dafa47a5a1557a2", func := "pub-mailsack/laws.FnBehindStreamsGroupTopologyDescriptionUpdateResponse", spec := "fnBehindStreamsGroupTopologyDescriptionUpdateResponse", inPlace := ["internal/reflectlite.ValueOf", "internal/reflectlite.Swapper", "(internal/reflectlite.Value).Len"], unfollowed := true, recurses := true, named := ["encoding/binary.BigEndian", "pub-mailsack/pub/kmsg/inner/kbin.ErrNotEnoughData"], loops := true, apart := false, laid := [("pub-mailsack/pub/kmsg/inner/kbin.ErrNotEnoughData", laid_pub_mailsack_pub_kmsg_inner_kbin_ErrNotEnoughData)] }
def FnBehindStreamsGroupTopologyDescriptionUpdateResponseSaid : Prop := fnBehindStreamsGroupTopologyDescriptionUpdateResponseRow.holds Tryz.pinned (OpenSpec.ofChange fnBehindStreamsGroupTopologyDescriptionUpdateResponseSpec)

/-- ITS FALSE NEIGHBOUR: 'it returns false'. Refute it at one input. -/
def fnBehindStreamsGroupTopologyDescriptionUpdateResponseWrong : ChangeSpec := { name := "fnBehindStreamsGroupTopologyDescriptionUpdateResponse", fn := fun _ => fun
  | [d1, d2, d3] => { results := [.lit (.bool false)], args := [d1, d2, d3] }
  | _ => none }
def FnBehindStreamsGroupTopologyDescriptionUpdateResponseWrongFalsely : Prop := fnBehindStreamsGroupTopologyDescriptionUpdateResponseRow.holds Tryz.pinned (OpenSpec.ofChange fnBehindStreamsGroupTopologyDescriptionUpdateResponseWrong)

/-- 'laws.FnBehindApiVersionsRequest': WHATEVER THE INPUT: true; the input reads as it did. -/
def fnBehindApiVersionsRequestSpec : ChangeSpec := { name := "fnBehindApiVersionsRequest", fn := fun _ => fun
  | [d1, d2, d3] => { results := [.lit (.bool true)], args := [d1, d2, d3] }
  | _ => none }
def fnBehindApiVersionsRequestRow : OpenClaim := { program := "ytmjfaddganhmiaagreatdoor", sum := "6617613922f8c4e75d146e3b6c0056e67f4dff4bf0c431359dafa47a5a1557a2", func := "pub-mailsack/laws.FnBehindApiVersionsRequest", spec := "fnBehindApiVersionsRequest", inPlace := ["internal/reflectlite.ValueOf", "internal/reflectlite.Swapper", "(internal/reflectlite.Value).Len"], unfollowed := true, recurses := true, named := ["encoding/binary.BigEndian", "pub-mailsack/pub/kmsg/inner/kbin.ErrNotEnoughData"], loops := true, apart := false, laid := [("pub-mailsack/pub/kmsg/inner/kbin.ErrNotEnoughData", laid_pub_mailsack_pub_kmsg_inner_kbin_ErrNotEnoughData)] }
def FnBehindApiVersionsRequestSaid : Prop := fnBehindApiVersionsRequestRow.holds Tryz.pinned (OpenSpec.ofChange fnBehindApiVersionsRequestSpec)

/-- ITS FALSE NEIGHBOUR: 'it returns false'. Refute it at one input. -/
def fnBehindApiVersionsRequestWrong : ChangeSpec := { name := "fnBehindApiVersionsRequest", fn := fun _ => fun
  | [d1, d2, d3] => { results := [.lit (.bool false)], args := [d1, d2, d3] }
  | _ => none }
def FnBehindApiVersionsRequestWrongFalsely : Prop := fnBehindApiVersionsRequestRow.holds Tryz.pinned (OpenSpec.ofChange fnBehindApiVersionsRequestWrong)

/-- 'laws.FnBehindReadShareGroupStateRequest': WHATEVER THE INPUT: true; the input reads as it did. -/
def fnBehindReadShareGroupStateRequestSpec : ChangeSpec := { name := "fnBehindReadShareGroupStateRequest", fn := fun _ => fun
  | [d1, d2, d3] => { results := [.lit (.bool true)], args := [d1, d2, d3] }
  | _ => none }
def fnBehindReadShareGroupStateRequestRow : OpenClaim := { program := "ytmjfaddganhmiaagreatdoor", sum := "6617613922f8c4e75d146e3b6c0056e67f4dff4bf0c431359dafa47a5a1557a2", func := "pub-mailsack/laws.FnBehindReadShareGroupStateRequest", spec := "fnBehindReadShareGroupStateRequest", inPlace := ["internal/reflectlite.ValueOf", "internal/reflectlite.Swapper", "(internal/reflectlite.Value).Len"], unfollowed := true, recurses := true, named := ["encoding/binary.BigEndian", "pub-mailsack/pub/kmsg/inner/kbin.ErrNotEnoughData"], loops := true, apart := false, laid := [("pub-mailsack/pub/kmsg/inner/kbin.ErrNotEnoughData", laid_pub_mailsack_pub_kmsg_inner_kbin_ErrNotEnoughData)] }
def FnBehindReadShareGroupStateRequestSaid : Prop := fnBehindReadShareGroupStateRequestRow.holds Tryz.pinned (OpenSpec.ofChange fnBehindReadShareGroupStateRequestSpec)

/-- ITS FALSE NEIGHBOUR: 'it returns false'. Refute it at one input. -/
def fnBehindReadShareGroupStateRequestWrong : ChangeSpec := { name := "fnBehindReadShareGroupStateRequest", fn := fun _ => fun
  | [d1, d2, d3] => { results := [.lit (.bool false)], args := [d1, d2, d3] }
  | _ => none }
def FnBehindReadShareGroupStateRequestWrongFalsely : Prop := fnBehindReadShareGroupStateRequestRow.holds Tryz.pinned (OpenSpec.ofChange fnBehindReadShareGroupStateRequestWrong)

/-- 'laws.FnBehindInitializeShareGroupStateRequest': WHATEVER THE INPUT: true; the input reads as it did. -/
def fnBehindInitializeShareGroupStateRequestSpec : ChangeSpec := { name := "fnBehindInitializeShareGroupStateRequest", fn := fun _ => fun
  | [d1, d2, d3] => { results := [.lit (.bool true)], args := [d1, d2, d3] }
  | _ => none }
def fnBehindInitializeShareGroupStateRequestRow : OpenClaim := { program := "ytmjfaddganhmiaagreatdoor", sum := "6617613922f8c4e75d146e3b6c0056e67f4dff4bf0c431359dafa47a5a1557a2", func := "pub-mailsack/laws.FnBehindInitializeShareGroupStateRequest", spec := "fnBehindInitializeShareGroupStateRequest", inPlace := ["internal/reflectlite.ValueOf", "internal/reflectlite.Swapper", "(internal/reflectlite.Value).Len"], unfollowed := true, recurses := true, named := ["encoding/binary.BigEndian", "pub-mailsack/pub/kmsg/inner/kbin.ErrNotEnoughData"], loops := true, apart := false, laid := [("pub-mailsack/pub/kmsg/inner/kbin.ErrNotEnoughData", laid_pub_mailsack_pub_kmsg_inner_kbin_ErrNotEnoughData)] }
def FnBehindInitializeShareGroupStateRequestSaid : Prop := fnBehindInitializeShareGroupStateRequestRow.holds Tryz.pinned (OpenSpec.ofChange fnBehindInitializeShareGroupStateRequestSpec)

/-- ITS FALSE NEIGHBOUR: 'it returns false'. Refute it at one input. -/
def fnBehindInitializeShareGroupStateRequestWrong : ChangeSpec := { name := "fnBehindInitializeShareGroupStateRequest", fn := fun _ => fun
  | [d1, d2, d3] => { results := [.lit (.bool false)], args := [d1, d2, d3] }
  | _ => none }
def FnBehindInitializeShareGroupStateRequestWrongFalsely : Prop := fnBehindInitializeShareGroupStateRequestRow.holds Tryz.pinned (OpenSpec.ofChange fnBehindInitializeShareGroupStateRequestWrong)

/-- 'laws.FnBehindReadShareGroupStateSummaryResponse': WHATEVER THE INPUT: true; the input reads as it did. -/
def fnBehindReadShareGroupStateSummaryResponseSpec : ChangeSpec := { name := "fnBehindReadShareGroupStateSummaryResponse", fn := fun _ => fun
  | [d1, d2, d3] => { results := [.lit (.bool true)], args := [d1, d2, d3] }
  | _ => none }
def fnBehindReadShareGroupStateSummaryResponseRow : OpenClaim := { program := "ytmjfaddganhmiaagreatdoor", sum := "6617613922f8c4e75d146e3b6c0056e67f4dff4bf0c431359dafa47a5a1557a2", func := "pub-mailsack/laws.FnBehindReadShareGroupStateSummaryResponse", spec := "fnBehindReadShareGroupStateSummaryResponse", inPlace := ["internal/reflectlite.ValueOf", "internal/reflectlite.Swapper", "(internal/reflectlite.Value).Len"], unfollowed := true, recurses := true, named := ["encoding/binary.BigEndian", "pub-mailsack/pub/kmsg/inner/kbin.ErrNotEnoughData"], loops := true, apart := false, laid := [("pub-mailsack/pub/kmsg/inner/kbin.ErrNotEnoughData", laid_pub_mailsack_pub_kmsg_inner_kbin_ErrNotEnoughData)] }
def FnBehindReadShareGroupStateSummaryResponseSaid : Prop := fnBehindReadShareGroupStateSummaryResponseRow.holds Tryz.pinned (OpenSpec.ofChange fnBehindReadShareGroupStateSummaryResponseSpec)

/-- ITS FALSE NEIGHBOUR: 'it returns false'. Refute it at one input. -/
def fnBehindReadShareGroupStateSummaryResponseWrong : ChangeSpec := { name := "fnBehindReadShareGroupStateSummaryResponse", fn := fun _ => fun
  | [d1, d2, d3] => { results := [.lit (.bool false)], args := [d1, d2, d3] }
  | _ => none }
def FnBehindReadShareGroupStateSummaryResponseWrongFalsely : Prop := fnBehindReadShareGroupStateSummaryResponseRow.holds Tryz.pinned (OpenSpec.ofChange fnBehindReadShareGroupStateSummaryResponseWrong)

/-- 'laws.FnBehindAlterPartitionAssignmentsResponse': WHATEVER THE INPUT: true; the input reads as it did. -/
def fnBehindAlterPartitionAssignmentsResponseSpec : ChangeSpec := { name := "fnBehindAlterPartitionAssignmentsResponse", fn := fun _ => fun
  | [d1, d2, d3] => { results := [.lit (.bool true)], args := [d1, d2, d3] }
  | _ => none }
def fnBehindAlterPartitionAssignmentsResponseRow : OpenClaim := { program := "ytmjfaddganhmiaagreatdoor", sum := "6617613922f8c4e75d146e3b6c0056e67f4dff4bf0c431359dafa47a5a1557a2", func := "pub-mailsack/laws.FnBehindAlterPartitionAssignmentsResponse", spec := "fnBehindAlterPartitionAssignmentsResponse", inPlace := ["internal/reflectlite.ValueOf", "internal/reflectlite.Swapper", "(internal/reflectlite.Value).Len"], unfollowed := true, recurses := true, named := ["encoding/binary.BigEndian", "pub-mailsack/pub/kmsg/inner/kbin.ErrNotEnoughData"], loops := true, apart := false, laid := [("pub-mailsack/pub/kmsg/inner/kbin.ErrNotEnoughData", laid_pub_mailsack_pub_kmsg_inner_kbin_ErrNotEnoughData)] }
def FnBehindAlterPartitionAssignmentsResponseSaid : Prop := fnBehindAlterPartitionAssignmentsResponseRow.holds Tryz.pinned (OpenSpec.ofChange fnBehindAlterPartitionAssignmentsResponseSpec)

/-- ITS FALSE NEIGHBOUR: 'it returns false'. Refute it at one input. -/
def fnBehindAlterPartitionAssignmentsResponseWrong : ChangeSpec := { name := "fnBehindAlterPartitionAssignmentsResponse", fn := fun _ => fun
  | [d1, d2, d3] => { results := [.lit (.bool false)], args := [d1, d2, d3] }
  | _ => none }
def FnBehindAlterPartitionAssignmentsResponseWrongFalsely : Prop := fnBehindAlterPartitionAssignmentsResponseRow.holds Tryz.pinned (OpenSpec.ofChange fnBehindAlterPartitionAssignmentsResponseWrong)

/-- 'laws.FnBehindFindCoordinatorResponse': WHATEVER THE INPUT: true; the input reads as it did. -/
def fnBehindFindCoordinatorResponseSpec : ChangeSpec := { name := "fnBehindFindCoordinatorResponse", fn := fun _ => fun
  | [d1, d2, d3] => { results := [.lit (.bool true)], args := [d1, d2, d3] }
  | _ => none }
def fnBehindFindCoordinatorResponseRow : OpenClaim := { program := "ytmjfaddganhmiaagreatdoor", sum := "6617613922f8c4e75d146e3b6c0056e67f4dff4bf0c431359dafa47a5a1557a2", func := "pub-mailsack/laws.FnBehindFindCoordinatorResponse", spec := "fnBehindFindCoordinatorResponse", inPlace := ["internal/reflectlite.ValueOf", "internal/reflectlite.Swapper", "(internal/reflectlite.Value).Len"], unfollowed := true, recurses := true, named := ["encoding/binary.BigEndian", "pub-mailsack/pub/kmsg/inner/kbin.ErrNotEnoughData"], loops := true, apart := false, laid := [("pub-mailsack/pub/kmsg/inner/kbin.ErrNotEnoughData", laid_pub_mailsack_pub_kmsg_inner_kbin_ErrNotEnoughData)] }
def FnBehindFindCoordinatorResponseSaid : Prop := fnBehindFindCoordinatorResponseRow.holds Tryz.pinned (OpenSpec.ofChange fnBehindFindCoordinatorResponseSpec)

/-- ITS FALSE NEIGHBOUR: 'it returns false'. Refute it at one input. -/
def fnBehindFindCoordinatorResponseWrong : ChangeSpec := { name := "fnBehindFindCoordinatorResponse", fn := fun _ => fun
  | [d1, d2, d3] => { results := [.lit (.bool false)], args := [d1, d2, d3] }
  | _ => none }
def FnBehindFindCoordinatorResponseWrongFalsely : Prop := fnBehindFindCoordinatorResponseRow.holds Tryz.pinned (OpenSpec.ofChange fnBehindFindCoordinatorResponseWrong)

/-- 'laws.FnBehindDescribeClusterResponse': WHATEVER THE INPUT: true; the input reads as it did. -/
def fnBehindDescribeClusterResponseSpec : ChangeSpec := { name := "fnBehindDescribeClusterResponse", fn := fun _ => fun
  | [d1, d2, d3] => { results := [.lit (.bool true)], args := [d1, d2, d3] }
  | _ => none }
def fnBehindDescribeClusterResponseRow : OpenClaim := { program := "ytmjfaddganhmiaagreatdoor", sum := "6617613922f8c4e75d146e3b6c0056e67f4dff4bf0c431359dafa47a5a1557a2", func := "pub-mailsack/laws.FnBehindDescribeClusterResponse", spec := "fnBehindDescribeClusterResponse", inPlace := ["internal/reflectlite.ValueOf", "internal/reflectlite.Swapper", "(internal/reflectlite.Value).Len"], unfollowed := true, recurses := true, named := ["encoding/binary.BigEndian", "pub-mailsack/pub/kmsg/inner/kbin.ErrNotEnoughData"], loops := true, apart := false, laid := [("pub-mailsack/pub/kmsg/inner/kbin.ErrNotEnoughData", laid_pub_mailsack_pub_kmsg_inner_kbin_ErrNotEnoughData)] }
def FnBehindDescribeClusterResponseSaid : Prop := fnBehindDescribeClusterResponseRow.holds Tryz.pinned (OpenSpec.ofChange fnBehindDescribeClusterResponseSpec)

/-- ITS FALSE NEIGHBOUR: 'it returns false'. Refute it at one input. -/
def fnBehindDescribeClusterResponseWrong : ChangeSpec := { name := "fnBehindDescribeClusterResponse", fn := fun _ => fun
  | [d1, d2, d3] => { results := [.lit (.bool false)], args := [d1, d2, d3] }
  | _ => none }
def FnBehindDescribeClusterResponseWrongFalsely : Prop := fnBehindDescribeClusterResponseRow.holds Tryz.pinned (OpenSpec.ofChange fnBehindDescribeClusterResponseWrong)

/-- 'laws.FnBehindVoteRequest': WHATEVER THE INPUT: true; the input reads as it did. -/
def fnBehindVoteRequestSpec : ChangeSpec := { name := "fnBehindVoteRequest", fn := fun _ => fun
  | [d1, d2, d3] => { results := [.lit (.bool true)], args := [d1, d2, d3] }
  | _ => none }
def fnBehindVoteRequestRow : OpenClaim := { program := "ytmjfaddganhmiaagreatdoor", sum := "6617613922f8c4e75d146e3b6c0056e67f4dff4bf0c431359dafa47a5a1557a2", func := "pub-mailsack/laws.FnBehindVoteRequest", spec := "fnBehindVoteRequest", inPlace := ["internal/reflectlite.ValueOf", "internal/reflectlite.Swapper", "(internal/reflectlite.Value).Len"], unfollowed := true, recurses := true, named := ["encoding/binary.BigEndian", "pub-mailsack/pub/kmsg/inner/kbin.ErrNotEnoughData"], loops := true, apart := false, laid := [("pub-mailsack/pub/kmsg/inner/kbin.ErrNotEnoughData", laid_pub_mailsack_pub_kmsg_inner_kbin_ErrNotEnoughData)] }
def FnBehindVoteRequestSaid : Prop := fnBehindVoteRequestRow.holds Tryz.pinned (OpenSpec.ofChange fnBehindVoteRequestSpec)

/-- ITS FALSE NEIGHBOUR: 'it returns false'. Refute it at one input. -/
def fnBehindVoteRequestWrong : ChangeSpec := { name := "fnBehindVoteRequest", fn := fun _ => fun
  | [d1, d2, d3] => { results := [.lit (.bool false)], args := [d1, d2, d3] }
  | _ => none }
def FnBehindVoteRequestWrongFalsely : Prop := fnBehindVoteRequestRow.holds Tryz.pinned (OpenSpec.ofChange fnBehindVoteRequestWrong)

/-- 'laws.FnBehindBrokerRegistrationRequest': WHATEVER THE INPUT: true; the input reads as it did. -/
def fnBehindBrokerRegistrationRequestSpec : ChangeSpec := { name := "fnBehindBrokerRegistrationRequest", fn := fun _ => fun
  | [d1, d2, d3] => { results := [.lit (.bool true)], args := [d1, d2, d3] }
  | _ => none }
def fnBehindBrokerRegistrationRequestRow : OpenClaim := { program := "ytmjfaddganhmiaagreatdoor", sum := "6617613922f8c4e75d146e3b6c0056e67f4dff4bf0c431359dafa47a5a1557a2", func := "pub-mailsack/laws.FnBehindBrokerRegistrationRequest", spec := "fnBehindBrokerRegistrationRequest", inPlace := ["internal/reflectlite.ValueOf", "internal/reflectlite.Swapper", "(internal/reflectlite.Value).Len"], unfollowed := true, recurses := true, named := ["encoding/binary.BigEndian", "pub-mailsack/pub/kmsg/inner/kbin.ErrNotEnoughData"], loops := true, apart := false, laid := [("pub-mailsack/pub/kmsg/inner/kbin.ErrNotEnoughData", laid_pub_mailsack_pub_kmsg_inner_kbin_ErrNotEnoughData)] }
def FnBehindBrokerRegistrationRequestSaid : Prop := fnBehindBrokerRegistrationRequestRow.holds Tryz.pinned (OpenSpec.ofChange fnBehindBrokerRegistrationRequestSpec)

/-- ITS FALSE NEIGHBOUR: 'it returns false'. Refute it at one input. -/
def fnBehindBrokerRegistrationRequestWrong : ChangeSpec := { name := "fnBehindBrokerRegistrationRequest", fn := fun _ => fun
  | [d1, d2, d3] => { results := [.lit (.bool false)], args := [d1, d2, d3] }
  | _ => none }
def FnBehindBrokerRegistrationRequestWrongFalsely : Prop := fnBehindBrokerRegistrationRequestRow.holds Tryz.pinned (OpenSpec.ofChange fnBehindBrokerRegistrationRequestWrong)

/-- 'laws.FnBehindDescribeGroupsResponse': WHATEVER THE INPUT: true; the input reads as it did. -/
def fnBehindDescribeGroupsResponseSpec : ChangeSpec := { name := "fnBehindDescribeGroupsResponse", fn := fun _ => fun
  | [d1, d2, d3] => { results := [.lit (.bool true)], args := [d1, d2, d3] }
  | _ => none }
def fnBehindDescribeGroupsResponseRow : OpenClaim := { program := "ytmjfaddganhmiaagreatdoor", sum := "6617613922f8c4e75d146e3b6c0056e67f4dff4bf0c431359dafa47a5a1557a2", func := "pub-mailsack/laws.FnBehindDescribeGroupsResponse", spec := "fnBehindDescribeGroupsResponse", inPlace := ["internal/reflectlite.ValueOf", "internal/reflectlite.Swapper", "(internal/reflectlite.Value).Len"], unfollowed := true, recurses := true, named := ["encoding/binary.BigEndian", "pub-mailsack/pub/kmsg/inner/kbin.ErrNotEnoughData"], loops := true, apart := false, laid := [("pub-mailsack/pub/kmsg/inner/kbin.ErrNotEnoughData", laid_pub_mailsack_pub_kmsg_inner_kbin_ErrNotEnoughData)] }
def FnBehindDescribeGroupsResponseSaid : Prop := fnBehindDescribeGroupsResponseRow.holds Tryz.pinned (OpenSpec.ofChange fnBehindDescribeGroupsResponseSpec)

/-- ITS FALSE NEIGHBOUR: 'it returns false'. Refute it at one input. -/
def fnBehindDescribeGroupsResponseWrong : ChangeSpec := { name := "fnBehindDescribeGroupsResponse", fn := fun _ => fun
  | [d1, d2, d3] => { results := [.lit (.bool false)], args := [d1, d2, d3] }
  | _ => none }
def FnBehindDescribeGroupsResponseWrongFalsely : Prop := fnBehindDescribeGroupsResponseRow.holds Tryz.pinned (OpenSpec.ofChange fnBehindDescribeGroupsResponseWrong)

/- THE SECOND FORM. 'bulk': how many values and letters a reading holds, each counted each time it is reached (what is shared counts as often as it is met; a slice's spare places count too). A statement '..UptoSaid' is the law's where the arguments, and the package variables that the reading takes, are together of bulk at most 1048576: NARROWER than '..Said'. Prove '..Said' where nothing that the law and all that it calls make is longer than what came in: it says more and counts as full. Else prove '..UptoSaid'. A law counts once. -/
mutual
def uptoBulk {H : Type} : DataW H → Nat
  | .lit (.string bytes) => bytes.length + 1
  | .lit _ => 1
  | .nil => 1
  | .ptr d => uptoBulk d + 1
  | .slice elems spare => uptoBulkAll elems + uptoBulkAll spare + 1
  | .agg parts => uptoBulkAll parts + 1
  | .iface _ d => uptoBulk d + 1
  | .map entries => uptoBulkEntries entries + 1
  | .held _ => 1
def uptoBulkAll {H : Type} : List (DataW H) → Nat
  | [] => 0
  | d :: r => uptoBulk d + uptoBulkAll r
def uptoBulkEntries {H : Type} : List (Lit × DataW H) → Nat
  | [] => 0
  | x :: r => uptoBulkEntry x + uptoBulkEntries r
def uptoBulkEntry {H : Type} : Lit × DataW H → Nat
  | (.string bytes, d) => bytes.length + uptoBulk d + 1
  | (_, d) => uptoBulk d + 1
 end
def uptoSmall : (H : Type) → List (DataW H) → Bool := fun _ ds => decide (uptoBulkAll ds ≤ 1048576)
def OpenSpec.upto (s : _root_.Go.ChangeSpec) : _root_.Go.OpenSpec := { _root_.Go.OpenSpec.ofChange s with cond := some uptoSmall }

/-- 'laws.FnBehindUnregisterBrokerResponse', WHERE WHAT IT READS IS OF BULK AT MOST 1048576: true; the input reads as it did. -/
def fnBehindUnregisterBrokerResponseUptoRow : OpenClaim := { program := "ytmjfaddganhmiaagreatdoor", sum := "6617613922f8c4e75d146e3b6c0056e67f4dff4bf0c431359dafa47a5a1557a2", func := "pub-mailsack/laws.FnBehindUnregisterBrokerResponse", spec := "fnBehindUnregisterBrokerResponse", inPlace := ["internal/reflectlite.ValueOf", "internal/reflectlite.Swapper", "(internal/reflectlite.Value).Len"], unfollowed := true, recurses := true, named := ["encoding/binary.BigEndian", "pub-mailsack/pub/kmsg/inner/kbin.ErrNotEnoughData"], loops := true, apart := false, laid := [("pub-mailsack/pub/kmsg/inner/kbin.ErrNotEnoughData", laid_pub_mailsack_pub_kmsg_inner_kbin_ErrNotEnoughData)], narrowed := true }
def FnBehindUnregisterBrokerResponseUptoSaid : Prop := fnBehindUnregisterBrokerResponseUptoRow.holds Tryz.pinned (OpenSpec.upto fnBehindUnregisterBrokerResponseSpec)

/-- 'laws.FnBehindStreamsGroupTopologyDescriptionUpdateResponse', WHERE WHAT IT READS IS OF BULK AT MOST 1048576: true; the input reads as it did. -/
def fnBehindStreamsGroupTopologyDescriptionUpdateResponseUptoRow : OpenClaim := { program := "ytmjfaddganhmiaagreatdoor", sum := "6617613922f8c4e75d146e3b6c0056e67f4dff4bf0c431359dafa47a5a1557a2", func := "pub-mailsack/laws.FnBehindStreamsGroupTopologyDescriptionUpdateResponse", spec := "fnBehindStreamsGroupTopologyDescriptionUpdateResponse", inPlace := ["internal/reflectlite.ValueOf", "internal/reflectlite.Swapper", "(internal/reflectlite.Value).Len"], unfollowed := true, recurses := true, named := ["encoding/binary.BigEndian", "pub-mailsack/pub/kmsg/inner/kbin.ErrNotEnoughData"], loops := true, apart := false, laid := [("pub-mailsack/pub/kmsg/inner/kbin.ErrNotEnoughData", laid_pub_mailsack_pub_kmsg_inner_kbin_ErrNotEnoughData)], narrowed := true }
def FnBehindStreamsGroupTopologyDescriptionUpdateResponseUptoSaid : Prop := fnBehindStreamsGroupTopologyDescriptionUpdateResponseUptoRow.holds Tryz.pinned (OpenSpec.upto fnBehindStreamsGroupTopologyDescriptionUpdateResponseSpec)

/-- 'laws.FnBehindApiVersionsRequest', WHERE WHAT IT READS IS OF BULK AT MOST 1048576: true; the input reads as it did. -/
def fnBehindApiVersionsRequestUptoRow : OpenClaim := { program := "ytmjfaddganhmiaagreatdoor", sum := "6617613922f8c4e75d146e3b6c0056e67f4dff4bf0c431359dafa47a5a1557a2", func := "pub-mailsack/laws.FnBehindApiVersionsRequest", spec := "fnBehindApiVersionsRequest", inPlace := ["internal/reflectlite.ValueOf", "internal/reflectlite.Swapper", "(internal/reflectlite.Value).Len"], unfollowed := true, recurses := true, named := ["encoding/binary.BigEndian", "pub-mailsack/pub/kmsg/inner/kbin.ErrNotEnoughData"], loops := true, apart := false, laid := [("pub-mailsack/pub/kmsg/inner/kbin.ErrNotEnoughData", laid_pub_mailsack_pub_kmsg_inner_kbin_ErrNotEnoughData)], narrowed := true }
def FnBehindApiVersionsRequestUptoSaid : Prop := fnBehindApiVersionsRequestUptoRow.holds Tryz.pinned (OpenSpec.upto fnBehindApiVersionsRequestSpec)

/-- 'laws.FnBehindReadShareGroupStateRequest', WHERE WHAT IT READS IS OF BULK AT MOST 1048576: true; the input reads as it did. -/
def fnBehindReadShareGroupStateRequestUptoRow : OpenClaim := { program := "ytmjfaddganhmiaagreatdoor", sum := "6617613922f8c4e75d146e3b6c0056e67f4dff4bf0c431359dafa47a5a1557a2", func := "pub-mailsack/laws.FnBehindReadShareGroupStateRequest", spec := "fnBehindReadShareGroupStateRequest", inPlace := ["internal/reflectlite.ValueOf", "internal/reflectlite.Swapper", "(internal/reflectlite.Value).Len"], unfollowed := true, recurses := true, named := ["encoding/binary.BigEndian", "pub-mailsack/pub/kmsg/inner/kbin.ErrNotEnoughData"], loops := true, apart := false, laid := [("pub-mailsack/pub/kmsg/inner/kbin.ErrNotEnoughData", laid_pub_mailsack_pub_kmsg_inner_kbin_ErrNotEnoughData)], narrowed := true }
def FnBehindReadShareGroupStateRequestUptoSaid : Prop := fnBehindReadShareGroupStateRequestUptoRow.holds Tryz.pinned (OpenSpec.upto fnBehindReadShareGroupStateRequestSpec)

/-- 'laws.FnBehindInitializeShareGroupStateRequest', WHERE WHAT IT READS IS OF BULK AT MOST 1048576: true; the input reads as it did. -/
def fnBehindInitializeShareGroupStateRequestUptoRow : OpenClaim := { program := "ytmjfaddganhmiaagreatdoor", sum := "6617613922f8c4e75d146e3b6c0056e67f4dff4bf0c431359dafa47a5a1557a2", func := "pub-mailsack/laws.FnBehindInitializeShareGroupStateRequest", spec := "fnBehindInitializeShareGroupStateRequest", inPlace := ["internal/reflectlite.ValueOf", "internal/reflectlite.Swapper", "(internal/reflectlite.Value).Len"], unfollowed := true, recurses := true, named := ["encoding/binary.BigEndian", "pub-mailsack/pub/kmsg/inner/kbin.ErrNotEnoughData"], loops := true, apart := false, laid := [("pub-mailsack/pub/kmsg/inner/kbin.ErrNotEnoughData", laid_pub_mailsack_pub_kmsg_inner_kbin_ErrNotEnoughData)], narrowed := true }
def FnBehindInitializeShareGroupStateRequestUptoSaid : Prop := fnBehindInitializeShareGroupStateRequestUptoRow.holds Tryz.pinned (OpenSpec.upto fnBehindInitializeShareGroupStateRequestSpec)

/-- 'laws.FnBehindReadShareGroupStateSummaryResponse', WHERE WHAT IT READS IS OF BULK AT MOST 1048576: true; the input reads as it did. -/
def fnBehindReadShareGroupStateSummaryResponseUptoRow : OpenClaim := { program := "ytmjfaddganhmiaagreatdoor", sum := "6617613922f8c4e75d146e3b6c0056e67f4dff4bf0c431359dafa47a5a1557a2", func := "pub-mailsack/laws.FnBehindReadShareGroupStateSummaryResponse", spec := "fnBehindReadShareGroupStateSummaryResponse", inPlace := ["internal/reflectlite.ValueOf", "internal/reflectlite.Swapper", "(internal/reflectlite.Value).Len"], unfollowed := true, recurses := true, named := ["encoding/binary.BigEndian", "pub-mailsack/pub/kmsg/inner/kbin.ErrNotEnoughData"], loops := true, apart := false, laid := [("pub-mailsack/pub/kmsg/inner/kbin.ErrNotEnoughData", laid_pub_mailsack_pub_kmsg_inner_kbin_ErrNotEnoughData)], narrowed := true }
def FnBehindReadShareGroupStateSummaryResponseUptoSaid : Prop := fnBehindReadShareGroupStateSummaryResponseUptoRow.holds Tryz.pinned (OpenSpec.upto fnBehindReadShareGroupStateSummaryResponseSpec)

/-- 'laws.FnBehindAlterPartitionAssignmentsResponse', WHERE WHAT IT READS IS OF BULK AT MOST 1048576: true; the input reads as it did. -/
def fnBehindAlterPartitionAssignmentsResponseUptoRow : OpenClaim := { program := "ytmjfaddganhmiaagreatdoor", sum := "6617613922f8c4e75d146e3b6c0056e67f4dff4bf0c431359dafa47a5a1557a2", func := "pub-mailsack/laws.FnBehindAlterPartitionAssignmentsResponse", spec := "fnBehindAlterPartitionAssignmentsResponse", inPlace := ["internal/reflectlite.ValueOf", "internal/reflectlite.Swapper", "(internal/reflectlite.Value).Len"], unfollowed := true, recurses := true, named := ["encoding/binary.BigEndian", "pub-mailsack/pub/kmsg/inner/kbin.ErrNotEnoughData"], loops := true, apart := false, laid := [("pub-mailsack/pub/kmsg/inner/kbin.ErrNotEnoughData", laid_pub_mailsack_pub_kmsg_inner_kbin_ErrNotEnoughData)], narrowed := true }
def FnBehindAlterPartitionAssignmentsResponseUptoSaid : Prop := fnBehindAlterPartitionAssignmentsResponseUptoRow.holds Tryz.pinned (OpenSpec.upto fnBehindAlterPartitionAssignmentsResponseSpec)

/-- 'laws.FnBehindFindCoordinatorResponse', WHERE WHAT IT READS IS OF BULK AT MOST 1048576: true; the input reads as it did. -/
def fnBehindFindCoordinatorResponseUptoRow : OpenClaim := { program := "ytmjfaddganhmiaagreatdoor", sum := "6617613922f8c4e75d146e3b6c0056e67f4dff4bf0c431359dafa47a5a1557a2", func := "pub-mailsack/laws.FnBehindFindCoordinatorResponse", spec := "fnBehindFindCoordinatorResponse", inPlace := ["internal/reflectlite.ValueOf", "internal/reflectlite.Swapper", "(internal/reflectlite.Value).Len"], unfollowed := true, recurses := true, named := ["encoding/binary.BigEndian", "pub-mailsack/pub/kmsg/inner/kbin.ErrNotEnoughData"], loops := true, apart := false, laid := [("pub-mailsack/pub/kmsg/inner/kbin.ErrNotEnoughData", laid_pub_mailsack_pub_kmsg_inner_kbin_ErrNotEnoughData)], narrowed := true }
def FnBehindFindCoordinatorResponseUptoSaid : Prop := fnBehindFindCoordinatorResponseUptoRow.holds Tryz.pinned (OpenSpec.upto fnBehindFindCoordinatorResponseSpec)

/-- 'laws.FnBehindDescribeClusterResponse', WHERE WHAT IT READS IS OF BULK AT MOST 1048576: true; the input reads as it did. -/
def fnBehindDescribeClusterResponseUptoRow : OpenClaim := { program := "ytmjfaddganhmiaagreatdoor", sum := "6617613922f8c4e75d146e3b6c0056e67f4dff4bf0c431359dafa47a5a1557a2", func := "pub-mailsack/laws.FnBehindDescribeClusterResponse", spec := "fnBehindDescribeClusterResponse", inPlace := ["internal/reflectlite.ValueOf", "internal/reflectlite.Swapper", "(internal/reflectlite.Value).Len"], unfollowed := true, recurses := true, named := ["encoding/binary.BigEndian", "pub-mailsack/pub/kmsg/inner/kbin.ErrNotEnoughData"], loops := true, apart := false, laid := [("pub-mailsack/pub/kmsg/inner/kbin.ErrNotEnoughData", laid_pub_mailsack_pub_kmsg_inner_kbin_ErrNotEnoughData)], narrowed := true }
def FnBehindDescribeClusterResponseUptoSaid : Prop := fnBehindDescribeClusterResponseUptoRow.holds Tryz.pinned (OpenSpec.upto fnBehindDescribeClusterResponseSpec)

/-- 'laws.FnBehindVoteRequest', WHERE WHAT IT READS IS OF BULK AT MOST 1048576: true; the input reads as it did. -/
def fnBehindVoteRequestUptoRow : OpenClaim := { program := "ytmjfaddganhmiaagreatdoor", sum := "6617613922f8c4e75d146e3b6c0056e67f4dff4bf0c431359dafa47a5a1557a2", func := "pub-mailsack/laws.FnBehindVoteRequest", spec := "fnBehindVoteRequest", inPlace := ["internal/reflectlite.ValueOf", "internal/reflectlite.Swapper", "(internal/reflectlite.Value).Len"], unfollowed := true, recurses := true, named := ["encoding/binary.BigEndian", "pub-mailsack/pub/kmsg/inner/kbin.ErrNotEnoughData"], loops := true, apart := false, laid := [("pub-mailsack/pub/kmsg/inner/kbin.ErrNotEnoughData", laid_pub_mailsack_pub_kmsg_inner_kbin_ErrNotEnoughData)], narrowed := true }
def FnBehindVoteRequestUptoSaid : Prop := fnBehindVoteRequestUptoRow.holds Tryz.pinned (OpenSpec.upto fnBehindVoteRequestSpec)

/-- 'laws.FnBehindBrokerRegistrationRequest', WHERE WHAT IT READS IS OF BULK AT MOST 1048576: true; the input reads as it did. -/
def fnBehindBrokerRegistrationRequestUptoRow : OpenClaim := { program := "ytmjfaddganhmiaagreatdoor", sum := "6617613922f8c4e75d146e3b6c0056e67f4dff4bf0c431359dafa47a5a1557a2", func := "pub-mailsack/laws.FnBehindBrokerRegistrationRequest", spec := "fnBehindBrokerRegistrationRequest", inPlace := ["internal/reflectlite.ValueOf", "internal/reflectlite.Swapper", "(internal/reflectlite.Value).Len"], unfollowed := true, recurses := true, named := ["encoding/binary.BigEndian", "pub-mailsack/pub/kmsg/inner/kbin.ErrNotEnoughData"], loops := true, apart := false, laid := [("pub-mailsack/pub/kmsg/inner/kbin.ErrNotEnoughData", laid_pub_mailsack_pub_kmsg_inner_kbin_ErrNotEnoughData)], narrowed := true }
def FnBehindBrokerRegistrationRequestUptoSaid : Prop := fnBehindBrokerRegistrationRequestUptoRow.holds Tryz.pinned (OpenSpec.upto fnBehindBrokerRegistrationRequestSpec)

/-- 'laws.FnBehindDescribeGroupsResponse', WHERE WHAT IT READS IS OF BULK AT MOST 1048576: true; the input reads as it did. -/
def fnBehindDescribeGroupsResponseUptoRow : OpenClaim := { program := "ytmjfaddganhmiaagreatdoor", sum := "6617613922f8c4e75d146e3b6c0056e67f4dff4bf0c431359dafa47a5a1557a2", func := "pub-mailsack/laws.FnBehindDescribeGroupsResponse", spec := "fnBehindDescribeGroupsResponse", inPlace := ["internal/reflectlite.ValueOf", "internal/reflectlite.Swapper", "(internal/reflectlite.Value).Len"], unfollowed := true, recurses := true, named := ["encoding/binary.BigEndian", "pub-mailsack/pub/kmsg/inner/kbin.ErrNotEnoughData"], loops := true, apart := false, laid := [("pub-mailsack/pub/kmsg/inner/kbin.ErrNotEnoughData", laid_pub_mailsack_pub_kmsg_inner_kbin_ErrNotEnoughData)], narrowed := true }
def FnBehindDescribeGroupsResponseUptoSaid : Prop := fnBehindDescribeGroupsResponseUptoRow.holds Tryz.pinned (OpenSpec.upto fnBehindDescribeGroupsResponseSpec)

end Rows
end Go.Proofs.YtmjfaddganhmiaaGreatDoor
