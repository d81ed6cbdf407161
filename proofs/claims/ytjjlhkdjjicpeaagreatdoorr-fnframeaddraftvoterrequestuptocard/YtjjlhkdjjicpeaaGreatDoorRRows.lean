/-
  NARROWER THAN 'FOR EVERY INPUT', by the rows' own cells (each row's printed sentence says how): FnFrameAddRaftVoterRequest: loops, laid · FnFrameAlterConfigsRequest: loops, laid · FnFrameRenewDelegationTokenRequest: loops, laid · FnFrameEnvelopeRequest: loops, laid · FnFrameHeartbeatRequest: loops, laid · FnFrameDescribeProducersRequest: loops, laid · FnFrameElectLeadersRequest: loops, laid · FnFrameDescribeTopicPartitionsRequest: loops, laid · FnFrameDescribeClientQuotasRequest: loops, laid.
  DERIVED. THE GIVEN ROWS OF THIS SEAT. 9 by the template 'for every input the law returns true; each argument reads behind the call as it read before'; 0 by the template 'total and deterministic' (their statements: YtjjlhkdjjicpeaaGreatDoorRTotals.lean).
  GIVEN WITH THE SEED: the statements are not yours to turn. If you find one false, say at which input.
  Laid BY PROGRAM, IN A SANDBOX (cutbox-rows.mjs): the forced cells as the released guide's own fill.sh prints them over the translation c07311eb39f81666… (all of the seat's roots in one cut). By AI agents, Wed Nov 11 2026. No macro, syntax, notation, axiom, sorry.
-/
import Derived.Test.YtjjlhkdjjicpeaaGreatDoorRChecked
import GoSem.Claim
import GoSem.ClaimJoined
import GoSem.ClaimMapViews
import Derived.JoinedTies
import Derived.KernelRfl
namespace Go.Proofs.YtjjlhkdjjicpeaaGreatDoorR
/- THE CELL 'sum', in the pinned program and in every row, IS THE sha256 OF THE DUMP (.gsa) THAT YtjjlhkdjjicpeaaGreatDoorRProg.lean LOADS. Nothing in Lean hashes anything: it is a label: what it is worth is what the hold of that sum in a sandbox is worth. -/
noncomputable def Tryz.pinned : Pinned := { name := "ytjjlhkdjjicpeaagreatdoorr", sum := "c07311eb39f8166611849ccdd5e7bd32629ca12ad4ccca6704026370d2e57675", checked := Tryz.checked }
namespace Rows
def none {H : Type} : Left H := { results := [], args := [] }

/- WHAT THE LISTED PACKAGE-LEVEL VARIABLES READ AS WHEN THE CALL BEGINS. Each datum BY PROGRAM (the guide's laid-datum.mjs) off the statement by which the dump's own 'gosem.cut.vars' lays the variable. In a bare row this is a premise. The card (YtjjlhkdjjicpeaaGreatDoorRCards.lean) ties it to the program's text. -/
def laid_pub_mailsack_pub_kmsg_inner_kbin_ErrNotEnoughData {H : Type} : DataW H := .iface "*errors.errorString" (.ptr (.agg [.lit (.string [114, 101, 115, 112, 111, 110, 115, 101, 32, 100, 105, 100, 32, 110, 111, 116, 32, 99, 111, 110, 116, 97, 105, 110, 32, 101, 110, 111, 117, 103, 104, 32, 100, 97, 116, 97, 32, 116, 111, 32, 98, 101, 32, 118, 97, 108, 105, 100])]))

/-- 'laws.FnFrameAddRaftVoterRequest': WHATEVER THE INPUT: true; the input reads as it did. -/
def fnFrameAddRaftVoterRequestSpec : ChangeSpec := { name := "fnFrameAddRaftVoterRequest", fn := fun _ => fun
  | [d1, d2, d3, d4] => { results := [.lit (.bool true)], args := [d1, d2, d3, d4] }
  | _ => none }
def fnFrameAddRaftVoterRequestRow : OpenClaim := { program := "ytjjlhkdjjicpeaagreatdoorr", sum := "c07311eb39f8166611849ccdd5e7bd32629ca12ad4ccca6704026370d2e57675", func := "pub-mailsack/laws.FnFrameAddRaftVoterRequest", spec := "fnFrameAddRaftVoterRequest", unfollowed := true, recurses := true, named := ["encoding/binary.BigEndian", "pub-mailsack/pub/kmsg/inner/kbin.ErrNotEnoughData"], loops := true, apart := false, laid := [("pub-mailsack/pub/kmsg/inner/kbin.ErrNotEnoughData", laid_pub_mailsack_pub_kmsg_inner_kbin_ErrNotEnoughData)] }
def FnFrameAddRaftVoterRequestSaid : Prop := fnFrameAddRaftVoterRequestRow.holds Tryz.pinned (OpenSpec.ofChange fnFrameAddRaftVoterRequestSpec)

/-- ITS FALSE NEIGHBOUR: 'it returns false'. Refute it at one input. -/
def fnFrameAddRaftVoterRequestWrong : ChangeSpec := { name := "fnFrameAddRaftVoterRequest", fn := fun _ => fun
  | [d1, d2, d3, d4] => { results := [.lit (.bool false)], args := [d1, d2, d3, d4] }
  | _ => none }
def FnFrameAddRaftVoterRequestWrongFalsely : Prop := fnFrameAddRaftVoterRequestRow.holds Tryz.pinned (OpenSpec.ofChange fnFrameAddRaftVoterRequestWrong)

/-- 'laws.FnFrameAlterConfigsRequest': WHATEVER THE INPUT: true; the input reads as it did. -/
def fnFrameAlterConfigsRequestSpec : ChangeSpec := { name := "fnFrameAlterConfigsRequest", fn := fun _ => fun
  | [d1, d2, d3, d4] => { results := [.lit (.bool true)], args := [d1, d2, d3, d4] }
  | _ => none }
def fnFrameAlterConfigsRequestRow : OpenClaim := { program := "ytjjlhkdjjicpeaagreatdoorr", sum := "c07311eb39f8166611849ccdd5e7bd32629ca12ad4ccca6704026370d2e57675", func := "pub-mailsack/laws.FnFrameAlterConfigsRequest", spec := "fnFrameAlterConfigsRequest", unfollowed := true, recurses := true, named := ["encoding/binary.BigEndian", "pub-mailsack/pub/kmsg/inner/kbin.ErrNotEnoughData"], loops := true, apart := false, laid := [("pub-mailsack/pub/kmsg/inner/kbin.ErrNotEnoughData", laid_pub_mailsack_pub_kmsg_inner_kbin_ErrNotEnoughData)] }
def FnFrameAlterConfigsRequestSaid : Prop := fnFrameAlterConfigsRequestRow.holds Tryz.pinned (OpenSpec.ofChange fnFrameAlterConfigsRequestSpec)

/-- ITS FALSE NEIGHBOUR: 'it returns false'. Refute it at one input. -/
def fnFrameAlterConfigsRequestWrong : ChangeSpec := { name := "fnFrameAlterConfigsRequest", fn := fun _ => fun
  | [d1, d2, d3, d4] => { results := [.lit (.bool false)], args := [d1, d2, d3, d4] }
  | _ => none }
def FnFrameAlterConfigsRequestWrongFalsely : Prop := fnFrameAlterConfigsRequestRow.holds Tryz.pinned (OpenSpec.ofChange fnFrameAlterConfigsRequestWrong)

/-- 'laws.FnFrameRenewDelegationTokenRequest': WHATEVER THE INPUT: true; the input reads as it did. -/
def fnFrameRenewDelegationTokenRequestSpec : ChangeSpec := { name := "fnFrameRenewDelegationTokenRequest", fn := fun _ => fun
  | [d1, d2, d3, d4] => { results := [.lit (.bool true)], args := [d1, d2, d3, d4] }
  | _ => none }
def fnFrameRenewDelegationTokenRequestRow : OpenClaim := { program := "ytjjlhkdjjicpeaagreatdoorr", sum := "c07311eb39f8166611849ccdd5e7bd32629ca12ad4ccca6704026370d2e57675", func := "pub-mailsack/laws.FnFrameRenewDelegationTokenRequest", spec := "fnFrameRenewDelegationTokenRequest", unfollowed := true, recurses := true, named := ["encoding/binary.BigEndian", "pub-mailsack/pub/kmsg/inner/kbin.ErrNotEnoughData"], loops := true, apart := false, laid := [("pub-mailsack/pub/kmsg/inner/kbin.ErrNotEnoughData", laid_pub_mailsack_pub_kmsg_inner_kbin_ErrNotEnoughData)] }
def FnFrameRenewDelegationTokenRequestSaid : Prop := fnFrameRenewDelegationTokenRequestRow.holds Tryz.pinned (OpenSpec.ofChange fnFrameRenewDelegationTokenRequestSpec)

/-- ITS FALSE NEIGHBOUR: 'it returns false'. Refute it at one input. -/
def fnFrameRenewDelegationTokenRequestWrong : ChangeSpec := { name := "fnFrameRenewDelegationTokenRequest", fn := fun _ => fun
  | [d1, d2, d3, d4] => { results := [.lit (.bool false)], args := [d1, d2, d3, d4] }
  | _ => none }
def FnFrameRenewDelegationTokenRequestWrongFalsely : Prop := fnFrameRenewDelegationTokenRequestRow.holds Tryz.pinned (OpenSpec.ofChange fnFrameRenewDelegationTokenRequestWrong)

/-- 'laws.FnFrameEnvelopeRequest': WHATEVER THE INPUT: true; the input reads as it did. -/
def fnFrameEnvelopeRequestSpec : ChangeSpec := { name := "fnFrameEnvelopeRequest", fn := fun _ => fun
  | [d1, d2, d3, d4] => { results := [.lit (.bool true)], args := [d1, d2, d3, d4] }
  | _ => none }
def fnFrameEnvelopeRequestRow : OpenClaim := { program := "ytjjlhkdjjicpeaagreatdoorr", sum := "c07311eb39f8166611849ccdd5e7bd32629ca12ad4ccca6704026370d2e57675", func := "pub-mailsack/laws.FnFrameEnvelopeRequest", spec := "fnFrameEnvelopeRequest", unfollowed := true, recurses := true, named := ["encoding/binary.BigEndian", "pub-mailsack/pub/kmsg/inner/kbin.ErrNotEnoughData"], loops := true, apart := false, laid := [("pub-mailsack/pub/kmsg/inner/kbin.ErrNotEnoughData", laid_pub_mailsack_pub_kmsg_inner_kbin_ErrNotEnoughData)] }
def FnFrameEnvelopeRequestSaid : Prop := fnFrameEnvelopeRequestRow.holds Tryz.pinned (OpenSpec.ofChange fnFrameEnvelopeRequestSpec)

/-- ITS FALSE NEIGHBOUR: 'it returns false'. Refute it at one input. -/
def fnFrameEnvelopeRequestWrong : ChangeSpec := { name := "fnFrameEnvelopeRequest", fn := fun _ => fun
  | [d1, d2, d3, d4] => { results := [.lit (.bool false)], args := [d1, d2, d3, d4] }
  | _ => none }
def FnFrameEnvelopeRequestWrongFalsely : Prop := fnFrameEnvelopeRequestRow.holds Tryz.pinned (OpenSpec.ofChange fnFrameEnvelopeRequestWrong)

/-- 'laws.FnFrameHeartbeatRequest': WHATEVER THE INPUT: true; the input reads as it did. -/
def fnFrameHeartbeatRequestSpec : ChangeSpec := { name := "fnFrameHeartbeatRequest", fn := fun _ => fun
  | [d1, d2, d3, d4] => { results := [.lit (.bool true)], args := [d1, d2, d3, d4] }
  | _ => none }
def fnFrameHeartbeatRequestRow : OpenClaim := { program := "ytjjlhkdjjicpeaagreatdoorr", sum := "c07311eb39f8166611849ccdd5e7bd32629ca12ad4ccca6704026370d2e57675", func := "pub-mailsack/laws.FnFrameHeartbeatRequest", spec := "fnFrameHeartbeatRequest", unfollowed := true, recurses := true, named := ["encoding/binary.BigEndian", "pub-mailsack/pub/kmsg/inner/kbin.ErrNotEnoughData"], loops := true, apart := false, laid := [("pub-mailsack/pub/kmsg/inner/kbin.ErrNotEnoughData", laid_pub_mailsack_pub_kmsg_inner_kbin_ErrNotEnoughData)] }
def FnFrameHeartbeatRequestSaid : Prop := fnFrameHeartbeatRequestRow.holds Tryz.pinned (OpenSpec.ofChange fnFrameHeartbeatRequestSpec)

/-- ITS FALSE NEIGHBOUR: 'it returns false'. Refute it at one input. -/
def fnFrameHeartbeatRequestWrong : ChangeSpec := { name := "fnFrameHeartbeatRequest", fn := fun _ => fun
  | [d1, d2, d3, d4] => { results := [.lit (.bool false)], args := [d1, d2, d3, d4] }
  | _ => none }
def FnFrameHeartbeatRequestWrongFalsely : Prop := fnFrameHeartbeatRequestRow.holds Tryz.pinned (OpenSpec.ofChange fnFrameHeartbeatRequestWrong)

/-- 'laws.FnFrameDescribeProducersRequest': WHATEVER THE INPUT: true; the input reads as it did. -/
def fnFrameDescribeProducersRequestSpec : ChangeSpec := { name := "fnFrameDescribeProducersRequest", fn := fun _ => fun
  | [d1, d2, d3, d4] => { results := [.lit (.bool true)], args := [d1, d2, d3, d4] }
  | _ => none }
def fnFrameDescribeProducersRequestRow : OpenClaim := { program := "ytjjlhkdjjicpeaagreatdoorr", sum := "c07311eb39f8166611849ccdd5e7bd32629ca12ad4ccca6704026370d2e57675", func := "pub-mailsack/laws.FnFrameDescribeProducersRequest", spec := "fnFrameDescribeProducersRequest", unfollowed := true, recurses := true, named := ["encoding/binary.BigEndian", "pub-mailsack/pub/kmsg/inner/kbin.ErrNotEnoughData"], loops := true, apart := false, laid := [("pub-mailsack/pub/kmsg/inner/kbin.ErrNotEnoughData", laid_pub_mailsack_pub_kmsg_inner_kbin_ErrNotEnoughData)] }
def FnFrameDescribeProducersRequestSaid : Prop := fnFrameDescribeProducersRequestRow.holds Tryz.pinned (OpenSpec.ofChange fnFrameDescribeProducersRequestSpec)

/-- ITS FALSE NEIGHBOUR: 'it returns false'. Refute it at one input. -/
def fnFrameDescribeProducersRequestWrong : ChangeSpec := { name := "fnFrameDescribeProducersRequest", fn := fun _ => fun
  | [d1, d2, d3, d4] => { results := [.lit (.bool false)], args := [d1, d2, d3, d4] }
  | _ => none }
def FnFrameDescribeProducersRequestWrongFalsely : Prop := fnFrameDescribeProducersRequestRow.holds Tryz.pinned (OpenSpec.ofChange fnFrameDescribeProducersRequestWrong)

/-- 'laws.FnFrameElectLeadersRequest': WHATEVER THE INPUT: true; the input reads as it did. -/
def fnFrameElectLeadersRequestSpec : ChangeSpec := { name := "fnFrameElectLeadersRequest", fn := fun _ => fun
  | [d1, d2, d3, d4] => { results := [.lit (.bool true)], args := [d1, d2, d3, d4] }
  | _ => none }
def fnFrameElectLeadersRequestRow : OpenClaim := { program := "ytjjlhkdjjicpeaagreatdoorr", sum := "c07311eb39f8166611849ccdd5e7bd32629ca12ad4ccca6704026370d2e57675", func := "pub-mailsack/laws.FnFrameElectLeadersRequest", spec := "fnFrameElectLeadersRequest", unfollowed := true, recurses := true, named := ["encoding/binary.BigEndian", "pub-mailsack/pub/kmsg/inner/kbin.ErrNotEnoughData"], loops := true, apart := false, laid := [("pub-mailsack/pub/kmsg/inner/kbin.ErrNotEnoughData", laid_pub_mailsack_pub_kmsg_inner_kbin_ErrNotEnoughData)] }
def FnFrameElectLeadersRequestSaid : Prop := fnFrameElectLeadersRequestRow.holds Tryz.pinned (OpenSpec.ofChange fnFrameElectLeadersRequestSpec)

/-- ITS FALSE NEIGHBOUR: 'it returns false'. Refute it at one input. -/
def fnFrameElectLeadersRequestWrong : ChangeSpec := { name := "fnFrameElectLeadersRequest", fn := fun _ => fun
  | [d1, d2, d3, d4] => { results := [.lit (.bool false)], args := [d1, d2, d3, d4] }
  | _ => none }
def FnFrameElectLeadersRequestWrongFalsely : Prop := fnFrameElectLeadersRequestRow.holds Tryz.pinned (OpenSpec.ofChange fnFrameElectLeadersRequestWrong)

/-- 'laws.FnFrameDescribeTopicPartitionsRequest': WHATEVER THE INPUT: true; the input reads as it did. -/
def fnFrameDescribeTopicPartitionsRequestSpec : ChangeSpec := { name := "fnFrameDescribeTopicPartitionsRequest", fn := fun _ => fun
  | [d1, d2, d3, d4] => { results := [.lit (.bool true)], args := [d1, d2, d3, d4] }
  | _ => none }
def fnFrameDescribeTopicPartitionsRequestRow : OpenClaim := { program := "ytjjlhkdjjicpeaagreatdoorr", sum := "c07311eb39f8166611849ccdd5e7bd32629ca12ad4ccca6704026370d2e57675", func := "pub-mailsack/laws.FnFrameDescribeTopicPartitionsRequest", spec := "fnFrameDescribeTopicPartitionsRequest", unfollowed := true, recurses := true, named := ["encoding/binary.BigEndian", "pub-mailsack/pub/kmsg/inner/kbin.ErrNotEnoughData"], loops := true, apart := false, laid := [("pub-mailsack/pub/kmsg/inner/kbin.ErrNotEnoughData", laid_pub_mailsack_pub_kmsg_inner_kbin_ErrNotEnoughData)] }
def FnFrameDescribeTopicPartitionsRequestSaid : Prop := fnFrameDescribeTopicPartitionsRequestRow.holds Tryz.pinned (OpenSpec.ofChange fnFrameDescribeTopicPartitionsRequestSpec)

/-- ITS FALSE NEIGHBOUR: 'it returns false'. Refute it at one input. -/
def fnFrameDescribeTopicPartitionsRequestWrong : ChangeSpec := { name := "fnFrameDescribeTopicPartitionsRequest", fn := fun _ => fun
  | [d1, d2, d3, d4] => { results := [.lit (.bool false)], args := [d1, d2, d3, d4] }
  | _ => none }
def FnFrameDescribeTopicPartitionsRequestWrongFalsely : Prop := fnFrameDescribeTopicPartitionsRequestRow.holds Tryz.pinned (OpenSpec.ofChange fnFrameDescribeTopicPartitionsRequestWrong)

/-- 'laws.FnFrameDescribeClientQuotasRequest': WHATEVER THE INPUT: true; the input reads as it did. -/
def fnFrameDescribeClientQuotasRequestSpec : ChangeSpec := { name := "fnFrameDescribeClientQuotasRequest", fn := fun _ => fun
  | [d1, d2, d3, d4] => { results := [.lit (.bool true)], args := [d1, d2, d3, d4] }
  | _ => none }
def fnFrameDescribeClientQuotasRequestRow : OpenClaim := { program := "ytjjlhkdjjicpeaagreatdoorr", sum := "c07311eb39f8166611849ccdd5e7bd32629ca12ad4ccca6704026370d2e57675", func := "pub-mailsack/laws.FnFrameDescribeClientQuotasRequest", spec := "fnFrameDescribeClientQuotasRequest", unfollowed := true, recurses := true, named := ["encoding/binary.BigEndian", "pub-mailsack/pub/kmsg/inner/kbin.ErrNotEnoughData"], loops := true, apart := false, laid := [("pub-mailsack/pub/kmsg/inner/kbin.ErrNotEnoughData", laid_pub_mailsack_pub_kmsg_inner_kbin_ErrNotEnoughData)] }
def FnFrameDescribeClientQuotasRequestSaid : Prop := fnFrameDescribeClientQuotasRequestRow.holds Tryz.pinned (OpenSpec.ofChange fnFrameDescribeClientQuotasRequestSpec)

/-- ITS FALSE NEIGHBOUR: 'it returns false'. Refute it at one input. -/
def fnFrameDescribeClientQuotasRequestWrong : ChangeSpec := { name := "fnFrameDescribeClientQuotasRequest", fn := fun _ => fun
  | [d1, d2, d3, d4] => { results := [.lit (.bool false)], args := [d1, d2, d3, d4] }
  | _ => none }
def FnFrameDescribeClientQuotasRequestWrongFalsely : Prop := fnFrameDescribeClientQuotasRequestRow.holds Tryz.pinned (OpenSpec.ofChange fnFrameDescribeClientQuotasRequestWrong)

/- THE SECOND FORM. 'bulk': how many values and letters a reading holds, each counted each time it is reached (what is shared counts as often as it is met; a slice's spare places count too). A statement '..UptoSaid' is the law's where the arguments, and the package variables that the reading takes, are together of bulk at most 1048576: NARROWER than '..Said'. Prove '..Said' where nothing that the law and all that it calls make is longer than what came in: it says more and counts as full. Else prove '..UptoSaid'. A law counts once. -/
mutual
def uptoBulk {H : Type} : DataW H → Nat
  | .lit (.string bytes) => bytes.length + 1
  | .lit _ => 1
  | .nil => 1
  | .ptr d => uptoBulk d + 1
  | .slice elems spare => uptoBulkAll elems + uptoBulkAll spare + 1
  | .agg parts => uptoBulkAll parts + 1
  | .iface _ d => uptoBulk d + 1
  | .map entries => uptoBulkEntries entries + 1
  | .held _ => 1
def uptoBulkAll {H : Type} : List (DataW H) → Nat
  | [] => 0
  | d :: r => uptoBulk d + uptoBulkAll r
def uptoBulkEntries {H : Type} : List (Lit × DataW H) → Nat
  | [] => 0
  | x :: r => uptoBulkEntry x + uptoBulkEntries r
def uptoBulkEntry {H : Type} : Lit × DataW H → Nat
  | (.string bytes, d) => bytes.length + uptoBulk d + 1
  | (_, d) => uptoBulk d + 1
 end
def uptoSmall : (H : Type) → List (DataW H) → Bool := fun _ ds => decide (uptoBulkAll ds ≤ 1048576)
def OpenSpec.upto (s : _root_.Go.ChangeSpec) : _root_.Go.OpenSpec := { _root_.Go.OpenSpec.ofChange s with cond := some uptoSmall }

/-- 'laws.FnFrameAddRaftVoterRequest', WHERE WHAT IT READS IS OF BULK AT MOST 1048576: true; the input reads as it did. -/
def fnFrameAddRaftVoterRequestUptoRow : OpenClaim := { program := "ytjjlhkdjjicpeaagreatdoorr", sum := "c07311eb39f8166611849ccdd5e7bd32629ca12ad4ccca6704026370d2e57675", func := "pub-mailsack/laws.FnFrameAddRaftVoterRequest", spec := "fnFrameAddRaftVoterRequest", unfollowed := true, recurses := true, named := ["encoding/binary.BigEndian", "pub-mailsack/pub/kmsg/inner/kbin.ErrNotEnoughData"], loops := true, apart := false, laid := [("pub-mailsack/pub/kmsg/inner/kbin.ErrNotEnoughData", laid_pub_mailsack_pub_kmsg_inner_kbin_ErrNotEnoughData)], narrowed := true }
def FnFrameAddRaftVoterRequestUptoSaid : Prop := fnFrameAddRaftVoterRequestUptoRow.holds Tryz.pinned (OpenSpec.upto fnFrameAddRaftVoterRequestSpec)

/-- 'laws.FnFrameAlterConfigsRequest', WHERE WHAT IT READS IS OF BULK AT MOST 1048576: true; the input reads as it did. -/
def fnFrameAlterConfigsRequestUptoRow : OpenClaim := { program := "ytjjlhkdjjicpeaagreatdoorr", sum := "c07311eb39f8166611849ccdd5e7bd32629ca12ad4ccca6704026370d2e57675", func := "pub-mailsack/laws.FnFrameAlterConfigsRequest", spec := "fnFrameAlterConfigsRequest", unfollowed := true, recurses := true, named := ["encoding/binary.BigEndian", "pub-mailsack/pub/kmsg/inner/kbin.ErrNotEnoughData"], loops := true, apart := false, laid := [("pub-mailsack/pub/kmsg/inner/kbin.ErrNotEnoughData", laid_pub_mailsack_pub_kmsg_inner_kbin_ErrNotEnoughData)], narrowed := true }
def FnFrameAlterConfigsRequestUptoSaid : Prop := fnFrameAlterConfigsRequestUptoRow.holds Tryz.pinned (OpenSpec.upto fnFrameAlterConfigsRequestSpec)

/-- 'laws.FnFrameRenewDelegationTokenRequest', WHERE WHAT IT READS IS OF BULK AT MOST 1048576: true; the input reads as it did. -/
def fnFrameRenewDelegationTokenRequestUptoRow : OpenClaim := { program := "ytjjlhkdjjicpeaagreatdoorr", sum := "c07311eb39f8166611849ccdd5e7bd32629ca12ad4ccca6704026370d2e57675", func := "pub-mailsack/laws.FnFrameRenewDelegationTokenRequest", spec := "fnFrameRenewDelegationTokenRequest", unfollowed := true, recurses := true, named := ["encoding/binary.BigEndian", "pub-mailsack/pub/kmsg/inner/kbin.ErrNotEnoughData"], loops := true, apart := false, laid := [("pub-mailsack/pub/kmsg/inner/kbin.ErrNotEnoughData", laid_pub_mailsack_pub_kmsg_inner_kbin_ErrNotEnoughData)], narrowed := true }
def FnFrameRenewDelegationTokenRequestUptoSaid : Prop := fnFrameRenewDelegationTokenRequestUptoRow.holds Tryz.pinned (OpenSpec.upto fnFrameRenewDelegationTokenRequestSpec)

/-- 'laws.FnFrameEnvelopeRequest', WHERE WHAT IT READS IS OF BULK AT MOST 1048576: true; the input reads as it did. -/
def fnFrameEnvelopeRequestUptoRow : OpenClaim := { program := "ytjjlhkdjjicpeaagreatdoorr", sum := "c07311eb39f8166611849ccdd5e7bd32629ca12ad4ccca6704026370d2e57675", func := "pub-mailsack/laws.FnFrameEnvelopeRequest", spec := "fnFrameEnvelopeRequest", unfollowed := true, recurses := true, named := ["encoding/binary.BigEndian", "pub-mailsack/pub/kmsg/inner/kbin.ErrNotEnoughData"], loops := true, apart := false, laid := [("pub-mailsack/pub/kmsg/inner/kbin.ErrNotEnoughData", laid_pub_mailsack_pub_kmsg_inner_kbin_ErrNotEnoughData)], narrowed := true }
def FnFrameEnvelopeRequestUptoSaid : Prop := fnFrameEnvelopeRequestUptoRow.holds Tryz.pinned (OpenSpec.upto fnFrameEnvelopeRequestSpec)

/-- 'laws.FnFrameHeartbeatRequest', WHERE WHAT IT READS IS OF BULK AT MOST 1048576: true; the input reads as it did. -/
def fnFrameHeartbeatRequestUptoRow : OpenClaim := { program := "ytjjlhkdjjicpeaagreatdoorr", sum := "c07311eb39f8166611849ccdd5e7bd32629ca12ad4ccca6704026370d2e57675", func := "pub-mailsack/laws.FnFrameHeartbeatRequest", spec := "fnFrameHeartbeatRequest", unfollowed := true, recurses := true, named := ["encoding/binary.BigEndian", "pub-mailsack/pub/kmsg/inner/kbin.ErrNotEnoughData"], loops := true, apart := false, laid := [("pub-mailsack/pub/kmsg/inner/kbin.ErrNotEnoughData", laid_pub_mailsack_pub_kmsg_inner_kbin_ErrNotEnoughData)], narrowed := true }
def FnFrameHeartbeatRequestUptoSaid : Prop := fnFrameHeartbeatRequestUptoRow.holds Tryz.pinned (OpenSpec.upto fnFrameHeartbeatRequestSpec)

/-- 'laws.FnFrameDescribeProducersRequest', WHERE WHAT IT READS IS OF BULK AT MOST 1048576: true; the input reads as it did. -/
def fnFrameDescribeProducersRequestUptoRow : OpenClaim := { program := "ytjjlhkdjjicpeaagreatdoorr", sum := "c07311eb39f8166611849ccdd5e7bd32629ca12ad4ccca6704026370d2e57675", func := "pub-mailsack/laws.FnFrameDescribeProducersRequest", spec := "fnFrameDescribeProducersRequest", unfollowed := true, recurses := true, named := ["encoding/binary.BigEndian", "pub-mailsack/pub/kmsg/inner/kbin.ErrNotEnoughData"], loops := true, apart := false, laid := [("pub-mailsack/pub/kmsg/inner/kbin.ErrNotEnoughData", laid_pub_mailsack_pub_kmsg_inner_kbin_ErrNotEnoughData)], narrowed := true }
def FnFrameDescribeProducersRequestUptoSaid : Prop := fnFrameDescribeProducersRequestUptoRow.holds Tryz.pinned (OpenSpec.upto fnFrameDescribeProducersRequestSpec)

/-- 'laws.FnFrameElectLeadersRequest', WHERE WHAT IT READS IS OF BULK AT MOST 1048576: true; the input reads as it did. -/
def fnFrameElectLeadersRequestUptoRow : OpenClaim := { program := "ytjjlhkdjjicpeaagreatdoorr", sum := "c07311eb39f8166611849ccdd5e7bd32629ca12ad4ccca6704026370d2e57675", func := "pub-mailsack/laws.FnFrameElectLeadersRequest", spec := "fnFrameElectLeadersRequest", unfollowed := true, recurses := true, named := ["encoding/binary.BigEndian", "pub-mailsack/pub/kmsg/inner/kbin.ErrNotEnoughData"], loops := true, apart := false, laid := [("pub-mailsack/pub/kmsg/inner/kbin.ErrNotEnoughData", laid_pub_mailsack_pub_kmsg_inner_kbin_ErrNotEnoughData)], narrowed := true }
def FnFrameElectLeadersRequestUptoSaid : Prop := fnFrameElectLeadersRequestUptoRow.holds Tryz.pinned (OpenSpec.upto fnFrameElectLeadersRequestSpec)

/-- 'laws.FnFrameDescribeTopicPartitionsRequest', WHERE WHAT IT READS IS OF BULK AT MOST 1048576: true; the input reads as it did. -/
def fnFrameDescribeTopicPartitionsRequestUptoRow : OpenClaim := { program := "ytjjlhkdjjicpeaagreatdoorr", sum := "c07311eb39f8166611849ccdd5e7bd32629ca12ad4ccca6704026370d2e57675", func := "pub-mailsack/laws.FnFrameDescribeTopicPartitionsRequest", spec := "fnFrameDescribeTopicPartitionsRequest", unfollowed := true, recurses := true, named := ["encoding/binary.BigEndian", "pub-mailsack/pub/kmsg/inner/kbin.ErrNotEnoughData"], loops := true, apart := false, laid := [("pub-mailsack/pub/kmsg/inner/kbin.ErrNotEnoughData", laid_pub_mailsack_pub_kmsg_inner_kbin_ErrNotEnoughData)], narrowed := true }
def FnFrameDescribeTopicPartitionsRequestUptoSaid : Prop := fnFrameDescribeTopicPartitionsRequestUptoRow.holds Tryz.pinned (OpenSpec.upto fnFrameDescribeTopicPartitionsRequestSpec)

/-- 'laws.FnFrameDescribeClientQuotasRequest', WHERE WHAT IT READS IS OF BULK AT MOST 1048576: true; the input reads as it did. -/
def fnFrameDescribeClientQuotasRequestUptoRow : OpenClaim := { program := "ytjjlhkdjjicpeaagreatdoorr", sum := "c07311eb39f8166611849ccdd5e7bd32629ca12ad4ccca6704026370d2e57675", func := "pub-mailsack/laws.FnFrameDescribeClientQuotasRequest", spec := "fnFrameDescribeClientQuotasRequest", unfollowed := true, recurses := true, named := ["encoding/binary.BigEndian", "pub-mailsack/pub/kmsg/inner/kbin.ErrNotEnoughData"], loops := true, apart := false, laid := [("pub-mailsack/pub/kmsg/inner/kbin.ErrNotEnoughData", laid_pub_mailsack_pub_kmsg_inner_kbin_ErrNotEnoughData)], narrowed := true }
def FnFrameDescribeClientQuotasRequestUptoSaid : Prop := fnFrameDescribeClientQuotasRequestUptoRow.holds Tryz.pinned (OpenSpec.upto fnFrameDescribeClientQuotasRequestSpec)

end Rows
end Go.Proofs.YtjjlhkdjjicpeaaGreatDoorR
