/-
  DERIVED. GIVEN WITH THE SEED: THE CARDS: each row of YtjjlhkdjjicpeaaGreatDoorRRows.lean that lists a variable, with what it lists TIED to the program's text (the seventh form; the later family's looks); each row that meets fmt, with fmt's text TOLD by the authors' own Lean function (tested against real Go, not proved from fmt's source: count such statements apart). THE CARD IS WHAT COUNTS. Prove the row's statement (the work); the ties are given (YtjjlhkdjjicpeaaGreatDoorRTie.lean); close each card by the builder's one call (the guide's Derived/Test/ToyasCard.lean, 'card_holds'). Laid BY PROGRAM, IN A SANDBOX (cutbox-door.mjs). By AI agents, Wed Nov 11 2026. No macro, syntax, notation, axiom, sorry.
-/
import Derived.Test.YtjjlhkdjjicpeaaGreatDoorRRows
import GoSem.ClaimSeven
namespace Go.Proofs.YtjjlhkdjjicpeaaGreatDoorR
namespace Rows

/-- THE TIED CARD OF 'laws.FnFrameAddRaftVoterRequest'. -/
def fnFrameAddRaftVoterRequestCard : Claim7 := { stood := { row := fnFrameAddRaftVoterRequestRow, standIns := [], harness := (true, "9e7368f33bcb76b8989af29983fb7d14f03c78598ef3db956c7cfdc5d07b335c"), looks := false }, kinds := [], alts := [], laidByText := true, laidKinds := [.sentinel], laidTests := true, laidLooks := .later }
def FnFrameAddRaftVoterRequestCardSaid : Prop := Claim7.holds Tryz.pinned (.plain (OpenSpec.ofChange fnFrameAddRaftVoterRequestSpec)) fnFrameAddRaftVoterRequestCard

/-- THE TIED CARD OF 'laws.FnFrameAlterConfigsRequest'. -/
def fnFrameAlterConfigsRequestCard : Claim7 := { stood := { row := fnFrameAlterConfigsRequestRow, standIns := [], harness := (true, "9e7368f33bcb76b8989af29983fb7d14f03c78598ef3db956c7cfdc5d07b335c"), looks := false }, kinds := [], alts := [], laidByText := true, laidKinds := [.sentinel], laidTests := true, laidLooks := .later }
def FnFrameAlterConfigsRequestCardSaid : Prop := Claim7.holds Tryz.pinned (.plain (OpenSpec.ofChange fnFrameAlterConfigsRequestSpec)) fnFrameAlterConfigsRequestCard

/-- THE TIED CARD OF 'laws.FnFrameRenewDelegationTokenRequest'. -/
def fnFrameRenewDelegationTokenRequestCard : Claim7 := { stood := { row := fnFrameRenewDelegationTokenRequestRow, standIns := [], harness := (true, "9e7368f33bcb76b8989af29983fb7d14f03c78598ef3db956c7cfdc5d07b335c"), looks := false }, kinds := [], alts := [], laidByText := true, laidKinds := [.sentinel], laidTests := true, laidLooks := .later }
def FnFrameRenewDelegationTokenRequestCardSaid : Prop := Claim7.holds Tryz.pinned (.plain (OpenSpec.ofChange fnFrameRenewDelegationTokenRequestSpec)) fnFrameRenewDelegationTokenRequestCard

/-- THE TIED CARD OF 'laws.FnFrameEnvelopeRequest'. -/
def fnFrameEnvelopeRequestCard : Claim7 := { stood := { row := fnFrameEnvelopeRequestRow, standIns := [], harness := (true, "9e7368f33bcb76b8989af29983fb7d14f03c78598ef3db956c7cfdc5d07b335c"), looks := false }, kinds := [], alts := [], laidByText := true, laidKinds := [.sentinel], laidTests := true, laidLooks := .later }
def FnFrameEnvelopeRequestCardSaid : Prop := Claim7.holds Tryz.pinned (.plain (OpenSpec.ofChange fnFrameEnvelopeRequestSpec)) fnFrameEnvelopeRequestCard

/-- THE TIED CARD OF 'laws.FnFrameHeartbeatRequest'. -/
def fnFrameHeartbeatRequestCard : Claim7 := { stood := { row := fnFrameHeartbeatRequestRow, standIns := [], harness := (true, "9e7368f33bcb76b8989af29983fb7d14f03c78598ef3db956c7cfdc5d07b335c"), looks := false }, kinds := [], alts := [], laidByText := true, laidKinds := [.sentinel], laidTests := true, laidLooks := .later }
def FnFrameHeartbeatRequestCardSaid : Prop := Claim7.holds Tryz.pinned (.plain (OpenSpec.ofChange fnFrameHeartbeatRequestSpec)) fnFrameHeartbeatRequestCard

/-- THE TIED CARD OF 'laws.FnFrameDescribeProducersRequest'. -/
def fnFrameDescribeProducersRequestCard : Claim7 := { stood := { row := fnFrameDescribeProducersRequestRow, standIns := [], harness := (true, "9e7368f33bcb76b8989af29983fb7d14f03c78598ef3db956c7cfdc5d07b335c"), looks := false }, kinds := [], alts := [], laidByText := true, laidKinds := [.sentinel], laidTests := true, laidLooks := .later }
def FnFrameDescribeProducersRequestCardSaid : Prop := Claim7.holds Tryz.pinned (.plain (OpenSpec.ofChange fnFrameDescribeProducersRequestSpec)) fnFrameDescribeProducersRequestCard

/-- THE TIED CARD OF 'laws.FnFrameElectLeadersRequest'. -/
def fnFrameElectLeadersRequestCard : Claim7 := { stood := { row := fnFrameElectLeadersRequestRow, standIns := [], harness := (true, "9e7368f33bcb76b8989af29983fb7d14f03c78598ef3db956c7cfdc5d07b335c"), looks := false }, kinds := [], alts := [], laidByText := true, laidKinds := [.sentinel], laidTests := true, laidLooks := .later }
def FnFrameElectLeadersRequestCardSaid : Prop := Claim7.holds Tryz.pinned (.plain (OpenSpec.ofChange fnFrameElectLeadersRequestSpec)) fnFrameElectLeadersRequestCard

/-- THE TIED CARD OF 'laws.FnFrameDescribeTopicPartitionsRequest'. -/
def fnFrameDescribeTopicPartitionsRequestCard : Claim7 := { stood := { row := fnFrameDescribeTopicPartitionsRequestRow, standIns := [], harness := (true, "9e7368f33bcb76b8989af29983fb7d14f03c78598ef3db956c7cfdc5d07b335c"), looks := false }, kinds := [], alts := [], laidByText := true, laidKinds := [.sentinel], laidTests := true, laidLooks := .later }
def FnFrameDescribeTopicPartitionsRequestCardSaid : Prop := Claim7.holds Tryz.pinned (.plain (OpenSpec.ofChange fnFrameDescribeTopicPartitionsRequestSpec)) fnFrameDescribeTopicPartitionsRequestCard

/-- THE TIED CARD OF 'laws.FnFrameDescribeClientQuotasRequest'. -/
def fnFrameDescribeClientQuotasRequestCard : Claim7 := { stood := { row := fnFrameDescribeClientQuotasRequestRow, standIns := [], harness := (true, "9e7368f33bcb76b8989af29983fb7d14f03c78598ef3db956c7cfdc5d07b335c"), looks := false }, kinds := [], alts := [], laidByText := true, laidKinds := [.sentinel], laidTests := true, laidLooks := .later }
def FnFrameDescribeClientQuotasRequestCardSaid : Prop := Claim7.holds Tryz.pinned (.plain (OpenSpec.ofChange fnFrameDescribeClientQuotasRequestSpec)) fnFrameDescribeClientQuotasRequestCard

/-- THE SECOND FORM's CARD OF 'laws.FnFrameAddRaftVoterRequest'. -/
def fnFrameAddRaftVoterRequestUptoCard : Claim7 := { stood := { row := fnFrameAddRaftVoterRequestUptoRow, standIns := [], harness := (true, "9e7368f33bcb76b8989af29983fb7d14f03c78598ef3db956c7cfdc5d07b335c"), looks := false }, kinds := [], alts := [], laidByText := true, laidKinds := [.sentinel], laidTests := true, laidLooks := .later }
def FnFrameAddRaftVoterRequestUptoCardSaid : Prop := Claim7.holds Tryz.pinned (.plain (OpenSpec.upto fnFrameAddRaftVoterRequestSpec)) fnFrameAddRaftVoterRequestUptoCard

/-- THE SECOND FORM's CARD OF 'laws.FnFrameAlterConfigsRequest'. -/
def fnFrameAlterConfigsRequestUptoCard : Claim7 := { stood := { row := fnFrameAlterConfigsRequestUptoRow, standIns := [], harness := (true, "9e7368f33bcb76b8989af29983fb7d14f03c78598ef3db956c7cfdc5d07b335c"), looks := false }, kinds := [], alts := [], laidByText := true, laidKinds := [.sentinel], laidTests := true, laidLooks := .later }
def FnFrameAlterConfigsRequestUptoCardSaid : Prop := Claim7.holds Tryz.pinned (.plain (OpenSpec.upto fnFrameAlterConfigsRequestSpec)) fnFrameAlterConfigsRequestUptoCard

/-- THE SECOND FORM's CARD OF 'laws.FnFrameRenewDelegationTokenRequest'. -/
def fnFrameRenewDelegationTokenRequestUptoCard : Claim7 := { stood := { row := fnFrameRenewDelegationTokenRequestUptoRow, standIns := [], harness := (true, "9e7368f33bcb76b8989af29983fb7d14f03c78598ef3db956c7cfdc5d07b335c"), looks := false }, kinds := [], alts := [], laidByText := true, laidKinds := [.sentinel], laidTests := true, laidLooks := .later }
def FnFrameRenewDelegationTokenRequestUptoCardSaid : Prop := Claim7.holds Tryz.pinned (.plain (OpenSpec.upto fnFrameRenewDelegationTokenRequestSpec)) fnFrameRenewDelegationTokenRequestUptoCard

/-- THE SECOND FORM's CARD OF 'laws.FnFrameEnvelopeRequest'. -/
def fnFrameEnvelopeRequestUptoCard : Claim7 := { stood := { row := fnFrameEnvelopeRequestUptoRow, standIns := [], harness := (true, "9e7368f33bcb76b8989af29983fb7d14f03c78598ef3db956c7cfdc5d07b335c"), looks := false }, kinds := [], alts := [], laidByText := true, laidKinds := [.sentinel], laidTests := true, laidLooks := .later }
def FnFrameEnvelopeRequestUptoCardSaid : Prop := Claim7.holds Tryz.pinned (.plain (OpenSpec.upto fnFrameEnvelopeRequestSpec)) fnFrameEnvelopeRequestUptoCard

/-- THE SECOND FORM's CARD OF 'laws.FnFrameHeartbeatRequest'. -/
def fnFrameHeartbeatRequestUptoCard : Claim7 := { stood := { row := fnFrameHeartbeatRequestUptoRow, standIns := [], harness := (true, "9e7368f33bcb76b8989af29983fb7d14f03c78598ef3db956c7cfdc5d07b335c"), looks := false }, kinds := [], alts := [], laidByText := true, laidKinds := [.sentinel], laidTests := true, laidLooks := .later }
def FnFrameHeartbeatRequestUptoCardSaid : Prop := Claim7.holds Tryz.pinned (.plain (OpenSpec.upto fnFrameHeartbeatRequestSpec)) fnFrameHeartbeatRequestUptoCard

/-- THE SECOND FORM's CARD OF 'laws.FnFrameDescribeProducersRequest'. -/
def fnFrameDescribeProducersRequestUptoCard : Claim7 := { stood := { row := fnFrameDescribeProducersRequestUptoRow, standIns := [], harness := (true, "9e7368f33bcb76b8989af29983fb7d14f03c78598ef3db956c7cfdc5d07b335c"), looks := false }, kinds := [], alts := [], laidByText := true, laidKinds := [.sentinel], laidTests := true, laidLooks := .later }
def FnFrameDescribeProducersRequestUptoCardSaid : Prop := Claim7.holds Tryz.pinned (.plain (OpenSpec.upto fnFrameDescribeProducersRequestSpec)) fnFrameDescribeProducersRequestUptoCard

/-- THE SECOND FORM's CARD OF 'laws.FnFrameElectLeadersRequest'. -/
def fnFrameElectLeadersRequestUptoCard : Claim7 := { stood := { row := fnFrameElectLeadersRequestUptoRow, standIns := [], harness := (true, "9e7368f33bcb76b8989af29983fb7d14f03c78598ef3db956c7cfdc5d07b335c"), looks := false }, kinds := [], alts := [], laidByText := true, laidKinds := [.sentinel], laidTests := true, laidLooks := .later }
def FnFrameElectLeadersRequestUptoCardSaid : Prop := Claim7.holds Tryz.pinned (.plain (OpenSpec.upto fnFrameElectLeadersRequestSpec)) fnFrameElectLeadersRequestUptoCard

/-- THE SECOND FORM's CARD OF 'laws.FnFrameDescribeTopicPartitionsRequest'. -/
def fnFrameDescribeTopicPartitionsRequestUptoCard : Claim7 := { stood := { row := fnFrameDescribeTopicPartitionsRequestUptoRow, standIns := [], harness := (true, "9e7368f33bcb76b8989af29983fb7d14f03c78598ef3db956c7cfdc5d07b335c"), looks := false }, kinds := [], alts := [], laidByText := true, laidKinds := [.sentinel], laidTests := true, laidLooks := .later }
def FnFrameDescribeTopicPartitionsRequestUptoCardSaid : Prop := Claim7.holds Tryz.pinned (.plain (OpenSpec.upto fnFrameDescribeTopicPartitionsRequestSpec)) fnFrameDescribeTopicPartitionsRequestUptoCard

/-- THE SECOND FORM's CARD OF 'laws.FnFrameDescribeClientQuotasRequest'. -/
def fnFrameDescribeClientQuotasRequestUptoCard : Claim7 := { stood := { row := fnFrameDescribeClientQuotasRequestUptoRow, standIns := [], harness := (true, "9e7368f33bcb76b8989af29983fb7d14f03c78598ef3db956c7cfdc5d07b335c"), looks := false }, kinds := [], alts := [], laidByText := true, laidKinds := [.sentinel], laidTests := true, laidLooks := .later }
def FnFrameDescribeClientQuotasRequestUptoCardSaid : Prop := Claim7.holds Tryz.pinned (.plain (OpenSpec.upto fnFrameDescribeClientQuotasRequestSpec)) fnFrameDescribeClientQuotasRequestUptoCard
end Rows
end Go.Proofs.YtjjlhkdjjicpeaaGreatDoorR
