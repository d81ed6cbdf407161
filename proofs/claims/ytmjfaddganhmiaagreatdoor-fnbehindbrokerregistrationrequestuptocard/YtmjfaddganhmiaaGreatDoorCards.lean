/-
  DERIVED. GIVEN WITH THE SEED: THE CARDS: each row of YtmjfaddganhmiaaGreatDoorRows.lean that lists a variable, with what it lists TIED to the program's text (the seventh form; the later family's looks); each row that meets fmt, with fmt's text TOLD by the authors' own Lean function (tested against real Go, not proved from fmt's source: count such statements apart). THE CARD IS WHAT COUNTS. Prove the row's statement (the work); the ties are given (YtmjfaddganhmiaaGreatDoorTie.lean); close each card by the builder's one call (the guide's Derived/Test/ToyasCard.lean, 'card_holds'). Laid BY PROGRAM, IN A SANDBOX (cutbox-door.mjs). By AI agents, Wed Nov 11 2026. No macro, syntax, notation, axiom, sorry.
-/
import Derived.Test.YtmjfaddganhmiaaGreatDoorRows
import GoSem.ClaimSeven
namespace Go.Proofs.YtmjfaddganhmiaaGreatDoor
namespace Rows

/-- THE TIED CARD OF 'laws.FnBehindUnregisterBrokerResponse'. -/
def fnBehindUnregisterBrokerResponseCard : Claim7 := { stood := { row := fnBehindUnregisterBrokerResponseRow, standIns := [], harness := (true, "70d1ef7725d82499d4fcc8add15df7bcb56fd0a2fa6ef140c42e43aba5b15fcf"), looks := false }, kinds := [], alts := [], laidByText := true, laidKinds := [.sentinel], laidTests := true, laidLooks := .later }
def FnBehindUnregisterBrokerResponseCardSaid : Prop := Claim7.holds Tryz.pinned (.plain (OpenSpec.ofChange fnBehindUnregisterBrokerResponseSpec)) fnBehindUnregisterBrokerResponseCard

/-- THE TIED CARD OF 'laws.FnBehindStreamsGroupTopologyDescriptionUpdateResponse'. -/
def fnBehindStreamsGroupTopologyDescriptionUpdateResponseCard : Claim7 := { stood := { row := fnBehindStreamsGroupTopologyDescriptionUpdateResponseRow, standIns := [], harness := (true, "70d1ef7725d82499d4fcc8add15df7bcb56fd0a2fa6ef140c42e43aba5b15fcf"), looks := false }, kinds := [], alts := [], laidByText := true, laidKinds := [.sentinel], laidTests := true, laidLooks := .later }
def FnBehindStreamsGroupTopologyDescriptionUpdateResponseCardSaid : Prop := Claim7.holds Tryz.pinned (.plain (OpenSpec.ofChange fnBehindStreamsGroupTopologyDescriptionUpdateResponseSpec)) fnBehindStreamsGroupTopologyDescriptionUpdateResponseCard

/-- THE TIED CARD OF 'laws.FnBehindApiVersionsRequest'. -/
def fnBehindApiVersionsRequestCard : Claim7 := { stood := { row := fnBehindApiVersionsRequestRow, standIns := [], harness := (true, "70d1ef7725d82499d4fcc8add15df7bcb56fd0a2fa6ef140c42e43aba5b15fcf"), looks := false }, kinds := [], alts := [], laidByText := true, laidKinds := [.sentinel], laidTests := true, laidLooks := .later }
def FnBehindApiVersionsRequestCardSaid : Prop := Claim7.holds Tryz.pinned (.plain (OpenSpec.ofChange fnBehindApiVersionsRequestSpec)) fnBehindApiVersionsRequestCard

/-- THE TIED CARD OF 'laws.FnBehindReadShareGroupStateRequest'. -/
def fnBehindReadShareGroupStateRequestCard : Claim7 := { stood := { row := fnBehindReadShareGroupStateRequestRow, standIns := [], harness := (true, "70d1ef7725d82499d4fcc8add15df7bcb56fd0a2fa6ef140c42e43aba5b15fcf"), looks := false }, kinds := [], alts := [], laidByText := true, laidKinds := [.sentinel], laidTests := true, laidLooks := .later }
def FnBehindReadShareGroupStateRequestCardSaid : Prop := Claim7.holds Tryz.pinned (.plain (OpenSpec.ofChange fnBehindReadShareGroupStateRequestSpec)) fnBehindReadShareGroupStateRequestCard

/-- THE TIED CARD OF 'laws.FnBehindInitializeShareGroupStateRequest'. -/
def fnBehindInitializeShareGroupStateRequestCard : Claim7 := { stood := { row := fnBehindInitializeShareGroupStateRequestRow, standIns := [], harness := (true, "70d1ef7725d82499d4fcc8add15df7bcb56fd0a2fa6ef140c42e43aba5b15fcf"), looks := false }, kinds := [], alts := [], laidByText := true, laidKinds := [.sentinel], laidTests := true, laidLooks := .later }
def FnBehindInitializeShareGroupStateRequestCardSaid : Prop := Claim7.holds Tryz.pinned (.plain (OpenSpec.ofChange fnBehindInitializeShareGroupStateRequestSpec)) fnBehindInitializeShareGroupStateRequestCard

/-- THE TIED CARD OF 'laws.FnBehindReadShareGroupStateSummaryResponse'. -/
def fnBehindReadShareGroupStateSummaryResponseCard : Claim7 := { stood := { row := fnBehindReadShareGroupStateSummaryResponseRow, standIns := [], harness := (true, "70d1ef7725d82499d4fcc8add15df7bcb56fd0a2fa6ef140c42e43aba5b15fcf"), looks := false }, kinds := [], alts := [], laidByText := true, laidKinds := [.sentinel], laidTests := true, laidLooks := .later }
def FnBehindReadShareGroupStateSummaryResponseCardSaid : Prop := Claim7.holds Tryz.pinned (.plain (OpenSpec.ofChange fnBehindReadShareGroupStateSummaryResponseSpec)) fnBehindReadShareGroupStateSummaryResponseCard

/-- THE TIED CARD OF 'laws.FnBehindAlterPartitionAssignmentsResponse'. -/
def fnBehindAlterPartitionAssignmentsResponseCard : Claim7 := { stood := { row := fnBehindAlterPartitionAssignmentsResponseRow, standIns := [], harness := (true, "70d1ef7725d82499d4fcc8add15df7bcb56fd0a2fa6ef140c42e43aba5b15fcf"), looks := false }, kinds := [], alts := [], laidByText := true, laidKinds := [.sentinel], laidTests := true, laidLooks := .later }
def FnBehindAlterPartitionAssignmentsResponseCardSaid : Prop := Claim7.holds Tryz.pinned (.plain (OpenSpec.ofChange fnBehindAlterPartitionAssignmentsResponseSpec)) fnBehindAlterPartitionAssignmentsResponseCard

/-- THE TIED CARD OF 'laws.FnBehindFindCoordinatorResponse'. -/
def fnBehindFindCoordinatorResponseCard : Claim7 := { stood := { row := fnBehindFindCoordinatorResponseRow, standIns := [], harness := (true, "70d1ef7725d82499d4fcc8add15df7bcb56fd0a2fa6ef140c42e43aba5b15fcf"), looks := false }, kinds := [], alts := [], laidByText := true, laidKinds := [.sentinel], laidTests := true, laidLooks := .later }
def FnBehindFindCoordinatorResponseCardSaid : Prop := Claim7.holds Tryz.pinned (.plain (OpenSpec.ofChange fnBehindFindCoordinatorResponseSpec)) fnBehindFindCoordinatorResponseCard

/-- THE TIED CARD OF 'laws.FnBehindDescribeClusterResponse'. -/
def fnBehindDescribeClusterResponseCard : Claim7 := { stood := { row := fnBehindDescribeClusterResponseRow, standIns := [], harness := (true, "70d1ef7725d82499d4fcc8add15df7bcb56fd0a2fa6ef140c42e43aba5b15fcf"), looks := false }, kinds := [], alts := [], laidByText := true, laidKinds := [.sentinel], laidTests := true, laidLooks := .later }
def FnBehindDescribeClusterResponseCardSaid : Prop := Claim7.holds Tryz.pinned (.plain (OpenSpec.ofChange fnBehindDescribeClusterResponseSpec)) fnBehindDescribeClusterResponseCard

/-- THE TIED CARD OF 'laws.FnBehindVoteRequest'. -/
def fnBehindVoteRequestCard : Claim7 := { stood := { row := fnBehindVoteRequestRow, standIns := [], harness := (true, "70d1ef7725d82499d4fcc8add15df7bcb56fd0a2fa6ef140c42e43aba5b15fcf"), looks := false }, kinds := [], alts := [], laidByText := true, laidKinds := [.sentinel], laidTests := true, laidLooks := .later }
def FnBehindVoteRequestCardSaid : Prop := Claim7.holds Tryz.pinned (.plain (OpenSpec.ofChange fnBehindVoteRequestSpec)) fnBehindVoteRequestCard

/-- THE TIED CARD OF 'laws.FnBehindBrokerRegistrationRequest'. -/
def fnBehindBrokerRegistrationRequestCard : Claim7 := { stood := { row := fnBehindBrokerRegistrationRequestRow, standIns := [], harness := (true, "70d1ef7725d82499d4fcc8add15df7bcb56fd0a2fa6ef140c42e43aba5b15fcf"), looks := false }, kinds := [], alts := [], laidByText := true, laidKinds := [.sentinel], laidTests := true, laidLooks := .later }
def FnBehindBrokerRegistrationRequestCardSaid : Prop := Claim7.holds Tryz.pinned (.plain (OpenSpec.ofChange fnBehindBrokerRegistrationRequestSpec)) fnBehindBrokerRegistrationRequestCard

/-- THE TIED CARD OF 'laws.FnBehindDescribeGroupsResponse'. -/
def fnBehindDescribeGroupsResponseCard : Claim7 := { stood := { row := fnBehindDescribeGroupsResponseRow, standIns := [], harness := (true, "70d1ef7725d82499d4fcc8add15df7bcb56fd0a2fa6ef140c42e43aba5b15fcf"), looks := false }, kinds := [], alts := [], laidByText := true, laidKinds := [.sentinel], laidTests := true, laidLooks := .later }
def FnBehindDescribeGroupsResponseCardSaid : Prop := Claim7.holds Tryz.pinned (.plain (OpenSpec.ofChange fnBehindDescribeGroupsResponseSpec)) fnBehindDescribeGroupsResponseCard

/-- THE SECOND FORM's CARD OF 'laws.FnBehindUnregisterBrokerResponse'. -/
def fnBehindUnregisterBrokerResponseUptoCard : Claim7 := { stood := { row := fnBehindUnregisterBrokerResponseUptoRow, standIns := [], harness := (true, "70d1ef7725d82499d4fcc8add15df7bcb56fd0a2fa6ef140c42e43aba5b15fcf"), looks := false }, kinds := [], alts := [], laidByText := true, laidKinds := [.sentinel], laidTests := true, laidLooks := .later }
def FnBehindUnregisterBrokerResponseUptoCardSaid : Prop := Claim7.holds Tryz.pinned (.plain (OpenSpec.upto fnBehindUnregisterBrokerResponseSpec)) fnBehindUnregisterBrokerResponseUptoCard

/-- THE SECOND FORM's CARD OF 'laws.FnBehindStreamsGroupTopologyDescriptionUpdateResponse'. -/
def fnBehindStreamsGroupTopologyDescriptionUpdateResponseUptoCard : Claim7 := { stood := { row := fnBehindStreamsGroupTopologyDescriptionUpdateResponseUptoRow, standIns := [], harness := (true, "70d1ef7725d82499d4fcc8add15df7bcb56fd0a2fa6ef140c42e43aba5b15fcf"), looks := false }, kinds := [], alts := [], laidByText := true, laidKinds := [.sentinel], laidTests := true, laidLooks := .later }
def FnBehindStreamsGroupTopologyDescriptionUpdateResponseUptoCardSaid : Prop := Claim7.holds Tryz.pinned (.plain (OpenSpec.upto fnBehindStreamsGroupTopologyDescriptionUpdateResponseSpec)) fnBehindStreamsGroupTopologyDescriptionUpdateResponseUptoCard

/-- THE SECOND FORM's CARD OF 'laws.FnBehindApiVersionsRequest'. -/
def fnBehindApiVersionsRequestUptoCard : Claim7 := { stood := { row := fnBehindApiVersionsRequestUptoRow, standIns := [], harness := (true, "70d1ef7725d82499d4fcc8add15df7bcb56fd0a2fa6ef140c42e43aba5b15fcf"), looks := false }, kinds := [], alts := [], laidByText := true, laidKinds := [.sentinel], laidTests := true, laidLooks := .later }
def FnBehindApiVersionsRequestUptoCardSaid : Prop := Claim7.holds Tryz.pinned (.plain (OpenSpec.upto fnBehindApiVersionsRequestSpec)) fnBehindApiVersionsRequestUptoCard

/-- THE SECOND FORM's CARD OF 'laws.FnBehindReadShareGroupStateRequest'. -/
def fnBehindReadShareGroupStateRequestUptoCard : Claim7 := { stood := { row := fnBehindReadShareGroupStateRequestUptoRow, standIns := [], harness := (true, "70d1ef7725d82499d4fcc8add15df7bcb56fd0a2fa6ef140c42e43aba5b15fcf"), looks := false }, kinds := [], alts := [], laidByText := true, laidKinds := [.sentinel], laidTests := true, laidLooks := .later }
def FnBehindReadShareGroupStateRequestUptoCardSaid : Prop := Claim7.holds Tryz.pinned (.plain (OpenSpec.upto fnBehindReadShareGroupStateRequestSpec)) fnBehindReadShareGroupStateRequestUptoCard

/-- THE SECOND FORM's CARD OF 'laws.FnBehindInitializeShareGroupStateRequest'. -/
def fnBehindInitializeShareGroupStateRequestUptoCard : Claim7 := { stood := { row := fnBehindInitializeShareGroupStateRequestUptoRow, standIns := [], harness := (true, "70d1ef7725d82499d4fcc8add15df7bcb56fd0a2fa6ef140c42e43aba5b15fcf"), looks := false }, kinds := [], alts := [], laidByText := true, laidKinds := [.sentinel], laidTests := true, laidLooks := .later }
def FnBehindInitializeShareGroupStateRequestUptoCardSaid : Prop := Claim7.holds Tryz.pinned (.plain (OpenSpec.upto fnBehindInitializeShareGroupStateRequestSpec)) fnBehindInitializeShareGroupStateRequestUptoCard

/-- THE SECOND FORM's CARD OF 'laws.FnBehindReadShareGroupStateSummaryResponse'. -/
def fnBehindReadShareGroupStateSummaryResponseUptoCard : Claim7 := { stood := { row := fnBehindReadShareGroupStateSummaryResponseUptoRow, standIns := [], harness := (true, "70d1ef7725d82499d4fcc8add15df7bcb56fd0a2fa6ef140c42e43aba5b15fcf"), looks := false }, kinds := [], alts := [], laidByText := true, laidKinds := [.sentinel], laidTests := true, laidLooks := .later }
def FnBehindReadShareGroupStateSummaryResponseUptoCardSaid : Prop := Claim7.holds Tryz.pinned (.plain (OpenSpec.upto fnBehindReadShareGroupStateSummaryResponseSpec)) fnBehindReadShareGroupStateSummaryResponseUptoCard

/-- THE SECOND FORM's CARD OF 'laws.FnBehindAlterPartitionAssignmentsResponse'. -/
def fnBehindAlterPartitionAssignmentsResponseUptoCard : Claim7 := { stood := { row := fnBehindAlterPartitionAssignmentsResponseUptoRow, standIns := [], harness := (true, "70d1ef7725d82499d4fcc8add15df7bcb56fd0a2fa6ef140c42e43aba5b15fcf"), looks := false }, kinds := [], alts := [], laidByText := true, laidKinds := [.sentinel], laidTests := true, laidLooks := .later }
def FnBehindAlterPartitionAssignmentsResponseUptoCardSaid : Prop := Claim7.holds Tryz.pinned (.plain (OpenSpec.upto fnBehindAlterPartitionAssignmentsResponseSpec)) fnBehindAlterPartitionAssignmentsResponseUptoCard

/-- THE SECOND FORM's CARD OF 'laws.FnBehindFindCoordinatorResponse'. -/
def fnBehindFindCoordinatorResponseUptoCard : Claim7 := { stood := { row := fnBehindFindCoordinatorResponseUptoRow, standIns := [], harness := (true, "70d1ef7725d82499d4fcc8add15df7bcb56fd0a2fa6ef140c42e43aba5b15fcf"), looks := false }, kinds := [], alts := [], laidByText := true, laidKinds := [.sentinel], laidTests := true, laidLooks := .later }
def FnBehindFindCoordinatorResponseUptoCardSaid : Prop := Claim7.holds Tryz.pinned (.plain (OpenSpec.upto fnBehindFindCoordinatorResponseSpec)) fnBehindFindCoordinatorResponseUptoCard

/-- THE SECOND FORM's CARD OF 'laws.FnBehindDescribeClusterResponse'. -/
def fnBehindDescribeClusterResponseUptoCard : Claim7 := { stood := { row := fnBehindDescribeClusterResponseUptoRow, standIns := [], harness := (true, "70d1ef7725d82499d4fcc8add15df7bcb56fd0a2fa6ef140c42e43aba5b15fcf"), looks := false }, kinds := [], alts := [], laidByText := true, laidKinds := [.sentinel], laidTests := true, laidLooks := .later }
def FnBehindDescribeClusterResponseUptoCardSaid : Prop := Claim7.holds Tryz.pinned (.plain (OpenSpec.upto fnBehindDescribeClusterResponseSpec)) fnBehindDescribeClusterResponseUptoCard

/-- THE SECOND FORM's CARD OF 'laws.FnBehindVoteRequest'. -/
def fnBehindVoteRequestUptoCard : Claim7 := { stood := { row := fnBehindVoteRequestUptoRow, standIns := [], harness := (true, "70d1ef7725d82499d4fcc8add15df7bcb56fd0a2fa6ef140c42e43aba5b15fcf"), looks := false }, kinds := [], alts := [], laidByText := true, laidKinds := [.sentinel], laidTests := true, laidLooks := .later }
def FnBehindVoteRequestUptoCardSaid : Prop := Claim7.holds Tryz.pinned (.plain (OpenSpec.upto fnBehindVoteRequestSpec)) fnBehindVoteRequestUptoCard

/-- THE SECOND FORM's CARD OF 'laws.FnBehindBrokerRegistrationRequest'. -/
def fnBehindBrokerRegistrationRequestUptoCard : Claim7 := { stood := { row := fnBehindBrokerRegistrationRequestUptoRow, standIns := [], harness := (true, "70d1ef7725d82499d4fcc8add15df7bcb56fd0a2fa6ef140c42e43aba5b15fcf"), looks := false }, kinds := [], alts := [], laidByText := true, laidKinds := [.sentinel], laidTests := true, laidLooks := .later }
def FnBehindBrokerRegistrationRequestUptoCardSaid : Prop := Claim7.holds Tryz.pinned (.plain (OpenSpec.upto fnBehindBrokerRegistrationRequestSpec)) fnBehindBrokerRegistrationRequestUptoCard

/-- THE SECOND FORM's CARD OF 'laws.FnBehindDescribeGroupsResponse'. -/
def fnBehindDescribeGroupsResponseUptoCard : Claim7 := { stood := { row := fnBehindDescribeGroupsResponseUptoRow, standIns := [], harness := (true, "70d1ef7725d82499d4fcc8add15df7bcb56fd0a2fa6ef140c42e43aba5b15fcf"), looks := false }, kinds := [], alts := [], laidByText := true, laidKinds := [.sentinel], laidTests := true, laidLooks := .later }
def FnBehindDescribeGroupsResponseUptoCardSaid : Prop := Claim7.holds Tryz.pinned (.plain (OpenSpec.upto fnBehindDescribeGroupsResponseSpec)) fnBehindDescribeGroupsResponseUptoCard
end Rows
end Go.Proofs.YtmjfaddganhmiaaGreatDoor
