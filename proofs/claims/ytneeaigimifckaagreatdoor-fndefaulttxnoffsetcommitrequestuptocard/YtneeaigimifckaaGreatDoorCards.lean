/-
  DERIVED. GIVEN WITH THE SEED: THE CARDS: each row of YtneeaigimifckaaGreatDoorRows.lean that lists a variable, with what it lists TIED to the program's text (the seventh form; the later family's looks); each row that meets fmt, with fmt's text TOLD by the authors' own Lean function (tested against real Go, not proved from fmt's source: count such statements apart). THE CARD IS WHAT COUNTS. Prove the row's statement (the work); the ties are given (YtneeaigimifckaaGreatDoorTie.lean); close each card by the builder's one call (the guide's Derived/Test/ToyasCard.lean, 'card_holds'). Laid BY PROGRAM, IN A SANDBOX (cutbox-door.mjs). By AI agents, Wed Nov 11 2026. No macro, syntax, notation, axiom, sorry.
-/
import Derived.Test.YtneeaigimifckaaGreatDoorRows
import GoSem.ClaimSeven
namespace Go.Proofs.YtneeaigimifckaaGreatDoor
namespace Rows

/-- THE TIED CARD OF 'laws.FnTellListConfigResourcesResponse'. -/
def fnTellListConfigResourcesResponseCard : Claim7 := { stood := { row := fnTellListConfigResourcesResponseRow, standIns := [], harness := (true, "11d6fe98328b41f89819ae9851bec22c810d77b60bdf04d199d7357d2c21f344"), looks := false }, kinds := [], alts := [], laidByText := true, laidKinds := [.sentinel], laidTests := true, laidLooks := .later }
def FnTellListConfigResourcesResponseCardSaid : Prop := Claim7.holds Tryz.pinned (.plain (OpenSpec.ofChange fnTellListConfigResourcesResponseSpec)) fnTellListConfigResourcesResponseCard

/-- THE TIED CARD OF 'laws.FnDefaultUpdateFeaturesRequest'. -/
def fnDefaultUpdateFeaturesRequestCard : Claim7 := { stood := { row := fnDefaultUpdateFeaturesRequestRow, standIns := [], harness := (true, "11d6fe98328b41f89819ae9851bec22c810d77b60bdf04d199d7357d2c21f344"), looks := false }, kinds := [], alts := [], laidByText := true, laidKinds := [.sentinel], laidTests := true, laidLooks := .later }
def FnDefaultUpdateFeaturesRequestCardSaid : Prop := Claim7.holds Tryz.pinned (.plain (OpenSpec.ofChange fnDefaultUpdateFeaturesRequestSpec)) fnDefaultUpdateFeaturesRequestCard

/-- THE TIED CARD OF 'laws.FnDefaultOffsetForLeaderEpochRequest'. -/
def fnDefaultOffsetForLeaderEpochRequestCard : Claim7 := { stood := { row := fnDefaultOffsetForLeaderEpochRequestRow, standIns := [], harness := (true, "11d6fe98328b41f89819ae9851bec22c810d77b60bdf04d199d7357d2c21f344"), looks := false }, kinds := [], alts := [], laidByText := true, laidKinds := [.sentinel], laidTests := true, laidLooks := .later }
def FnDefaultOffsetForLeaderEpochRequestCardSaid : Prop := Claim7.holds Tryz.pinned (.plain (OpenSpec.ofChange fnDefaultOffsetForLeaderEpochRequestSpec)) fnDefaultOffsetForLeaderEpochRequestCard

/-- THE TIED CARD OF 'laws.FnTellLeaveGroupRequest'. -/
def fnTellLeaveGroupRequestCard : Claim7 := { stood := { row := fnTellLeaveGroupRequestRow, standIns := [], harness := (true, "11d6fe98328b41f89819ae9851bec22c810d77b60bdf04d199d7357d2c21f344"), looks := false }, kinds := [], alts := [], laidByText := true, laidKinds := [.sentinel], laidTests := true, laidLooks := .later }
def FnTellLeaveGroupRequestCardSaid : Prop := Claim7.holds Tryz.pinned (.plain (OpenSpec.ofChange fnTellLeaveGroupRequestSpec)) fnTellLeaveGroupRequestCard

/-- THE TIED CARD OF 'laws.FnTellCreateDelegationTokenRequest'. -/
def fnTellCreateDelegationTokenRequestCard : Claim7 := { stood := { row := fnTellCreateDelegationTokenRequestRow, standIns := [], harness := (true, "11d6fe98328b41f89819ae9851bec22c810d77b60bdf04d199d7357d2c21f344"), looks := false }, kinds := [], alts := [], laidByText := true, laidKinds := [.sentinel], laidTests := true, laidLooks := .later }
def FnTellCreateDelegationTokenRequestCardSaid : Prop := Claim7.holds Tryz.pinned (.plain (OpenSpec.ofChange fnTellCreateDelegationTokenRequestSpec)) fnTellCreateDelegationTokenRequestCard

/-- THE TIED CARD OF 'laws.FnDefaultOffsetCommitRequest'. -/
def fnDefaultOffsetCommitRequestCard : Claim7 := { stood := { row := fnDefaultOffsetCommitRequestRow, standIns := [], harness := (true, "11d6fe98328b41f89819ae9851bec22c810d77b60bdf04d199d7357d2c21f344"), looks := false }, kinds := [], alts := [], laidByText := true, laidKinds := [.sentinel], laidTests := true, laidLooks := .later }
def FnDefaultOffsetCommitRequestCardSaid : Prop := Claim7.holds Tryz.pinned (.plain (OpenSpec.ofChange fnDefaultOffsetCommitRequestSpec)) fnDefaultOffsetCommitRequestCard

/-- THE TIED CARD OF 'laws.FnDefaultTxnOffsetCommitRequest'. -/
def fnDefaultTxnOffsetCommitRequestCard : Claim7 := { stood := { row := fnDefaultTxnOffsetCommitRequestRow, standIns := [], harness := (true, "11d6fe98328b41f89819ae9851bec22c810d77b60bdf04d199d7357d2c21f344"), looks := false }, kinds := [], alts := [], laidByText := true, laidKinds := [.sentinel], laidTests := true, laidLooks := .later }
def FnDefaultTxnOffsetCommitRequestCardSaid : Prop := Claim7.holds Tryz.pinned (.plain (OpenSpec.ofChange fnDefaultTxnOffsetCommitRequestSpec)) fnDefaultTxnOffsetCommitRequestCard

/-- THE SECOND FORM's CARD OF 'laws.FnTellListConfigResourcesResponse'. -/
def fnTellListConfigResourcesResponseUptoCard : Claim7 := { stood := { row := fnTellListConfigResourcesResponseUptoRow, standIns := [], harness := (true, "11d6fe98328b41f89819ae9851bec22c810d77b60bdf04d199d7357d2c21f344"), looks := false }, kinds := [], alts := [], laidByText := true, laidKinds := [.sentinel], laidTests := true, laidLooks := .later }
def FnTellListConfigResourcesResponseUptoCardSaid : Prop := Claim7.holds Tryz.pinned (.plain (OpenSpec.upto fnTellListConfigResourcesResponseSpec)) fnTellListConfigResourcesResponseUptoCard

/-- THE SECOND FORM's CARD OF 'laws.FnDefaultUpdateFeaturesRequest'. -/
def fnDefaultUpdateFeaturesRequestUptoCard : Claim7 := { stood := { row := fnDefaultUpdateFeaturesRequestUptoRow, standIns := [], harness := (true, "11d6fe98328b41f89819ae9851bec22c810d77b60bdf04d199d7357d2c21f344"), looks := false }, kinds := [], alts := [], laidByText := true, laidKinds := [.sentinel], laidTests := true, laidLooks := .later }
def FnDefaultUpdateFeaturesRequestUptoCardSaid : Prop := Claim7.holds Tryz.pinned (.plain (OpenSpec.upto fnDefaultUpdateFeaturesRequestSpec)) fnDefaultUpdateFeaturesRequestUptoCard

/-- THE SECOND FORM's CARD OF 'laws.FnDefaultOffsetForLeaderEpochRequest'. -/
def fnDefaultOffsetForLeaderEpochRequestUptoCard : Claim7 := { stood := { row := fnDefaultOffsetForLeaderEpochRequestUptoRow, standIns := [], harness := (true, "11d6fe98328b41f89819ae9851bec22c810d77b60bdf04d199d7357d2c21f344"), looks := false }, kinds := [], alts := [], laidByText := true, laidKinds := [.sentinel], laidTests := true, laidLooks := .later }
def FnDefaultOffsetForLeaderEpochRequestUptoCardSaid : Prop := Claim7.holds Tryz.pinned (.plain (OpenSpec.upto fnDefaultOffsetForLeaderEpochRequestSpec)) fnDefaultOffsetForLeaderEpochRequestUptoCard

/-- THE SECOND FORM's CARD OF 'laws.FnTellLeaveGroupRequest'. -/
def fnTellLeaveGroupRequestUptoCard : Claim7 := { stood := { row := fnTellLeaveGroupRequestUptoRow, standIns := [], harness := (true, "11d6fe98328b41f89819ae9851bec22c810d77b60bdf04d199d7357d2c21f344"), looks := false }, kinds := [], alts := [], laidByText := true, laidKinds := [.sentinel], laidTests := true, laidLooks := .later }
def FnTellLeaveGroupRequestUptoCardSaid : Prop := Claim7.holds Tryz.pinned (.plain (OpenSpec.upto fnTellLeaveGroupRequestSpec)) fnTellLeaveGroupRequestUptoCard

/-- THE SECOND FORM's CARD OF 'laws.FnTellCreateDelegationTokenRequest'. -/
def fnTellCreateDelegationTokenRequestUptoCard : Claim7 := { stood := { row := fnTellCreateDelegationTokenRequestUptoRow, standIns := [], harness := (true, "11d6fe98328b41f89819ae9851bec22c810d77b60bdf04d199d7357d2c21f344"), looks := false }, kinds := [], alts := [], laidByText := true, laidKinds := [.sentinel], laidTests := true, laidLooks := .later }
def FnTellCreateDelegationTokenRequestUptoCardSaid : Prop := Claim7.holds Tryz.pinned (.plain (OpenSpec.upto fnTellCreateDelegationTokenRequestSpec)) fnTellCreateDelegationTokenRequestUptoCard

/-- THE SECOND FORM's CARD OF 'laws.FnDefaultOffsetCommitRequest'. -/
def fnDefaultOffsetCommitRequestUptoCard : Claim7 := { stood := { row := fnDefaultOffsetCommitRequestUptoRow, standIns := [], harness := (true, "11d6fe98328b41f89819ae9851bec22c810d77b60bdf04d199d7357d2c21f344"), looks := false }, kinds := [], alts := [], laidByText := true, laidKinds := [.sentinel], laidTests := true, laidLooks := .later }
def FnDefaultOffsetCommitRequestUptoCardSaid : Prop := Claim7.holds Tryz.pinned (.plain (OpenSpec.upto fnDefaultOffsetCommitRequestSpec)) fnDefaultOffsetCommitRequestUptoCard

/-- THE SECOND FORM's CARD OF 'laws.FnDefaultTxnOffsetCommitRequest'. -/
def fnDefaultTxnOffsetCommitRequestUptoCard : Claim7 := { stood := { row := fnDefaultTxnOffsetCommitRequestUptoRow, standIns := [], harness := (true, "11d6fe98328b41f89819ae9851bec22c810d77b60bdf04d199d7357d2c21f344"), looks := false }, kinds := [], alts := [], laidByText := true, laidKinds := [.sentinel], laidTests := true, laidLooks := .later }
def FnDefaultTxnOffsetCommitRequestUptoCardSaid : Prop := Claim7.holds Tryz.pinned (.plain (OpenSpec.upto fnDefaultTxnOffsetCommitRequestSpec)) fnDefaultTxnOffsetCommitRequestUptoCard
end Rows
end Go.Proofs.YtneeaigimifckaaGreatDoor
