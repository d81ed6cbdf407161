/-
  DERIVED. GIVEN WITH THE SEED: THE CARDS: each row of YtefilhocfegfhaaDoorRows.lean that lists a variable, with what it lists TIED to the program's text (the seventh form; the later family's looks); each row that meets fmt, with fmt's text TOLD by the authors' own Lean function (tested against real Go, not proved from fmt's source: count such statements apart). THE CARD IS WHAT COUNTS. Prove the row's statement (the work); the ties are given (YtefilhocfegfhaaDoorTie.lean); close each card by the builder's one call (the guide's Derived/Test/ToyasCard.lean, 'card_holds'). Laid BY PROGRAM, IN A SANDBOX (cutbox-door.mjs). By AI agents, Wed Nov 11 2026. No macro, syntax, notation, axiom, sorry.
-/
import Derived.Test.YtefilhocfegfhaaDoorRows
import GoSem.ClaimSeven
namespace Go.Proofs.YtefilhocfegfhaaDoor
namespace Rows

/-- THE TIED CARD OF 'laws.FnUnsafeUpdateMetadataResponse'. -/
def fnUnsafeUpdateMetadataResponseCard : Claim7 := { stood := { row := fnUnsafeUpdateMetadataResponseRow, standIns := [], harness := (true, "4205697ac2f460611b6aec59fea1f34ef7aefe5fd74bed22d8ee81701e92312b"), looks := false }, kinds := [], alts := [], laidByText := true, laidKinds := [.sentinel], laidTests := true, laidLooks := .later }
def FnUnsafeUpdateMetadataResponseCardSaid : Prop := Claim7.holds Tryd.pinned (.plain (OpenSpec.ofChange fnUnsafeUpdateMetadataResponseSpec)) fnUnsafeUpdateMetadataResponseCard

/-- THE TIED CARD OF 'laws.FnUnsafeDefaultPrincipalData'. -/
def fnUnsafeDefaultPrincipalDataCard : Claim7 := { stood := { row := fnUnsafeDefaultPrincipalDataRow, standIns := [], harness := (true, "4205697ac2f460611b6aec59fea1f34ef7aefe5fd74bed22d8ee81701e92312b"), looks := false }, kinds := [], alts := [], laidByText := true, laidKinds := [.sentinel], laidTests := true, laidLooks := .later }
def FnUnsafeDefaultPrincipalDataCardSaid : Prop := Claim7.holds Tryd.pinned (.plain (OpenSpec.ofChange fnUnsafeDefaultPrincipalDataSpec)) fnUnsafeDefaultPrincipalDataCard

/-- THE TIED CARD OF 'laws.FnUnsafeWriteShareGroupStateResponse'. -/
def fnUnsafeWriteShareGroupStateResponseCard : Claim7 := { stood := { row := fnUnsafeWriteShareGroupStateResponseRow, standIns := [], harness := (true, "4205697ac2f460611b6aec59fea1f34ef7aefe5fd74bed22d8ee81701e92312b"), looks := false }, kinds := [], alts := [], laidByText := true, laidKinds := [.sentinel], laidTests := true, laidLooks := .later }
def FnUnsafeWriteShareGroupStateResponseCardSaid : Prop := Claim7.holds Tryd.pinned (.plain (OpenSpec.ofChange fnUnsafeWriteShareGroupStateResponseSpec)) fnUnsafeWriteShareGroupStateResponseCard

/-- THE TIED CARD OF 'laws.FnUnsafeAlterReplicaLogDirsRequest'. -/
def fnUnsafeAlterReplicaLogDirsRequestCard : Claim7 := { stood := { row := fnUnsafeAlterReplicaLogDirsRequestRow, standIns := [], harness := (true, "4205697ac2f460611b6aec59fea1f34ef7aefe5fd74bed22d8ee81701e92312b"), looks := false }, kinds := [], alts := [], laidByText := true, laidKinds := [.sentinel], laidTests := true, laidLooks := .later }
def FnUnsafeAlterReplicaLogDirsRequestCardSaid : Prop := Claim7.holds Tryd.pinned (.plain (OpenSpec.ofChange fnUnsafeAlterReplicaLogDirsRequestSpec)) fnUnsafeAlterReplicaLogDirsRequestCard

/-- THE TIED CARD OF 'laws.FnUnsafeListOffsetsRequest'. -/
def fnUnsafeListOffsetsRequestCard : Claim7 := { stood := { row := fnUnsafeListOffsetsRequestRow, standIns := [], harness := (true, "4205697ac2f460611b6aec59fea1f34ef7aefe5fd74bed22d8ee81701e92312b"), looks := false }, kinds := [], alts := [], laidByText := true, laidKinds := [.sentinel], laidTests := true, laidLooks := .later }
def FnUnsafeListOffsetsRequestCardSaid : Prop := Claim7.holds Tryd.pinned (.plain (OpenSpec.ofChange fnUnsafeListOffsetsRequestSpec)) fnUnsafeListOffsetsRequestCard

/-- THE TIED CARD OF 'laws.FnUnsafeAlterShareGroupOffsetsResponse'. -/
def fnUnsafeAlterShareGroupOffsetsResponseCard : Claim7 := { stood := { row := fnUnsafeAlterShareGroupOffsetsResponseRow, standIns := [], harness := (true, "4205697ac2f460611b6aec59fea1f34ef7aefe5fd74bed22d8ee81701e92312b"), looks := false }, kinds := [], alts := [], laidByText := true, laidKinds := [.sentinel], laidTests := true, laidLooks := .later }
def FnUnsafeAlterShareGroupOffsetsResponseCardSaid : Prop := Claim7.holds Tryd.pinned (.plain (OpenSpec.ofChange fnUnsafeAlterShareGroupOffsetsResponseSpec)) fnUnsafeAlterShareGroupOffsetsResponseCard

/-- THE TIED CARD OF 'laws.FnUnsafeJoinGroupResponse'. -/
def fnUnsafeJoinGroupResponseCard : Claim7 := { stood := { row := fnUnsafeJoinGroupResponseRow, standIns := [], harness := (true, "4205697ac2f460611b6aec59fea1f34ef7aefe5fd74bed22d8ee81701e92312b"), looks := false }, kinds := [], alts := [], laidByText := true, laidKinds := [.sentinel], laidTests := true, laidLooks := .later }
def FnUnsafeJoinGroupResponseCardSaid : Prop := Claim7.holds Tryd.pinned (.plain (OpenSpec.ofChange fnUnsafeJoinGroupResponseSpec)) fnUnsafeJoinGroupResponseCard

/-- THE SECOND FORM's CARD OF 'laws.FnUnsafeUpdateMetadataResponse'. -/
def fnUnsafeUpdateMetadataResponseUptoCard : Claim7 := { stood := { row := fnUnsafeUpdateMetadataResponseUptoRow, standIns := [], harness := (true, "4205697ac2f460611b6aec59fea1f34ef7aefe5fd74bed22d8ee81701e92312b"), looks := false }, kinds := [], alts := [], laidByText := true, laidKinds := [.sentinel], laidTests := true, laidLooks := .later }
def FnUnsafeUpdateMetadataResponseUptoCardSaid : Prop := Claim7.holds Tryd.pinned (.plain (OpenSpec.upto fnUnsafeUpdateMetadataResponseSpec)) fnUnsafeUpdateMetadataResponseUptoCard

/-- THE SECOND FORM's CARD OF 'laws.FnUnsafeDefaultPrincipalData'. -/
def fnUnsafeDefaultPrincipalDataUptoCard : Claim7 := { stood := { row := fnUnsafeDefaultPrincipalDataUptoRow, standIns := [], harness := (true, "4205697ac2f460611b6aec59fea1f34ef7aefe5fd74bed22d8ee81701e92312b"), looks := false }, kinds := [], alts := [], laidByText := true, laidKinds := [.sentinel], laidTests := true, laidLooks := .later }
def FnUnsafeDefaultPrincipalDataUptoCardSaid : Prop := Claim7.holds Tryd.pinned (.plain (OpenSpec.upto fnUnsafeDefaultPrincipalDataSpec)) fnUnsafeDefaultPrincipalDataUptoCard

/-- THE SECOND FORM's CARD OF 'laws.FnUnsafeWriteShareGroupStateResponse'. -/
def fnUnsafeWriteShareGroupStateResponseUptoCard : Claim7 := { stood := { row := fnUnsafeWriteShareGroupStateResponseUptoRow, standIns := [], harness := (true, "4205697ac2f460611b6aec59fea1f34ef7aefe5fd74bed22d8ee81701e92312b"), looks := false }, kinds := [], alts := [], laidByText := true, laidKinds := [.sentinel], laidTests := true, laidLooks := .later }
def FnUnsafeWriteShareGroupStateResponseUptoCardSaid : Prop := Claim7.holds Tryd.pinned (.plain (OpenSpec.upto fnUnsafeWriteShareGroupStateResponseSpec)) fnUnsafeWriteShareGroupStateResponseUptoCard

/-- THE SECOND FORM's CARD OF 'laws.FnUnsafeAlterReplicaLogDirsRequest'. -/
def fnUnsafeAlterReplicaLogDirsRequestUptoCard : Claim7 := { stood := { row := fnUnsafeAlterReplicaLogDirsRequestUptoRow, standIns := [], harness := (true, "4205697ac2f460611b6aec59fea1f34ef7aefe5fd74bed22d8ee81701e92312b"), looks := false }, kinds := [], alts := [], laidByText := true, laidKinds := [.sentinel], laidTests := true, laidLooks := .later }
def FnUnsafeAlterReplicaLogDirsRequestUptoCardSaid : Prop := Claim7.holds Tryd.pinned (.plain (OpenSpec.upto fnUnsafeAlterReplicaLogDirsRequestSpec)) fnUnsafeAlterReplicaLogDirsRequestUptoCard

/-- THE SECOND FORM's CARD OF 'laws.FnUnsafeListOffsetsRequest'. -/
def fnUnsafeListOffsetsRequestUptoCard : Claim7 := { stood := { row := fnUnsafeListOffsetsRequestUptoRow, standIns := [], harness := (true, "4205697ac2f460611b6aec59fea1f34ef7aefe5fd74bed22d8ee81701e92312b"), looks := false }, kinds := [], alts := [], laidByText := true, laidKinds := [.sentinel], laidTests := true, laidLooks := .later }
def FnUnsafeListOffsetsRequestUptoCardSaid : Prop := Claim7.holds Tryd.pinned (.plain (OpenSpec.upto fnUnsafeListOffsetsRequestSpec)) fnUnsafeListOffsetsRequestUptoCard

/-- THE SECOND FORM's CARD OF 'laws.FnUnsafeAlterShareGroupOffsetsResponse'. -/
def fnUnsafeAlterShareGroupOffsetsResponseUptoCard : Claim7 := { stood := { row := fnUnsafeAlterShareGroupOffsetsResponseUptoRow, standIns := [], harness := (true, "4205697ac2f460611b6aec59fea1f34ef7aefe5fd74bed22d8ee81701e92312b"), looks := false }, kinds := [], alts := [], laidByText := true, laidKinds := [.sentinel], laidTests := true, laidLooks := .later }
def FnUnsafeAlterShareGroupOffsetsResponseUptoCardSaid : Prop := Claim7.holds Tryd.pinned (.plain (OpenSpec.upto fnUnsafeAlterShareGroupOffsetsResponseSpec)) fnUnsafeAlterShareGroupOffsetsResponseUptoCard

/-- THE SECOND FORM's CARD OF 'laws.FnUnsafeJoinGroupResponse'. -/
def fnUnsafeJoinGroupResponseUptoCard : Claim7 := { stood := { row := fnUnsafeJoinGroupResponseUptoRow, standIns := [], harness := (true, "4205697ac2f460611b6aec59fea1f34ef7aefe5fd74bed22d8ee81701e92312b"), looks := false }, kinds := [], alts := [], laidByText := true, laidKinds := [.sentinel], laidTests := true, laidLooks := .later }
def FnUnsafeJoinGroupResponseUptoCardSaid : Prop := Claim7.holds Tryd.pinned (.plain (OpenSpec.upto fnUnsafeJoinGroupResponseSpec)) fnUnsafeJoinGroupResponseUptoCard
end Rows
end Go.Proofs.YtefilhocfegfhaaDoor
