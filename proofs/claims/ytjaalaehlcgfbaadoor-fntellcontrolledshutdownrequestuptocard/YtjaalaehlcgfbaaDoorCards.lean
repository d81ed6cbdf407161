/-
  DERIVED. GIVEN WITH THE SEED: THE CARDS: each row of YtjaalaehlcgfbaaDoorRows.lean that lists a variable, with what it lists TIED to the program's text (the seventh form; the later family's looks); each row that meets fmt, with fmt's text TOLD by the authors' own Lean function (tested against real Go, not proved from fmt's source: count such statements apart). THE CARD IS WHAT COUNTS. Prove the row's statement (the work); the ties are given (YtjaalaehlcgfbaaDoorTie.lean); close each card by the builder's one call (the guide's Derived/Test/ToyasCard.lean, 'card_holds'). Laid BY PROGRAM, IN A SANDBOX (cutbox-door.mjs). By AI agents, Wed Nov 11 2026. No macro, syntax, notation, axiom, sorry.
-/
import Derived.Test.YtjaalaehlcgfbaaDoorRows
import GoSem.ClaimSeven
namespace Go.Proofs.YtjaalaehlcgfbaaDoor
namespace Rows

/-- THE TIED CARD OF 'laws.FnTellOffsetCommitKey'. -/
def fnTellOffsetCommitKeyCard : Claim7 := { stood := { row := fnTellOffsetCommitKeyRow, standIns := [], harness := (true, "1dd0314499d9dc56f5e040c7ec086a731b224c881b51a74dc9d4a4f8bedb0da8"), looks := false }, kinds := [], alts := [], laidByText := true, laidKinds := [.sentinel], laidTests := true, laidLooks := .later }
def FnTellOffsetCommitKeyCardSaid : Prop := Claim7.holds Tryd.pinned (.plain (OpenSpec.ofChange fnTellOffsetCommitKeySpec)) fnTellOffsetCommitKeyCard

/-- THE TIED CARD OF 'laws.FnTellControlledShutdownRequest'. -/
def fnTellControlledShutdownRequestCard : Claim7 := { stood := { row := fnTellControlledShutdownRequestRow, standIns := [], harness := (true, "1dd0314499d9dc56f5e040c7ec086a731b224c881b51a74dc9d4a4f8bedb0da8"), looks := false }, kinds := [], alts := [], laidByText := true, laidKinds := [.sentinel], laidTests := true, laidLooks := .later }
def FnTellControlledShutdownRequestCardSaid : Prop := Claim7.holds Tryd.pinned (.plain (OpenSpec.ofChange fnTellControlledShutdownRequestSpec)) fnTellControlledShutdownRequestCard

/-- THE SECOND FORM's CARD OF 'laws.FnTellOffsetCommitKey'. -/
def fnTellOffsetCommitKeyUptoCard : Claim7 := { stood := { row := fnTellOffsetCommitKeyUptoRow, standIns := [], harness := (true, "1dd0314499d9dc56f5e040c7ec086a731b224c881b51a74dc9d4a4f8bedb0da8"), looks := false }, kinds := [], alts := [], laidByText := true, laidKinds := [.sentinel], laidTests := true, laidLooks := .later }
def FnTellOffsetCommitKeyUptoCardSaid : Prop := Claim7.holds Tryd.pinned (.plain (OpenSpec.upto fnTellOffsetCommitKeySpec)) fnTellOffsetCommitKeyUptoCard

/-- THE SECOND FORM's CARD OF 'laws.FnTellControlledShutdownRequest'. -/
def fnTellControlledShutdownRequestUptoCard : Claim7 := { stood := { row := fnTellControlledShutdownRequestUptoRow, standIns := [], harness := (true, "1dd0314499d9dc56f5e040c7ec086a731b224c881b51a74dc9d4a4f8bedb0da8"), looks := false }, kinds := [], alts := [], laidByText := true, laidKinds := [.sentinel], laidTests := true, laidLooks := .later }
def FnTellControlledShutdownRequestUptoCardSaid : Prop := Claim7.holds Tryd.pinned (.plain (OpenSpec.upto fnTellControlledShutdownRequestSpec)) fnTellControlledShutdownRequestUptoCard
end Rows
end Go.Proofs.YtjaalaehlcgfbaaDoor
