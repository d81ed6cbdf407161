/-
  DERIVED. GIVEN WITH THE SEED: THE CARDS: each row of YtneeaigimifckaaDoorRows.lean that lists a variable, with what it lists TIED to the program's text (the seventh form; the later family's looks); each row that meets fmt, with fmt's text TOLD by the authors' own Lean function (tested against real Go, not proved from fmt's source: count such statements apart). THE CARD IS WHAT COUNTS. Prove the row's statement (the work); the ties are given (YtneeaigimifckaaDoorTie.lean); close each card by the builder's one call (the guide's Derived/Test/ToyasCard.lean, 'card_holds'). Laid BY PROGRAM, IN A SANDBOX (cutbox-door.mjs). By AI agents, Wed Nov 11 2026. No macro, syntax, notation, axiom, sorry.
-/
import Derived.Test.YtneeaigimifckaaDoorRows
import GoSem.ClaimSeven
namespace Go.Proofs.YtneeaigimifckaaDoor
namespace Rows

/-- THE TIED CARD OF 'laws.FnTellOffsetCommitKey'. -/
def fnTellOffsetCommitKeyCard : Claim7 := { stood := { row := fnTellOffsetCommitKeyRow, standIns := [], harness := (true, "385f84302d94d8bf75587ef969b99c6edffee792a2ae2cc0d564364be3fd1019"), looks := false }, kinds := [], alts := [], laidByText := true, laidKinds := [.sentinel], laidTests := true, laidLooks := .later }
def FnTellOffsetCommitKeyCardSaid : Prop := Claim7.holds Tryd.pinned (.plain (OpenSpec.ofChange fnTellOffsetCommitKeySpec)) fnTellOffsetCommitKeyCard

/-- THE SECOND FORM's CARD OF 'laws.FnTellOffsetCommitKey'. -/
def fnTellOffsetCommitKeyUptoCard : Claim7 := { stood := { row := fnTellOffsetCommitKeyUptoRow, standIns := [], harness := (true, "385f84302d94d8bf75587ef969b99c6edffee792a2ae2cc0d564364be3fd1019"), looks := false }, kinds := [], alts := [], laidByText := true, laidKinds := [.sentinel], laidTests := true, laidLooks := .later }
def FnTellOffsetCommitKeyUptoCardSaid : Prop := Claim7.holds Tryd.pinned (.plain (OpenSpec.upto fnTellOffsetCommitKeySpec)) fnTellOffsetCommitKeyUptoCard
end Rows
end Go.Proofs.YtneeaigimifckaaDoor
