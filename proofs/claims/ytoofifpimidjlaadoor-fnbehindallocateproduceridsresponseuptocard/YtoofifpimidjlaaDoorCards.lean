/-
  DERIVED. GIVEN WITH THE SEED: THE CARDS: each row of YtoofifpimidjlaaDoorRows.lean that lists a variable, with what it lists TIED to the program's text (the seventh form; the later family's looks); each row that meets fmt, with fmt's text TOLD by the authors' own Lean function (tested against real Go, not proved from fmt's source: count such statements apart). THE CARD IS WHAT COUNTS. Prove the row's statement (the work); the ties are given (YtoofifpimidjlaaDoorTie.lean); close each card by the builder's one call (the guide's Derived/Test/ToyasCard.lean, 'card_holds'). Laid BY PROGRAM, IN A SANDBOX (cutbox-door.mjs). By AI agents, Wed Nov 11 2026. No macro, syntax, notation, axiom, sorry.
-/
import Derived.Test.YtoofifpimidjlaaDoorRows
import GoSem.ClaimSeven
namespace Go.Proofs.YtoofifpimidjlaaDoor
namespace Rows

/-- THE TIED CARD OF 'laws.FnBehindOffsetDeleteResponse'. -/
def fnBehindOffsetDeleteResponseCard : Claim7 := { stood := { row := fnBehindOffsetDeleteResponseRow, standIns := [], harness := (true, "9df16afa80eb368fee96b31b50cb8726331b9a6da2576d2b14fb96da4e5ee71f"), looks := false }, kinds := [], alts := [], laidByText := true, laidKinds := [.sentinel], laidTests := true, laidLooks := .later }
def FnBehindOffsetDeleteResponseCardSaid : Prop := Claim7.holds Tryd.pinned (.plain (OpenSpec.ofChange fnBehindOffsetDeleteResponseSpec)) fnBehindOffsetDeleteResponseCard

/-- THE TIED CARD OF 'laws.FnBehindAllocateProducerIDsResponse'. -/
def fnBehindAllocateProducerIDsResponseCard : Claim7 := { stood := { row := fnBehindAllocateProducerIDsResponseRow, standIns := [], harness := (true, "9df16afa80eb368fee96b31b50cb8726331b9a6da2576d2b14fb96da4e5ee71f"), looks := false }, kinds := [], alts := [], laidByText := true, laidKinds := [.sentinel], laidTests := true, laidLooks := .later }
def FnBehindAllocateProducerIDsResponseCardSaid : Prop := Claim7.holds Tryd.pinned (.plain (OpenSpec.ofChange fnBehindAllocateProducerIDsResponseSpec)) fnBehindAllocateProducerIDsResponseCard

/-- THE SECOND FORM's CARD OF 'laws.FnBehindOffsetDeleteResponse'. -/
def fnBehindOffsetDeleteResponseUptoCard : Claim7 := { stood := { row := fnBehindOffsetDeleteResponseUptoRow, standIns := [], harness := (true, "9df16afa80eb368fee96b31b50cb8726331b9a6da2576d2b14fb96da4e5ee71f"), looks := false }, kinds := [], alts := [], laidByText := true, laidKinds := [.sentinel], laidTests := true, laidLooks := .later }
def FnBehindOffsetDeleteResponseUptoCardSaid : Prop := Claim7.holds Tryd.pinned (.plain (OpenSpec.upto fnBehindOffsetDeleteResponseSpec)) fnBehindOffsetDeleteResponseUptoCard

/-- THE SECOND FORM's CARD OF 'laws.FnBehindAllocateProducerIDsResponse'. -/
def fnBehindAllocateProducerIDsResponseUptoCard : Claim7 := { stood := { row := fnBehindAllocateProducerIDsResponseUptoRow, standIns := [], harness := (true, "9df16afa80eb368fee96b31b50cb8726331b9a6da2576d2b14fb96da4e5ee71f"), looks := false }, kinds := [], alts := [], laidByText := true, laidKinds := [.sentinel], laidTests := true, laidLooks := .later }
def FnBehindAllocateProducerIDsResponseUptoCardSaid : Prop := Claim7.holds Tryd.pinned (.plain (OpenSpec.upto fnBehindAllocateProducerIDsResponseSpec)) fnBehindAllocateProducerIDsResponseUptoCard
end Rows
end Go.Proofs.YtoofifpimidjlaaDoor
