/-
  DERIVED. GIVEN WITH THE SEED: THE CARDS: each row of YtblndkbbnboldaaGreatDoorRows.lean that lists a variable, with what it lists TIED to the program's text (the seventh form; the later family's looks); each row that meets fmt, with fmt's text TOLD by the authors' own Lean function (tested against real Go, not proved from fmt's source: count such statements apart). THE CARD IS WHAT COUNTS. Prove the row's statement (the work); the ties are given (YtblndkbbnboldaaGreatDoorTie.lean); close each card by the builder's one call (the guide's Derived/Test/ToyasCard.lean, 'card_holds'). Laid BY PROGRAM, IN A SANDBOX (cutbox-door.mjs). By AI agents, Wed Nov 11 2026. No macro, syntax, notation, axiom, sorry.
-/
import Derived.Test.YtblndkbbnboldaaGreatDoorRows
import GoSem.ClaimSeven
namespace Go.Proofs.YtblndkbbnboldaaGreatDoor
namespace Rows

/-- THE TIED CARD OF 'laws.FnBehindDescribeDelegationTokenRequest'. -/
def fnBehindDescribeDelegationTokenRequestCard : Claim7 := { stood := { row := fnBehindDescribeDelegationTokenRequestRow, standIns := [], harness := (true, "0a0dfa3ac24b3f17d95502a346693e82160f7126d75bd2ac287bf517bba3c37a"), looks := false }, kinds := [], alts := [], laidByText := true, laidKinds := [.sentinel], laidTests := true, laidLooks := .later }
def FnBehindDescribeDelegationTokenRequestCardSaid : Prop := Claim7.holds Tryz.pinned (.plain (OpenSpec.ofChange fnBehindDescribeDelegationTokenRequestSpec)) fnBehindDescribeDelegationTokenRequestCard

/-- THE TIED CARD OF 'laws.FnBehindDescribeGroupsResponse'. -/
def fnBehindDescribeGroupsResponseCard : Claim7 := { stood := { row := fnBehindDescribeGroupsResponseRow, standIns := [], harness := (true, "0a0dfa3ac24b3f17d95502a346693e82160f7126d75bd2ac287bf517bba3c37a"), looks := false }, kinds := [], alts := [], laidByText := true, laidKinds := [.sentinel], laidTests := true, laidLooks := .later }
def FnBehindDescribeGroupsResponseCardSaid : Prop := Claim7.holds Tryz.pinned (.plain (OpenSpec.ofChange fnBehindDescribeGroupsResponseSpec)) fnBehindDescribeGroupsResponseCard

/-- THE SECOND FORM's CARD OF 'laws.FnBehindDescribeDelegationTokenRequest'. -/
def fnBehindDescribeDelegationTokenRequestUptoCard : Claim7 := { stood := { row := fnBehindDescribeDelegationTokenRequestUptoRow, standIns := [], harness := (true, "0a0dfa3ac24b3f17d95502a346693e82160f7126d75bd2ac287bf517bba3c37a"), looks := false }, kinds := [], alts := [], laidByText := true, laidKinds := [.sentinel], laidTests := true, laidLooks := .later }
def FnBehindDescribeDelegationTokenRequestUptoCardSaid : Prop := Claim7.holds Tryz.pinned (.plain (OpenSpec.upto fnBehindDescribeDelegationTokenRequestSpec)) fnBehindDescribeDelegationTokenRequestUptoCard

/-- THE SECOND FORM's CARD OF 'laws.FnBehindDescribeGroupsResponse'. -/
def fnBehindDescribeGroupsResponseUptoCard : Claim7 := { stood := { row := fnBehindDescribeGroupsResponseUptoRow, standIns := [], harness := (true, "0a0dfa3ac24b3f17d95502a346693e82160f7126d75bd2ac287bf517bba3c37a"), looks := false }, kinds := [], alts := [], laidByText := true, laidKinds := [.sentinel], laidTests := true, laidLooks := .later }
def FnBehindDescribeGroupsResponseUptoCardSaid : Prop := Claim7.holds Tryz.pinned (.plain (OpenSpec.upto fnBehindDescribeGroupsResponseSpec)) fnBehindDescribeGroupsResponseUptoCard
end Rows
end Go.Proofs.YtblndkbbnboldaaGreatDoor
