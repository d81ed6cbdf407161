/-
  NARROWER THAN 'FOR EVERY INPUT', by the rows' own cells (each row's printed sentence says how): FnMakeSASLHandshakeRequest: loops · FnMakeConnectMemberMetadata: loops · FnMakeEndTxnRequest: loops · FnMakeControllerRegistrationResponse: loops.
  DERIVED. THE GIVEN ROWS OF THIS SEAT. 4 by the template 'for every input the law returns true; each argument reads behind the call as it read before'; 0 by the template 'total and deterministic' (their statements: YtplbaloohebdcaaTotals.lean).
  GIVEN WITH THE SEED: the statements are not yours to turn. If you find one false, say at which input.
  Laid BY PROGRAM, IN A SANDBOX (cutbox-rows.mjs): the forced cells as the released guide's own fill.sh prints them over the translation 0c02b1a8edab82f1… (all of the seat's roots in one cut). By AI agents, Wed Nov 11 2026. No macro, syntax, notation, axiom, sorry.
-/
import Derived.Test.YtplbaloohebdcaaChecked
import GoSem.Claim
import GoSem.ClaimJoined
import GoSem.ClaimMapViews
import Derived.JoinedTies
import Derived.KernelRfl
namespace Go.Proofs.Ytplbaloohebdcaa
/- THE CELL 'sum', in the pinned program and in every row, IS THE sha256 OF THE DUMP (.gsa) THAT YtplbaloohebdcaaProg.lean LOADS. Nothing in Lean hashes anything: it is a label: what it is worth is what the hold of that sum in a sandbox is worth. -/
noncomputable def Try.pinned : Pinned := { name := "ytplbaloohebdcaa", sum := "0c02b1a8edab82f1f6ae1b4e3457d2aef16043b4a3fe18998e0f0706c12f31ff", checked := Try.checked }
namespace Rows
def none {H : Type} : Left H := { results := [], args := [] }

/-- 'laws.FnMakeSASLHandshakeRequest': WHATEVER THE INPUT: true; the input reads as it did. -/
def fnMakeSASLHandshakeRequestSpec : ChangeSpec := { name := "fnMakeSASLHandshakeRequest", fn := fun _ => fun
  | [d1, d2] => { results := [.lit (.bool true)], args := [d1, d2] }
  | _ => none }
def fnMakeSASLHandshakeRequestRow : OpenClaim := { program := "ytplbaloohebdcaa", sum := "0c02b1a8edab82f1f6ae1b4e3457d2aef16043b4a3fe18998e0f0706c12f31ff", func := "pub-mailsack/laws.FnMakeSASLHandshakeRequest", spec := "fnMakeSASLHandshakeRequest", recurses := true, loops := true, apart := false }
def FnMakeSASLHandshakeRequestSaid : Prop := fnMakeSASLHandshakeRequestRow.holds Try.pinned (OpenSpec.ofChange fnMakeSASLHandshakeRequestSpec)

/-- ITS FALSE NEIGHBOUR: 'it returns false'. Refute it at one input. -/
def fnMakeSASLHandshakeRequestWrong : ChangeSpec := { name := "fnMakeSASLHandshakeRequest", fn := fun _ => fun
  | [d1, d2] => { results := [.lit (.bool false)], args := [d1, d2] }
  | _ => none }
def FnMakeSASLHandshakeRequestWrongFalsely : Prop := fnMakeSASLHandshakeRequestRow.holds Try.pinned (OpenSpec.ofChange fnMakeSASLHandshakeRequestWrong)

/-- 'laws.FnMakeConnectMemberMetadata': WHATEVER THE INPUT: true; the input reads as it did. -/
def fnMakeConnectMemberMetadataSpec : ChangeSpec := { name := "fnMakeConnectMemberMetadata", fn := fun _ => fun
  | [d1, d2] => { results := [.lit (.bool true)], args := [d1, d2] }
  | _ => none }
def fnMakeConnectMemberMetadataRow : OpenClaim := { program := "ytplbaloohebdcaa", sum := "0c02b1a8edab82f1f6ae1b4e3457d2aef16043b4a3fe18998e0f0706c12f31ff", func := "pub-mailsack/laws.FnMakeConnectMemberMetadata", spec := "fnMakeConnectMemberMetadata", recurses := true, loops := true, apart := false }
def FnMakeConnectMemberMetadataSaid : Prop := fnMakeConnectMemberMetadataRow.holds Try.pinned (OpenSpec.ofChange fnMakeConnectMemberMetadataSpec)

/-- ITS FALSE NEIGHBOUR: 'it returns false'. Refute it at one input. -/
def fnMakeConnectMemberMetadataWrong : ChangeSpec := { name := "fnMakeConnectMemberMetadata", fn := fun _ => fun
  | [d1, d2] => { results := [.lit (.bool false)], args := [d1, d2] }
  | _ => none }
def FnMakeConnectMemberMetadataWrongFalsely : Prop := fnMakeConnectMemberMetadataRow.holds Try.pinned (OpenSpec.ofChange fnMakeConnectMemberMetadataWrong)

/-- 'laws.FnMakeEndTxnRequest': WHATEVER THE INPUT: true; the input reads as it did. -/
def fnMakeEndTxnRequestSpec : ChangeSpec := { name := "fnMakeEndTxnRequest", fn := fun _ => fun
  | [d1, d2] => { results := [.lit (.bool true)], args := [d1, d2] }
  | _ => none }
def fnMakeEndTxnRequestRow : OpenClaim := { program := "ytplbaloohebdcaa", sum := "0c02b1a8edab82f1f6ae1b4e3457d2aef16043b4a3fe18998e0f0706c12f31ff", func := "pub-mailsack/laws.FnMakeEndTxnRequest", spec := "fnMakeEndTxnRequest", inPlace := ["internal/reflectlite.ValueOf", "internal/reflectlite.Swapper", "(internal/reflectlite.Value).Len"], unfollowed := true, recurses := true, loops := true, apart := false }
def FnMakeEndTxnRequestSaid : Prop := fnMakeEndTxnRequestRow.holds Try.pinned (OpenSpec.ofChange fnMakeEndTxnRequestSpec)

/-- ITS FALSE NEIGHBOUR: 'it returns false'. Refute it at one input. -/
def fnMakeEndTxnRequestWrong : ChangeSpec := { name := "fnMakeEndTxnRequest", fn := fun _ => fun
  | [d1, d2] => { results := [.lit (.bool false)], args := [d1, d2] }
  | _ => none }
def FnMakeEndTxnRequestWrongFalsely : Prop := fnMakeEndTxnRequestRow.holds Try.pinned (OpenSpec.ofChange fnMakeEndTxnRequestWrong)

/-- 'laws.FnMakeControllerRegistrationResponse': WHATEVER THE INPUT: true; the input reads as it did. -/
def fnMakeControllerRegistrationResponseSpec : ChangeSpec := { name := "fnMakeControllerRegistrationResponse", fn := fun _ => fun
  | [d1, d2] => { results := [.lit (.bool true)], args := [d1, d2] }
  | _ => none }
def fnMakeControllerRegistrationResponseRow : OpenClaim := { program := "ytplbaloohebdcaa", sum := "0c02b1a8edab82f1f6ae1b4e3457d2aef16043b4a3fe18998e0f0706c12f31ff", func := "pub-mailsack/laws.FnMakeControllerRegistrationResponse", spec := "fnMakeControllerRegistrationResponse", inPlace := ["internal/reflectlite.ValueOf", "internal/reflectlite.Swapper", "(internal/reflectlite.Value).Len"], unfollowed := true, recurses := true, loops := true, apart := false }
def FnMakeControllerRegistrationResponseSaid : Prop := fnMakeControllerRegistrationResponseRow.holds Try.pinned (OpenSpec.ofChange fnMakeControllerRegistrationResponseSpec)

/-- ITS FALSE NEIGHBOUR: 'it returns false'. Refute it at one input. -/
def fnMakeControllerRegistrationResponseWrong : ChangeSpec := { name := "fnMakeControllerRegistrationResponse", fn := fun _ => fun
  | [d1, d2] => { results := [.lit (.bool false)], args := [d1, d2] }
  | _ => none }
def FnMakeControllerRegistrationResponseWrongFalsely : Prop := fnMakeControllerRegistrationResponseRow.holds Try.pinned (OpenSpec.ofChange fnMakeControllerRegistrationResponseWrong)

/- THE SECOND FORM. 'bulk': how many values and letters a reading holds, each counted each time it is reached (what is shared counts as often as it is met; a slice's spare places count too). A statement '..UptoSaid' is the law's where the arguments, and the package variables that the reading takes, are together of bulk at most 1048576: NARROWER than '..Said'. Prove '..Said' where nothing that the law and all that it calls make is longer than what came in: it says more and counts as full. Else prove '..UptoSaid'. A law counts once. -/
mutual
def uptoBulk {H : Type} : DataW H → Nat
  | .lit (.string bytes) => bytes.length + 1
  | .lit _ => 1
  | .nil => 1
  | .ptr d => uptoBulk d + 1
  | .slice elems spare => uptoBulkAll elems + uptoBulkAll spare + 1
  | .agg parts => uptoBulkAll parts + 1
  | .iface _ d => uptoBulk d + 1
  | .map entries => uptoBulkEntries entries + 1
  | .held _ => 1
def uptoBulkAll {H : Type} : List (DataW H) → Nat
  | [] => 0
  | d :: r => uptoBulk d + uptoBulkAll r
def uptoBulkEntries {H : Type} : List (Lit × DataW H) → Nat
  | [] => 0
  | x :: r => uptoBulkEntry x + uptoBulkEntries r
def uptoBulkEntry {H : Type} : Lit × DataW H → Nat
  | (.string bytes, d) => bytes.length + uptoBulk d + 1
  | (_, d) => uptoBulk d + 1
 end
def uptoSmall : (H : Type) → List (DataW H) → Bool := fun _ ds => decide (uptoBulkAll ds ≤ 1048576)
def OpenSpec.upto (s : _root_.Go.ChangeSpec) : _root_.Go.OpenSpec := { _root_.Go.OpenSpec.ofChange s with cond := some uptoSmall }

/-- 'laws.FnMakeSASLHandshakeRequest', WHERE WHAT IT READS IS OF BULK AT MOST 1048576: true; the input reads as it did. -/
def fnMakeSASLHandshakeRequestUptoRow : OpenClaim := { program := "ytplbaloohebdcaa", sum := "0c02b1a8edab82f1f6ae1b4e3457d2aef16043b4a3fe18998e0f0706c12f31ff", func := "pub-mailsack/laws.FnMakeSASLHandshakeRequest", spec := "fnMakeSASLHandshakeRequest", recurses := true, loops := true, apart := false, narrowed := true }
def FnMakeSASLHandshakeRequestUptoSaid : Prop := fnMakeSASLHandshakeRequestUptoRow.holds Try.pinned (OpenSpec.upto fnMakeSASLHandshakeRequestSpec)

/-- 'laws.FnMakeConnectMemberMetadata', WHERE WHAT IT READS IS OF BULK AT MOST 1048576: true; the input reads as it did. -/
def fnMakeConnectMemberMetadataUptoRow : OpenClaim := { program := "ytplbaloohebdcaa", sum := "0c02b1a8edab82f1f6ae1b4e3457d2aef16043b4a3fe18998e0f0706c12f31ff", func := "pub-mailsack/laws.FnMakeConnectMemberMetadata", spec := "fnMakeConnectMemberMetadata", recurses := true, loops := true, apart := false, narrowed := true }
def FnMakeConnectMemberMetadataUptoSaid : Prop := fnMakeConnectMemberMetadataUptoRow.holds Try.pinned (OpenSpec.upto fnMakeConnectMemberMetadataSpec)

/-- 'laws.FnMakeEndTxnRequest', WHERE WHAT IT READS IS OF BULK AT MOST 1048576: true; the input reads as it did. -/
def fnMakeEndTxnRequestUptoRow : OpenClaim := { program := "ytplbaloohebdcaa", sum := "0c02b1a8edab82f1f6ae1b4e3457d2aef16043b4a3fe18998e0f0706c12f31ff", func := "pub-mailsack/laws.FnMakeEndTxnRequest", spec := "fnMakeEndTxnRequest", inPlace := ["internal/reflectlite.ValueOf", "internal/reflectlite.Swapper", "(internal/reflectlite.Value).Len"], unfollowed := true, recurses := true, loops := true, apart := false, narrowed := true }
def FnMakeEndTxnRequestUptoSaid : Prop := fnMakeEndTxnRequestUptoRow.holds Try.pinned (OpenSpec.upto fnMakeEndTxnRequestSpec)

/-- 'laws.FnMakeControllerRegistrationResponse', WHERE WHAT IT READS IS OF BULK AT MOST 1048576: true; the input reads as it did. -/
def fnMakeControllerRegistrationResponseUptoRow : OpenClaim := { program := "ytplbaloohebdcaa", sum := "0c02b1a8edab82f1f6ae1b4e3457d2aef16043b4a3fe18998e0f0706c12f31ff", func := "pub-mailsack/laws.FnMakeControllerRegistrationResponse", spec := "fnMakeControllerRegistrationResponse", inPlace := ["internal/reflectlite.ValueOf", "internal/reflectlite.Swapper", "(internal/reflectlite.Value).Len"], unfollowed := true, recurses := true, loops := true, apart := false, narrowed := true }
def FnMakeControllerRegistrationResponseUptoSaid : Prop := fnMakeControllerRegistrationResponseUptoRow.holds Try.pinned (OpenSpec.upto fnMakeControllerRegistrationResponseSpec)

end Rows
end Go.Proofs.Ytplbaloohebdcaa
