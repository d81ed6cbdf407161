/-
  NARROWER THAN 'FOR EVERY INPUT', by the rows' own cells (each row's printed sentence says how): FnTellListConfigResourcesResponse: loops, laid · FnDefaultUpdateFeaturesRequest: loops, laid · FnDefaultOffsetForLeaderEpochRequest: loops, laid · FnTellLeaveGroupRequest: loops, laid · FnTellCreateDelegationTokenRequest: loops, laid · FnDefaultOffsetCommitRequest: loops, laid · FnDefaultTxnOffsetCommitRequest: loops, laid.
  DERIVED. THE GIVEN ROWS OF THIS SEAT. 7 by the template 'for every input the law returns true; each argument reads behind the call as it read before'; 0 by the template 'total and deterministic' (their statements: YtneeaigimifckaaGreatDoorTotals.lean).
  GIVEN WITH THE SEED: the statements are not yours to turn. If you find one false, say at which input.
  Laid BY PROGRAM, IN A SANDBOX (cutbox-rows.mjs): the forced cells as the released guide's own fill.sh prints them over the translation 02bad56c2d53ca2d… (all of the seat's roots in one cut). By AI agents, Wed Nov 11 2026. No macro, syntax, notation, axiom, sorry.
-/
import Derived.Test.YtneeaigimifckaaGreatDoorChecked
import GoSem.Claim
import GoSem.ClaimJoined
import GoSem.ClaimMapViews
import Derived.JoinedTies
import Derived.KernelRfl
namespace Go.Proofs.YtneeaigimifckaaGreatDoor
/- THE CELL 'sum', in the pinned program and in every row, IS THE sha256 OF THE DUMP (.gsa) THAT YtneeaigimifckaaGreatDoorProg.lean LOADS. Nothing in Lean hashes anything: it is a label: what it is worth is what the hold of that sum in a sandbox is worth. -/
noncomputable def Tryz.pinned : Pinned := { name := "ytneeaigimifckaagreatdoor", sum := "02bad56c2d53ca2d8fea5e372e1e9ce7c09f50fb1a6376d28f528b648f8cd660", checked := Tryz.checked }
namespace Rows
def none {H : Type} : Left H := { results := [], args := [] }

/- WHAT THE LISTED PACKAGE-LEVEL VARIABLES READ AS WHEN THE CALL BEGINS. Each datum BY PROGRAM (the guide's laid-datum.mjs) off the statement by which the dump's own 'gosem.cut.vars' lays the variable. In a bare row this is a premise. The card (YtneeaigimifckaaGreatDoorCards.lean) ties it to the program's text. -/
def laid_pub_mailsack_pub_kmsg_inner_kbin_ErrNotEnoughData {H : Type} : DataW H := .iface "*errors.errorString" (.ptr (.agg [.lit (.string [114, 101, 115, 112, 111, 110, 115, 101, 32, 100, 105, 100, 32, 110, 111, 116, 32, 99, 111, 110, 116, 97, 105, 110, 32, 101, 110, 111, 117, 103, 104, 32, 100, 97, 116, 97, 32, 116, 111, 32, 98, 101, 32, 118, 97, 108, 105, 100])]))

/-- 'laws.FnTellListConfigResourcesResponse': WHATEVER THE INPUT: true; the input reads as it did. -/
def fnTellListConfigResourcesResponseSpec : ChangeSpec := { name := "fnTellListConfigResourcesResponse", fn := fun _ => fun
  | [d1, d2] => { results := [.lit (.bool true)], args := [d1, d2] }
  | _ => none }
def fnTellListConfigResourcesResponseRow : OpenClaim := { program := "ytneeaigimifckaagreatdoor", sum := "02bad56c2d53ca2d8fea5e372e1e9ce7c09f50fb1a6376d28f528b648f8cd660", func := "pub-mailsack/laws.FnTellListConfigResourcesResponse", spec := "fnTellListConfigResourcesResponse", inPlace := ["internal/reflectlite.ValueOf", "internal/reflectlite.Swapper", "(internal/reflectlite.Value).Len"], unfollowed := true, recurses := true, named := ["encoding/binary.BigEndian", "pub-mailsack/pub/kmsg/inner/kbin.ErrNotEnoughData"], loops := true, apart := false, laid := [("pub-mailsack/pub/kmsg/inner/kbin.ErrNotEnoughData", laid_pub_mailsack_pub_kmsg_inner_kbin_ErrNotEnoughData)] }
def FnTellListConfigResourcesResponseSaid : Prop := fnTellListConfigResourcesResponseRow.holds Tryz.pinned (OpenSpec.ofChange fnTellListConfigResourcesResponseSpec)

/-- ITS FALSE NEIGHBOUR: 'it returns false'. Refute it at one input. -/
def fnTellListConfigResourcesResponseWrong : ChangeSpec := { name := "fnTellListConfigResourcesResponse", fn := fun _ => fun
  | [d1, d2] => { results := [.lit (.bool false)], args := [d1, d2] }
  | _ => none }
def FnTellListConfigResourcesResponseWrongFalsely : Prop := fnTellListConfigResourcesResponseRow.holds Tryz.pinned (OpenSpec.ofChange fnTellListConfigResourcesResponseWrong)

/-- 'laws.FnDefaultUpdateFeaturesRequest': WHATEVER THE INPUT: true; the input reads as it did. -/
def fnDefaultUpdateFeaturesRequestSpec : ChangeSpec := { name := "fnDefaultUpdateFeaturesRequest", fn := fun _ => fun
  | [d1, d2] => { results := [.lit (.bool true)], args := [d1, d2] }
  | _ => none }
def fnDefaultUpdateFeaturesRequestRow : OpenClaim := { program := "ytneeaigimifckaagreatdoor", sum := "02bad56c2d53ca2d8fea5e372e1e9ce7c09f50fb1a6376d28f528b648f8cd660", func := "pub-mailsack/laws.FnDefaultUpdateFeaturesRequest", spec := "fnDefaultUpdateFeaturesRequest", inPlace := ["internal/reflectlite.ValueOf", "internal/reflectlite.Swapper", "(internal/reflectlite.Value).Len"], unfollowed := true, recurses := true, named := ["encoding/binary.BigEndian", "pub-mailsack/pub/kmsg/inner/kbin.ErrNotEnoughData"], loops := true, apart := false, laid := [("pub-mailsack/pub/kmsg/inner/kbin.ErrNotEnoughData", laid_pub_mailsack_pub_kmsg_inner_kbin_ErrNotEnoughData)] }
def FnDefaultUpdateFeaturesRequestSaid : Prop := fnDefaultUpdateFeaturesRequestRow.holds Tryz.pinned (OpenSpec.ofChange fnDefaultUpdateFeaturesRequestSpec)

/-- ITS FALSE NEIGHBOUR: 'it returns false'. Refute it at one input. -/
def fnDefaultUpdateFeaturesRequestWrong : ChangeSpec := { name := "fnDefaultUpdateFeaturesRequest", fn := fun _ => fun
  | [d1, d2] => { results := [.lit (.bool false)], args := [d1, d2] }
  | _ => none }
def FnDefaultUpdateFeaturesRequestWrongFalsely : Prop := fnDefaultUpdateFeaturesRequestRow.holds Tryz.pinned (OpenSpec.ofChange fnDefaultUpdateFeaturesRequestWrong)

/-- 'laws.FnDefaultOffsetForLeaderEpochRequest': WHATEVER THE INPUT: true; the input reads as it did. -/
def fnDefaultOffsetForLeaderEpochRequestSpec : ChangeSpec := { name := "fnDefaultOffsetForLeaderEpochRequest", fn := fun _ => fun
  | [d1, d2] => { results := [.lit (.bool true)], args := [d1, d2] }
  | _ => none }
def fnDefaultOffsetForLeaderEpochRequestRow : OpenClaim := { program := "ytneeaigimifckaagreatdoor", sum := "02bad56c2d53ca2d8fea5e372e1e9ce7c09f50fb1a6376d28f528b648f8cd660", func := "pub-mailsack/laws.FnDefaultOffsetForLeaderEpochRequest", spec := "fnDefaultOffsetForLeaderEpochRequest", inPlace := ["internal/reflectlite.ValueOf", "internal/reflectlite.Swapper", "(internal/reflectlite.Value).Len"], unfollowed := true, recurses := true, named := ["encoding/binary.BigEndian", "pub-mailsack/pub/kmsg/inner/kbin.ErrNotEnoughData"], loops := true, apart := false, laid := [("pub-mailsack/pub/kmsg/inner/kbin.ErrNotEnoughData", laid_pub_mailsack_pub_kmsg_inner_kbin_ErrNotEnoughData)] }
def FnDefaultOffsetForLeaderEpochRequestSaid : Prop := fnDefaultOffsetForLeaderEpochRequestRow.holds Tryz.pinned (OpenSpec.ofChange fnDefaultOffsetForLeaderEpochRequestSpec)

/-- ITS FALSE NEIGHBOUR: 'it returns false'. Refute it at one input. -/
def fnDefaultOffsetForLeaderEpochRequestWrong : ChangeSpec := { name := "fnDefaultOffsetForLeaderEpochRequest", fn := fun _ => fun
  | [d1, d2] => { results := [.lit (.bool false)], args := [d1, d2] }
  | _ => none }
def FnDefaultOffsetForLeaderEpochRequestWrongFalsely : Prop := fnDefaultOffsetForLeaderEpochRequestRow.holds Tryz.pinned (OpenSpec.ofChange fnDefaultOffsetForLeaderEpochRequestWrong)

/-- 'laws.FnTellLeaveGroupRequest': WHATEVER THE INPUT: true; the input reads as it did. -/
def fnTellLeaveGroupRequestSpec : ChangeSpec := { name := "fnTellLeaveGroupRequest", fn := fun _ => fun
  | [d1, d2] => { results := [.lit (.bool true)], args := [d1, d2] }
  | _ => none }
def fnTellLeaveGroupRequestRow : OpenClaim := { program := "ytneeaigimifckaagreatdoor", sum := "02bad56c2d53ca2d8fea5e372e1e9ce7c09f50fb1a6376d28f528b648f8cd660", func := "pub-mailsack/laws.FnTellLeaveGroupRequest", spec := "fnTellLeaveGroupRequest", inPlace := ["internal/reflectlite.ValueOf", "internal/reflectlite.Swapper", "(internal/reflectlite.Value).Len"], unfollowed := true, recurses := true, named := ["encoding/binary.BigEndian", "pub-mailsack/pub/kmsg/inner/kbin.ErrNotEnoughData"], loops := true, apart := false, laid := [("pub-mailsack/pub/kmsg/inner/kbin.ErrNotEnoughData", laid_pub_mailsack_pub_kmsg_inner_kbin_ErrNotEnoughData)] }
def FnTellLeaveGroupRequestSaid : Prop := fnTellLeaveGroupRequestRow.holds Tryz.pinned (OpenSpec.ofChange fnTellLeaveGroupRequestSpec)

/-- ITS FALSE NEIGHBOUR: 'it returns false'. Refute it at one input. -/
def fnTellLeaveGroupRequestWrong : ChangeSpec := { name := "fnTellLeaveGroupRequest", fn := fun _ => fun
  | [d1, d2] => { results := [.lit (.bool false)], args := [d1, d2] }
  | _ => none }
def FnTellLeaveGroupRequestWrongFalsely : Prop := fnTellLeaveGroupRequestRow.holds Tryz.pinned (OpenSpec.ofChange fnTellLeaveGroupRequestWrong)

/-- 'laws.FnTellCreateDelegationTokenRequest': WHATEVER THE INPUT: true; the input reads as it did. -/
def fnTellCreateDelegationTokenRequestSpec : ChangeSpec := { name := "fnTellCreateDelegationTokenRequest", fn := fun _ => fun
  | [d1, d2] => { results := [.lit (.bool true)], args := [d1, d2] }
  | _ => none }
def fnTellCreateDelegationTokenRequestRow : OpenClaim := { program := "ytneeaigimifckaagreatdoor", sum := "02bad56c2d53ca2d8fea5e372e1e9ce7c09f50fb1a6376d28f528b648f8cd660", func := "pub-mailsack/laws.FnTellCreateDelegationTokenRequest", spec := "fnTellCreateDelegationTokenRequest", inPlace := ["internal/reflectlite.ValueOf", "internal/reflectlite.Swapper", "(internal/reflectlite.Value).Len"], unfollowed := true, recurses := true, named := ["encoding/binary.BigEndian", "pub-mailsack/pub/kmsg/inner/kbin.ErrNotEnoughData"], loops := true, apart := false, laid := [("pub-mailsack/pub/kmsg/inner/kbin.ErrNotEnoughData", laid_pub_mailsack_pub_kmsg_inner_kbin_ErrNotEnoughData)] }
def FnTellCreateDelegationTokenRequestSaid : Prop := fnTellCreateDelegationTokenRequestRow.holds Tryz.pinned (OpenSpec.ofChange fnTellCreateDelegationTokenRequestSpec)

/-- ITS FALSE NEIGHBOUR: 'it returns false'. Refute it at one input. -/
def fnTellCreateDelegationTokenRequestWrong : ChangeSpec := { name := "fnTellCreateDelegationTokenRequest", fn := fun _ => fun
  | [d1, d2] => { results := [.lit (.bool false)], args := [d1, d2] }
  | _ => none }
def FnTellCreateDelegationTokenRequestWrongFalsely : Prop := fnTellCreateDelegationTokenRequestRow.holds Tryz.pinned (OpenSpec.ofChange fnTellCreateDelegationTokenRequestWrong)

/-- 'laws.FnDefaultOffsetCommitRequest': WHATEVER THE INPUT: true; the input reads as it did. -/
def fnDefaultOffsetCommitRequestSpec : ChangeSpec := { name := "fnDefaultOffsetCommitRequest", fn := fun _ => fun
  | [d1, d2] => { results := [.lit (.bool true)], args := [d1, d2] }
  | _ => none }
def fnDefaultOffsetCommitRequestRow : OpenClaim := { program := "ytneeaigimifckaagreatdoor", sum := "02bad56c2d53ca2d8fea5e372e1e9ce7c09f50fb1a6376d28f528b648f8cd660", func := "pub-mailsack/laws.FnDefaultOffsetCommitRequest", spec := "fnDefaultOffsetCommitRequest", inPlace := ["internal/reflectlite.ValueOf", "internal/reflectlite.Swapper", "(internal/reflectlite.Value).Len"], unfollowed := true, recurses := true, named := ["encoding/binary.BigEndian", "pub-mailsack/pub/kmsg/inner/kbin.ErrNotEnoughData"], loops := true, apart := false, laid := [("pub-mailsack/pub/kmsg/inner/kbin.ErrNotEnoughData", laid_pub_mailsack_pub_kmsg_inner_kbin_ErrNotEnoughData)] }
def FnDefaultOffsetCommitRequestSaid : Prop := fnDefaultOffsetCommitRequestRow.holds Tryz.pinned (OpenSpec.ofChange fnDefaultOffsetCommitRequestSpec)

/-- ITS FALSE NEIGHBOUR: 'it returns false'. Refute it at one input. -/
def fnDefaultOffsetCommitRequestWrong : ChangeSpec := { name := "fnDefaultOffsetCommitRequest", fn := fun _ => fun
  | [d1, d2] => { results := [.lit (.bool false)], args := [d1, d2] }
  | _ => none }
def FnDefaultOffsetCommitRequestWrongFalsely : Prop := fnDefaultOffsetCommitRequestRow.holds Tryz.pinned (OpenSpec.ofChange fnDefaultOffsetCommitRequestWrong)

/-- 'laws.FnDefaultTxnOffsetCommitRequest': WHATEVER THE INPUT: true; the input reads as it did. -/
def fnDefaultTxnOffsetCommitRequestSpec : ChangeSpec := { name := "fnDefaultTxnOffsetCommitRequest", fn := fun _ => fun
  | [d1, d2] => { results := [.lit (.bool true)], args := [d1, d2] }
  | _ => none }
def fnDefaultTxnOffsetCommitRequestRow : OpenClaim := { program := "ytneeaigimifckaagreatdoor", sum := "02bad56c2d53ca2d8fea5e372e1e9ce7c09f50fb1a6376d28f528b648f8cd660", func := "pub-mailsack/laws.FnDefaultTxnOffsetCommitRequest", spec := "fnDefaultTxnOffsetCommitRequest", inPlace := ["internal/reflectlite.ValueOf", "internal/reflectlite.Swapper", "(internal/reflectlite.Value).Len"], unfollowed := true, recurses := true, named := ["encoding/binary.BigEndian", "pub-mailsack/pub/kmsg/inner/kbin.ErrNotEnoughData"], loops := true, apart := false, laid := [("pub-mailsack/pub/kmsg/inner/kbin.ErrNotEnoughData", laid_pub_mailsack_pub_kmsg_inner_kbin_ErrNotEnoughData)] }
def FnDefaultTxnOffsetCommitRequestSaid : Prop := fnDefaultTxnOffsetCommitRequestRow.holds Tryz.pinned (OpenSpec.ofChange fnDefaultTxnOffsetCommitRequestSpec)

/-- ITS FALSE NEIGHBOUR: 'it returns false'. Refute it at one input. -/
def fnDefaultTxnOffsetCommitRequestWrong : ChangeSpec := { name := "fnDefaultTxnOffsetCommitRequest", fn := fun _ => fun
  | [d1, d2] => { results := [.lit (.bool false)], args := [d1, d2] }
  | _ => none }
def FnDefaultTxnOffsetCommitRequestWrongFalsely : Prop := fnDefaultTxnOffsetCommitRequestRow.holds Tryz.pinned (OpenSpec.ofChange fnDefaultTxnOffsetCommitRequestWrong)

/- THE SECOND FORM. 'bulk': how many values and letters a reading holds, each counted each time it is reached (what is shared counts as often as it is met; a slice's spare places count too). A statement '..UptoSaid' is the law's where the arguments, and the package variables that the reading takes, are together of bulk at most 1048576: NARROWER than '..Said'. Prove '..Said' where nothing that the law and all that it calls make is longer than what came in: it says more and counts as full. Else prove '..UptoSaid'. A law counts once. -/
mutual
def uptoBulk {H : Type} : DataW H → Nat
  | .lit (.string bytes) => bytes.length + 1
  | .lit _ => 1
  | .nil => 1
  | .ptr d => uptoBulk d + 1
  | .slice elems spare => uptoBulkAll elems + uptoBulkAll spare + 1
  | .agg parts => uptoBulkAll parts + 1
  | .iface _ d => uptoBulk d + 1
  | .map entries => uptoBulkEntries entries + 1
  | .held _ => 1
def uptoBulkAll {H : Type} : List (DataW H) → Nat
  | [] => 0
  | d :: r => uptoBulk d + uptoBulkAll r
def uptoBulkEntries {H : Type} : List (Lit × DataW H) → Nat
  | [] => 0
  | x :: r => uptoBulkEntry x + uptoBulkEntries r
def uptoBulkEntry {H : Type} : Lit × DataW H → Nat
  | (.string bytes, d) => bytes.length + uptoBulk d + 1
  | (_, d) => uptoBulk d + 1
 end
def uptoSmall : (H : Type) → List (DataW H) → Bool := fun _ ds => decide (uptoBulkAll ds ≤ 1048576)
def OpenSpec.upto (s : _root_.Go.ChangeSpec) : _root_.Go.OpenSpec := { _root_.Go.OpenSpec.ofChange s with cond := some uptoSmall }

/-- 'laws.FnTellListConfigResourcesResponse', WHERE WHAT IT READS IS OF BULK AT MOST 1048576: true; the input reads as it did. -/
def fnTellListConfigResourcesResponseUptoRow : OpenClaim := { program := "ytneeaigimifckaagreatdoor", sum := "02bad56c2d53ca2d8fea5e372e1e9ce7c09f50fb1a6376d28f528b648f8cd660", func := "pub-mailsack/laws.FnTellListConfigResourcesResponse", spec := "fnTellListConfigResourcesResponse", inPlace := ["internal/reflectlite.ValueOf", "internal/reflectlite.Swapper", "(internal/reflectlite.Value).Len"], unfollowed := true, recurses := true, named := ["encoding/binary.BigEndian", "pub-mailsack/pub/kmsg/inner/kbin.ErrNotEnoughData"], loops := true, apart := false, laid := [("pub-mailsack/pub/kmsg/inner/kbin.ErrNotEnoughData", laid_pub_mailsack_pub_kmsg_inner_kbin_ErrNotEnoughData)], narrowed := true }
def FnTellListConfigResourcesResponseUptoSaid : Prop := fnTellListConfigResourcesResponseUptoRow.holds Tryz.pinned (OpenSpec.upto fnTellListConfigResourcesResponseSpec)

/-- 'laws.FnDefaultUpdateFeaturesRequest', WHERE WHAT IT READS IS OF BULK AT MOST 1048576: true; the input reads as it did. -/
def fnDefaultUpdateFeaturesRequestUptoRow : OpenClaim := { program := "ytneeaigimifckaagreatdoor", sum := "02bad56c2d53ca2d8fea5e372e1e9ce7c09f50fb1a6376d28f528b648f8cd660", func := "pub-mailsack/laws.FnDefaultUpdateFeaturesRequest", spec := "fnDefaultUpdateFeaturesRequest", inPlace := ["internal/reflectlite.ValueOf", "internal/reflectlite.Swapper", "(internal/reflectlite.Value).Len"], unfollowed := true, recurses := true, named := ["encoding/binary.BigEndian", "pub-mailsack/pub/kmsg/inner/kbin.ErrNotEnoughData"], loops := true, apart := false, laid := [("pub-mailsack/pub/kmsg/inner/kbin.ErrNotEnoughData", laid_pub_mailsack_pub_kmsg_inner_kbin_ErrNotEnoughData)], narrowed := true }
def FnDefaultUpdateFeaturesRequestUptoSaid : Prop := fnDefaultUpdateFeaturesRequestUptoRow.holds Tryz.pinned (OpenSpec.upto fnDefaultUpdateFeaturesRequestSpec)

/-- 'laws.FnDefaultOffsetForLeaderEpochRequest', WHERE WHAT IT READS IS OF BULK AT MOST 1048576: true; the input reads as it did. -/
def fnDefaultOffsetForLeaderEpochRequestUptoRow : OpenClaim := { program := "ytneeaigimifckaagreatdoor", sum := "02bad56c2d53ca2d8fea5e372e1e9ce7c09f50fb1a6376d28f528b648f8cd660", func := "pub-mailsack/laws.FnDefaultOffsetForLeaderEpochRequest", spec := "fnDefaultOffsetForLeaderEpochRequest", inPlace := ["internal/reflectlite.ValueOf", "internal/reflectlite.Swapper", "(internal/reflectlite.Value).Len"], unfollowed := true, recurses := true, named := ["encoding/binary.BigEndian", "pub-mailsack/pub/kmsg/inner/kbin.ErrNotEnoughData"], loops := true, apart := false, laid := [("pub-mailsack/pub/kmsg/inner/kbin.ErrNotEnoughData", laid_pub_mailsack_pub_kmsg_inner_kbin_ErrNotEnoughData)], narrowed := true }
def FnDefaultOffsetForLeaderEpochRequestUptoSaid : Prop := fnDefaultOffsetForLeaderEpochRequestUptoRow.holds Tryz.pinned (OpenSpec.upto fnDefaultOffsetForLeaderEpochRequestSpec)

/-- 'laws.FnTellLeaveGroupRequest', WHERE WHAT IT READS IS OF BULK AT MOST 1048576: true; the input reads as it did. -/
def fnTellLeaveGroupRequestUptoRow : OpenClaim := { program := "ytneeaigimifckaagreatdoor", sum := "02bad56c2d53ca2d8fea5e372e1e9ce7c09f50fb1a6376d28f528b648f8cd660", func := "pub-mailsack/laws.FnTellLeaveGroupRequest", spec := "fnTellLeaveGroupRequest", inPlace := ["internal/reflectlite.ValueOf", "internal/reflectlite.Swapper", "(internal/reflectlite.Value).Len"], unfollowed := true, recurses := true, named := ["encoding/binary.BigEndian", "pub-mailsack/pub/kmsg/inner/kbin.ErrNotEnoughData"], loops := true, apart := false, laid := [("pub-mailsack/pub/kmsg/inner/kbin.ErrNotEnoughData", laid_pub_mailsack_pub_kmsg_inner_kbin_ErrNotEnoughData)], narrowed := true }
def FnTellLeaveGroupRequestUptoSaid : Prop := fnTellLeaveGroupRequestUptoRow.holds Tryz.pinned (OpenSpec.upto fnTellLeaveGroupRequestSpec)

/-- 'laws.FnTellCreateDelegationTokenRequest', WHERE WHAT IT READS IS OF BULK AT MOST 1048576: true; the input reads as it did. -/
def fnTellCreateDelegationTokenRequestUptoRow : OpenClaim := { program := "ytneeaigimifckaagreatdoor", sum := "02bad56c2d53ca2d8fea5e372e1e9ce7c09f50fb1a6376d28f528b648f8cd660", func := "pub-mailsack/laws.FnTellCreateDelegationTokenRequest", spec := "fnTellCreateDelegationTokenRequest", inPlace := ["internal/reflectlite.ValueOf", "internal/reflectlite.Swapper", "(internal/reflectlite.Value).Len"], unfollowed := true, recurses := true, named := ["encoding/binary.BigEndian", "pub-mailsack/pub/kmsg/inner/kbin.ErrNotEnoughData"], loops := true, apart := false, laid := [("pub-mailsack/pub/kmsg/inner/kbin.ErrNotEnoughData", laid_pub_mailsack_pub_kmsg_inner_kbin_ErrNotEnoughData)], narrowed := true }
def FnTellCreateDelegationTokenRequestUptoSaid : Prop := fnTellCreateDelegationTokenRequestUptoRow.holds Tryz.pinned (OpenSpec.upto fnTellCreateDelegationTokenRequestSpec)

/-- 'laws.FnDefaultOffsetCommitRequest', WHERE WHAT IT READS IS OF BULK AT MOST 1048576: true; the input reads as it did. -/
def fnDefaultOffsetCommitRequestUptoRow : OpenClaim := { program := "ytneeaigimifckaagreatdoor", sum := "02bad56c2d53ca2d8fea5e372e1e9ce7c09f50fb1a6376d28f528b648f8cd660", func := "pub-mailsack/laws.FnDefaultOffsetCommitRequest", spec := "fnDefaultOffsetCommitRequest", inPlace := ["internal/reflectlite.ValueOf", "internal/reflectlite.Swapper", "(internal/reflectlite.Value).Len"], unfollowed := true, recurses := true, named := ["encoding/binary.BigEndian", "pub-mailsack/pub/kmsg/inner/kbin.ErrNotEnoughData"], loops := true, apart := false, laid := [("pub-mailsack/pub/kmsg/inner/kbin.ErrNotEnoughData", laid_pub_mailsack_pub_kmsg_inner_kbin_ErrNotEnoughData)], narrowed := true }
def FnDefaultOffsetCommitRequestUptoSaid : Prop := fnDefaultOffsetCommitRequestUptoRow.holds Tryz.pinned (OpenSpec.upto fnDefaultOffsetCommitRequestSpec)

/-- 'laws.FnDefaultTxnOffsetCommitRequest', WHERE WHAT IT READS IS OF BULK AT MOST 1048576: true; the input reads as it did. -/
def fnDefaultTxnOffsetCommitRequestUptoRow : OpenClaim := { program := "ytneeaigimifckaagreatdoor", sum := "02bad56c2d53ca2d8fea5e372e1e9ce7c09f50fb1a6376d28f528b648f8cd660", func := "pub-mailsack/laws.FnDefaultTxnOffsetCommitRequest", spec := "fnDefaultTxnOffsetCommitRequest", inPlace := ["internal/reflectlite.ValueOf", "internal/reflectlite.Swapper", "(internal/reflectlite.Value).Len"], unfollowed := true, recurses := true, named := ["encoding/binary.BigEndian", "pub-mailsack/pub/kmsg/inner/kbin.ErrNotEnoughData"], loops := true, apart := false, laid := [("pub-mailsack/pub/kmsg/inner/kbin.ErrNotEnoughData", laid_pub_mailsack_pub_kmsg_inner_kbin_ErrNotEnoughData)], narrowed := true }
def FnDefaultTxnOffsetCommitRequestUptoSaid : Prop := fnDefaultTxnOffsetCommitRequestUptoRow.holds Tryz.pinned (OpenSpec.upto fnDefaultTxnOffsetCommitRequestSpec)

end Rows
end Go.Proofs.YtneeaigimifckaaGreatDoor
