/-
  NARROWER THAN 'FOR EVERY INPUT', by the rows' own cells (each row's printed sentence says how): FnBehindUpdateFeaturesRequest: loops, laid · FnBehindOffsetForLeaderEpochRequest: loops, laid · FnBehindOffsetCommitRequest: loops, laid · FnBehindTxnOffsetCommitRequest: loops, laid · FnBehindAlterConfigsRequest: loops, laid · FnBehindIncrementalAlterConfigsResponse: loops, laid.
  DERIVED. THE GIVEN ROWS OF THIS SEAT. 6 by the template 'for every input the law returns true; each argument reads behind the call as it read before'; 0 by the template 'total and deterministic' (their statements: YtfapegflnipofaaGreatDoorTotals.lean).
  GIVEN WITH THE SEED: the statements are not yours to turn. If you find one false, say at which input.
  Laid BY PROGRAM, IN A SANDBOX (cutbox-rows.mjs): the forced cells as the released guide's own fill.sh prints them over the translation 6f5333673ba5f000… (all of the seat's roots in one cut). By AI agents, Wed Nov 11 2026. No macro, syntax, notation, axiom, sorry.
-/
import Derived.Test.YtfapegflnipofaaGreatDoorChecked
import GoSem.Claim
import GoSem.ClaimJoined
import GoSem.ClaimMapViews
import Derived.JoinedTies
import Derived.KernelRfl
namespace Go.Proofs.YtfapegflnipofaaGreatDoor
/- THE CELL 'sum', in the pinned program and in every row, IS THE sha256 OF THE DUMP (.gsa) THAT YtfapegflnipofaaGreatDoorProg.lean LOADS. Nothing in Lean hashes anything: it is a label: what it is worth is what the hold of that sum in a sandbox is worth. -/
noncomputable def Tryz.pinned : Pinned := { name := "ytfapegflnipofaagreatdoor", sum := "6f5333673ba5f00077ad001902d5c17257d0a07bb849ff420b0772cca4b274d8", checked := Tryz.checked }
namespace Rows
def none {H : Type} : Left H := { results := [], args := [] }

/- WHAT THE LISTED PACKAGE-LEVEL VARIABLES READ AS WHEN THE CALL BEGINS. Each datum BY PROGRAM (the guide's laid-datum.mjs) off the statement by which the dump's own 'gosem.cut.vars' lays the variable. In a bare row this is a premise. The card (YtfapegflnipofaaGreatDoorCards.lean) ties it to the program's text. -/
def laid_pub_mailsack_pub_kmsg_inner_kbin_ErrNotEnoughData {H : Type} : DataW H := .iface "*errors.errorString" (.ptr (.agg [.lit (.string [114, 101, 115, 112, 111, 110, 115, 101, 32, 100, 105, 100, 32, 110, 111, 116, 32, 99, 111, 110, 116, 97, 105, 110, 32, 101, 110, 111, 117, 103, 104, 32, 100, 97, 116, 97, 32, 116, 111, 32, 98, 101, 32, 118, 97, 108, 105, 100])]))

/-- 'laws.FnBehindUpdateFeaturesRequest': WHATEVER THE INPUT: true; the input reads as it did. -/
def fnBehindUpdateFeaturesRequestSpec : ChangeSpec := { name := "fnBehindUpdateFeaturesRequest", fn := fun _ => fun
  | [d1, d2, d3] => { results := [.lit (.bool true)], args := [d1, d2, d3] }
  | _ => none }
def fnBehindUpdateFeaturesRequestRow : OpenClaim := { program := "ytfapegflnipofaagreatdoor", sum := "6f5333673ba5f00077ad001902d5c17257d0a07bb849ff420b0772cca4b274d8", func := "pub-mailsack/laws.FnBehindUpdateFeaturesRequest", spec := "fnBehindUpdateFeaturesRequest", inPlace := ["internal/reflectlite.ValueOf", "internal/reflectlite.Swapper", "(internal/reflectlite.Value).Len"], unfollowed := true, recurses := true, named := ["encoding/binary.BigEndian", "pub-mailsack/pub/kmsg/inner/kbin.ErrNotEnoughData"], loops := true, apart := false, laid := [("pub-mailsack/pub/kmsg/inner/kbin.ErrNotEnoughData", laid_pub_mailsack_pub_kmsg_inner_kbin_ErrNotEnoughData)] }
def FnBehindUpdateFeaturesRequestSaid : Prop := fnBehindUpdateFeaturesRequestRow.holds Tryz.pinned (OpenSpec.ofChange fnBehindUpdateFeaturesRequestSpec)

/-- ITS FALSE NEIGHBOUR: 'it returns false'. Refute it at one input. -/
def fnBehindUpdateFeaturesRequestWrong : ChangeSpec := { name := "fnBehindUpdateFeaturesRequest", fn := fun _ => fun
  | [d1, d2, d3] => { results := [.lit (.bool false)], args := [d1, d2, d3] }
  | _ => none }
def FnBehindUpdateFeaturesRequestWrongFalsely : Prop := fnBehindUpdateFeaturesRequestRow.holds Tryz.pinned (OpenSpec.ofChange fnBehindUpdateFeaturesRequestWrong)

/-- 'laws.FnBehindOffsetForLeaderEpochRequest': WHATEVER THE INPUT: true; the input reads as it did. -/
def fnBehindOffsetForLeaderEpochRequestSpec : ChangeSpec := { name := "fnBehindOffsetForLeaderEpochRequest", fn := fun _ => fun
  | [d1, d2, d3] => { results := [.lit (.bool true)], args := [d1, d2, d3] }
  | _ => none }
def fnBehindOffsetForLeaderEpochRequestRow : OpenClaim := { program := "ytfapegflnipofaagreatdoor", sum := "6f5333673ba5f00077ad001902d5c17257d0a07bb849ff420b0772cca4b274d8", func := "pub-mailsack/laws.FnBehindOffsetForLeaderEpochRequest", spec := "fnBehindOffsetForLeaderEpochRequest", inPlace := ["internal/reflectlite.ValueOf", "internal/reflectlite.Swapper", "(internal/reflectlite.Value).Len"], unfollowed := true, recurses := true, named := ["encoding/binary.BigEndian", "pub-mailsack/pub/kmsg/inner/kbin.ErrNotEnoughData"], loops := true, apart := false, laid := [("pub-mailsack/pub/kmsg/inner/kbin.ErrNotEnoughData", laid_pub_mailsack_pub_kmsg_inner_kbin_ErrNotEnoughData)] }
def FnBehindOffsetForLeaderEpochRequestSaid : Prop := fnBehindOffsetForLeaderEpochRequestRow.holds Tryz.pinned (OpenSpec.ofChange fnBehindOffsetForLeaderEpochRequestSpec)

/-- ITS FALSE NEIGHBOUR: 'it returns false'. Refute it at one input. -/
def fnBehindOffsetForLeaderEpochRequestWrong : ChangeSpec := { name := "fnBehindOffsetForLeaderEpochRequest", fn := fun _ => fun
  | [d1, d2, d3] => { results := [.lit (.bool false)], args := [d1, d2, d3] }
  | _ => none }
def FnBehindOffsetForLeaderEpochRequestWrongFalsely : Prop := fnBehindOffsetForLeaderEpochRequestRow.holds Tryz.pinned (OpenSpec.ofChange fnBehindOffsetForLeaderEpochRequestWrong)

/-- 'laws.FnBehindOffsetCommitRequest': WHATEVER THE INPUT: true; the input reads as it did. -/
def fnBehindOffsetCommitRequestSpec : ChangeSpec := { name := "fnBehindOffsetCommitRequest", fn := fun _ => fun
  | [d1, d2, d3] => { results := [.lit (.bool true)], args := [d1, d2, d3] }
  | _ => none }
def fnBehindOffsetCommitRequestRow : OpenClaim := { program := "ytfapegflnipofaagreatdoor", sum := "6f5333673ba5f00077ad001902d5c17257d0a07bb849ff420b0772cca4b274d8", func := "pub-mailsack/laws.FnBehindOffsetCommitRequest", spec := "fnBehindOffsetCommitRequest", inPlace := ["internal/reflectlite.ValueOf", "internal/reflectlite.Swapper", "(internal/reflectlite.Value).Len"], unfollowed := true, recurses := true, named := ["encoding/binary.BigEndian", "pub-mailsack/pub/kmsg/inner/kbin.ErrNotEnoughData"], loops := true, apart := false, laid := [("pub-mailsack/pub/kmsg/inner/kbin.ErrNotEnoughData", laid_pub_mailsack_pub_kmsg_inner_kbin_ErrNotEnoughData)] }
def FnBehindOffsetCommitRequestSaid : Prop := fnBehindOffsetCommitRequestRow.holds Tryz.pinned (OpenSpec.ofChange fnBehindOffsetCommitRequestSpec)

/-- ITS FALSE NEIGHBOUR: 'it returns false'. Refute it at one input. -/
def fnBehindOffsetCommitRequestWrong : ChangeSpec := { name := "fnBehindOffsetCommitRequest", fn := fun _ => fun
  | [d1, d2, d3] => { results := [.lit (.bool false)], args := [d1, d2, d3] }
  | _ => none }
def FnBehindOffsetCommitRequestWrongFalsely : Prop := fnBehindOffsetCommitRequestRow.holds Tryz.pinned (OpenSpec.ofChange fnBehindOffsetCommitRequestWrong)

/-- 'laws.FnBehindTxnOffsetCommitRequest': WHATEVER THE INPUT: true; the input reads as it did. -/
def fnBehindTxnOffsetCommitRequestSpec : ChangeSpec := { name := "fnBehindTxnOffsetCommitRequest", fn := fun _ => fun
  | [d1, d2, d3] => { results := [.lit (.bool true)], args := [d1, d2, d3] }
  | _ => none }
def fnBehindTxnOffsetCommitRequestRow : OpenClaim := { program := "ytfapegflnipofaagreatdoor", sum := "6f5333673ba5f00077ad001902d5c17257d0a07bb849ff420b0772cca4b274d8", func := "pub-mailsack/laws.FnBehindTxnOffsetCommitRequest", spec := "fnBehindTxnOffsetCommitRequest", inPlace := ["internal/reflectlite.ValueOf", "internal/reflectlite.Swapper", "(internal/reflectlite.Value).Len"], unfollowed := true, recurses := true, named := ["encoding/binary.BigEndian", "pub-mailsack/pub/kmsg/inner/kbin.ErrNotEnoughData"], loops := true, apart := false, laid := [("pub-mailsack/pub/kmsg/inner/kbin.ErrNotEnoughData", laid_pub_mailsack_pub_kmsg_inner_kbin_ErrNotEnoughData)] }
def FnBehindTxnOffsetCommitRequestSaid : Prop := fnBehindTxnOffsetCommitRequestRow.holds Tryz.pinned (OpenSpec.ofChange fnBehindTxnOffsetCommitRequestSpec)

/-- ITS FALSE NEIGHBOUR: 'it returns false'. Refute it at one input. -/
def fnBehindTxnOffsetCommitRequestWrong : ChangeSpec := { name := "fnBehindTxnOffsetCommitRequest", fn := fun _ => fun
  | [d1, d2, d3] => { results := [.lit (.bool false)], args := [d1, d2, d3] }
  | _ => none }
def FnBehindTxnOffsetCommitRequestWrongFalsely : Prop := fnBehindTxnOffsetCommitRequestRow.holds Tryz.pinned (OpenSpec.ofChange fnBehindTxnOffsetCommitRequestWrong)

/-- 'laws.FnBehindAlterConfigsRequest': WHATEVER THE INPUT: true; the input reads as it did. -/
def fnBehindAlterConfigsRequestSpec : ChangeSpec := { name := "fnBehindAlterConfigsRequest", fn := fun _ => fun
  | [d1, d2, d3] => { results := [.lit (.bool true)], args := [d1, d2, d3] }
  | _ => none }
def fnBehindAlterConfigsRequestRow : OpenClaim := { program := "ytfapegflnipofaagreatdoor", sum := "6f5333673ba5f00077ad001902d5c17257d0a07bb849ff420b0772cca4b274d8", func := "pub-mailsack/laws.FnBehindAlterConfigsRequest", spec := "fnBehindAlterConfigsRequest", inPlace := ["internal/reflectlite.ValueOf", "internal/reflectlite.Swapper", "(internal/reflectlite.Value).Len"], unfollowed := true, recurses := true, named := ["encoding/binary.BigEndian", "pub-mailsack/pub/kmsg/inner/kbin.ErrNotEnoughData"], loops := true, apart := false, laid := [("pub-mailsack/pub/kmsg/inner/kbin.ErrNotEnoughData", laid_pub_mailsack_pub_kmsg_inner_kbin_ErrNotEnoughData)] }
def FnBehindAlterConfigsRequestSaid : Prop := fnBehindAlterConfigsRequestRow.holds Tryz.pinned (OpenSpec.ofChange fnBehindAlterConfigsRequestSpec)

/-- ITS FALSE NEIGHBOUR: 'it returns false'. Refute it at one input. -/
def fnBehindAlterConfigsRequestWrong : ChangeSpec := { name := "fnBehindAlterConfigsRequest", fn := fun _ => fun
  | [d1, d2, d3] => { results := [.lit (.bool false)], args := [d1, d2, d3] }
  | _ => none }
def FnBehindAlterConfigsRequestWrongFalsely : Prop := fnBehindAlterConfigsRequestRow.holds Tryz.pinned (OpenSpec.ofChange fnBehindAlterConfigsRequestWrong)

/-- 'laws.FnBehindIncrementalAlterConfigsResponse': WHATEVER THE INPUT: true; the input reads as it did. -/
def fnBehindIncrementalAlterConfigsResponseSpec : ChangeSpec := { name := "fnBehindIncrementalAlterConfigsResponse", fn := fun _ => fun
  | [d1, d2, d3] => { results := [.lit (.bool true)], args := [d1, d2, d3] }
  | _ => none }
def fnBehindIncrementalAlterConfigsResponseRow : OpenClaim := { program := "ytfapegflnipofaagreatdoor", sum := "6f5333673ba5f00077ad001902d5c17257d0a07bb849ff420b0772cca4b274d8", func := "pub-mailsack/laws.FnBehindIncrementalAlterConfigsResponse", spec := "fnBehindIncrementalAlterConfigsResponse", inPlace := ["internal/reflectlite.ValueOf", "internal/reflectlite.Swapper", "(internal/reflectlite.Value).Len"], unfollowed := true, recurses := true, named := ["encoding/binary.BigEndian", "pub-mailsack/pub/kmsg/inner/kbin.ErrNotEnoughData"], loops := true, apart := false, laid := [("pub-mailsack/pub/kmsg/inner/kbin.ErrNotEnoughData", laid_pub_mailsack_pub_kmsg_inner_kbin_ErrNotEnoughData)] }
def FnBehindIncrementalAlterConfigsResponseSaid : Prop := fnBehindIncrementalAlterConfigsResponseRow.holds Tryz.pinned (OpenSpec.ofChange fnBehindIncrementalAlterConfigsResponseSpec)

/-- ITS FALSE NEIGHBOUR: 'it returns false'. Refute it at one input. -/
def fnBehindIncrementalAlterConfigsResponseWrong : ChangeSpec := { name := "fnBehindIncrementalAlterConfigsResponse", fn := fun _ => fun
  | [d1, d2, d3] => { results := [.lit (.bool false)], args := [d1, d2, d3] }
  | _ => none }
def FnBehindIncrementalAlterConfigsResponseWrongFalsely : Prop := fnBehindIncrementalAlterConfigsResponseRow.holds Tryz.pinned (OpenSpec.ofChange fnBehindIncrementalAlterConfigsResponseWrong)

/- THE SECOND FORM. 'bulk': how many values and letters a reading holds, each counted each time it is reached (what is shared counts as often as it is met; a slice's spare places count too). A statement '..UptoSaid' is the law's where the arguments, and the package variables that the reading takes, are together of bulk at most 1048576: NARROWER than '..Said'. Prove '..Said' where nothing that the law and all that it calls make is longer than what came in: it says more and counts as full. Else prove '..UptoSaid'. A law counts once. -/
mutual
def uptoBulk {H : Type} : DataW H → Nat
  | .lit (.string bytes) => bytes.length + 1
  | .lit _ => 1
  | .nil => 1
  | .ptr d => uptoBulk d + 1
  | .slice elems spare => uptoBulkAll elems + uptoBulkAll spare + 1
  | .agg parts => uptoBulkAll parts + 1
  | .iface _ d => uptoBulk d + 1
  | .map entries => uptoBulkEntries entries + 1
  | .held _ => 1
def uptoBulkAll {H : Type} : List (DataW H) → Nat
  | [] => 0
  | d :: r => uptoBulk d + uptoBulkAll r
def uptoBulkEntries {H : Type} : List (Lit × DataW H) → Nat
  | [] => 0
  | x :: r => uptoBulkEntry x + uptoBulkEntries r
def uptoBulkEntry {H : Type} : Lit × DataW H → Nat
  | (.string bytes, d) => bytes.length + uptoBulk d + 1
  | (_, d) => uptoBulk d + 1
 end
def uptoSmall : (H : Type) → List (DataW H) → Bool := fun _ ds => decide (uptoBulkAll ds ≤ 1048576)
def OpenSpec.upto (s : _root_.Go.ChangeSpec) : _root_.Go.OpenSpec := { _root_.Go.OpenSpec.ofChange s with cond := some uptoSmall }

/-- 'laws.FnBehindUpdateFeaturesRequest', WHERE WHAT IT READS IS OF BULK AT MOST 1048576: true; the input reads as it did. -/
def fnBehindUpdateFeaturesRequestUptoRow : OpenClaim := { program := "ytfapegflnipofaagreatdoor", sum := "6f5333673ba5f00077ad001902d5c17257d0a07bb849ff420b0772cca4b274d8", func := "pub-mailsack/laws.FnBehindUpdateFeaturesRequest", spec := "fnBehindUpdateFeaturesRequest", inPlace := ["internal/reflectlite.ValueOf", "internal/reflectlite.Swapper", "(internal/reflectlite.Value).Len"], unfollowed := true, recurses := true, named := ["encoding/binary.BigEndian", "pub-mailsack/pub/kmsg/inner/kbin.ErrNotEnoughData"], loops := true, apart := false, laid := [("pub-mailsack/pub/kmsg/inner/kbin.ErrNotEnoughData", laid_pub_mailsack_pub_kmsg_inner_kbin_ErrNotEnoughData)], narrowed := true }
def FnBehindUpdateFeaturesRequestUptoSaid : Prop := fnBehindUpdateFeaturesRequestUptoRow.holds Tryz.pinned (OpenSpec.upto fnBehindUpdateFeaturesRequestSpec)

/-- 'laws.FnBehindOffsetForLeaderEpochRequest', WHERE WHAT IT READS IS OF BULK AT MOST 1048576: true; the input reads as it did. -/
def fnBehindOffsetForLeaderEpochRequestUptoRow : OpenClaim := { program := "ytfapegflnipofaagreatdoor", sum := "6f5333673ba5f00077ad001902d5c17257d0a07bb849ff420b0772cca4b274d8", func := "pub-mailsack/laws.FnBehindOffsetForLeaderEpochRequest", spec := "fnBehindOffsetForLeaderEpochRequest", inPlace := ["internal/reflectlite.ValueOf", "internal/reflectlite.Swapper", "(internal/reflectlite.Value).Len"], unfollowed := true, recurses := true, named := ["encoding/binary.BigEndian", "pub-mailsack/pub/kmsg/inner/kbin.ErrNotEnoughData"], loops := true, apart := false, laid := [("pub-mailsack/pub/kmsg/inner/kbin.ErrNotEnoughData", laid_pub_mailsack_pub_kmsg_inner_kbin_ErrNotEnoughData)], narrowed := true }
def FnBehindOffsetForLeaderEpochRequestUptoSaid : Prop := fnBehindOffsetForLeaderEpochRequestUptoRow.holds Tryz.pinned (OpenSpec.upto fnBehindOffsetForLeaderEpochRequestSpec)

/-- 'laws.FnBehindOffsetCommitRequest', WHERE WHAT IT READS IS OF BULK AT MOST 1048576: true; the input reads as it did. -/
def fnBehindOffsetCommitRequestUptoRow : OpenClaim := { program := "ytfapegflnipofaagreatdoor", sum := "6f5333673ba5f00077ad001902d5c17257d0a07bb849ff420b0772cca4b274d8", func := "pub-mailsack/laws.FnBehindOffsetCommitRequest", spec := "fnBehindOffsetCommitRequest", inPlace := ["internal/reflectlite.ValueOf", "internal/reflectlite.Swapper", "(internal/reflectlite.Value).Len"], unfollowed := true, recurses := true, named := ["encoding/binary.BigEndian", "pub-mailsack/pub/kmsg/inner/kbin.ErrNotEnoughData"], loops := true, apart := false, laid := [("pub-mailsack/pub/kmsg/inner/kbin.ErrNotEnoughData", laid_pub_mailsack_pub_kmsg_inner_kbin_ErrNotEnoughData)], narrowed := true }
def FnBehindOffsetCommitRequestUptoSaid : Prop := fnBehindOffsetCommitRequestUptoRow.holds Tryz.pinned (OpenSpec.upto fnBehindOffsetCommitRequestSpec)

/-- 'laws.FnBehindTxnOffsetCommitRequest', WHERE WHAT IT READS IS OF BULK AT MOST 1048576: true; the input reads as it did. -/
def fnBehindTxnOffsetCommitRequestUptoRow : OpenClaim := { program := "ytfapegflnipofaagreatdoor", sum := "6f5333673ba5f00077ad001902d5c17257d0a07bb849ff420b0772cca4b274d8", func := "pub-mailsack/laws.FnBehindTxnOffsetCommitRequest", spec := "fnBehindTxnOffsetCommitRequest", inPlace := ["internal/reflectlite.ValueOf", "internal/reflectlite.Swapper", "(internal/reflectlite.Value).Len"], unfollowed := true, recurses := true, named := ["encoding/binary.BigEndian", "pub-mailsack/pub/kmsg/inner/kbin.ErrNotEnoughData"], loops := true, apart := false, laid := [("pub-mailsack/pub/kmsg/inner/kbin.ErrNotEnoughData", laid_pub_mailsack_pub_kmsg_inner_kbin_ErrNotEnoughData)], narrowed := true }
def FnBehindTxnOffsetCommitRequestUptoSaid : Prop := fnBehindTxnOffsetCommitRequestUptoRow.holds Tryz.pinned (OpenSpec.upto fnBehindTxnOffsetCommitRequestSpec)

/-- 'laws.FnBehindAlterConfigsRequest', WHERE WHAT IT READS IS OF BULK AT MOST 1048576: true; the input reads as it did. -/
def fnBehindAlterConfigsRequestUptoRow : OpenClaim := { program := "ytfapegflnipofaagreatdoor", sum := "6f5333673ba5f00077ad001902d5c17257d0a07bb849ff420b0772cca4b274d8", func := "pub-mailsack/laws.FnBehindAlterConfigsRequest", spec := "fnBehindAlterConfigsRequest", inPlace := ["internal/reflectlite.ValueOf", "internal/reflectlite.Swapper", "(internal/reflectlite.Value).Len"], unfollowed := true, recurses := true, named := ["encoding/binary.BigEndian", "pub-mailsack/pub/kmsg/inner/kbin.ErrNotEnoughData"], loops := true, apart := false, laid := [("pub-mailsack/pub/kmsg/inner/kbin.ErrNotEnoughData", laid_pub_mailsack_pub_kmsg_inner_kbin_ErrNotEnoughData)], narrowed := true }
def FnBehindAlterConfigsRequestUptoSaid : Prop := fnBehindAlterConfigsRequestUptoRow.holds Tryz.pinned (OpenSpec.upto fnBehindAlterConfigsRequestSpec)

/-- 'laws.FnBehindIncrementalAlterConfigsResponse', WHERE WHAT IT READS IS OF BULK AT MOST 1048576: true; the input reads as it did. -/
def fnBehindIncrementalAlterConfigsResponseUptoRow : OpenClaim := { program := "ytfapegflnipofaagreatdoor", sum := "6f5333673ba5f00077ad001902d5c17257d0a07bb849ff420b0772cca4b274d8", func := "pub-mailsack/laws.FnBehindIncrementalAlterConfigsResponse", spec := "fnBehindIncrementalAlterConfigsResponse", inPlace := ["internal/reflectlite.ValueOf", "internal/reflectlite.Swapper", "(internal/reflectlite.Value).Len"], unfollowed := true, recurses := true, named := ["encoding/binary.BigEndian", "pub-mailsack/pub/kmsg/inner/kbin.ErrNotEnoughData"], loops := true, apart := false, laid := [("pub-mailsack/pub/kmsg/inner/kbin.ErrNotEnoughData", laid_pub_mailsack_pub_kmsg_inner_kbin_ErrNotEnoughData)], narrowed := true }
def FnBehindIncrementalAlterConfigsResponseUptoSaid : Prop := fnBehindIncrementalAlterConfigsResponseUptoRow.holds Tryz.pinned (OpenSpec.upto fnBehindIncrementalAlterConfigsResponseSpec)

end Rows
end Go.Proofs.YtfapegflnipofaaGreatDoor
