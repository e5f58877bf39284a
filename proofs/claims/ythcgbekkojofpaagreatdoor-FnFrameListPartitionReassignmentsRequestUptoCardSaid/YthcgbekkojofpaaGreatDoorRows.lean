/-
  NARROWER THAN 'FOR EVERY INPUT', by the rows' own cells (each row's printed sentence says how): FnFrameDeleteGroupsRequest: loops, laid · FnFrameListPartitionReassignmentsRequest: loops, laid · FnFrameShareGroupHeartbeatRequest: loops, laid · FnFrameDeleteShareGroupStateRequest: loops, laid.
  DERIVED. THE GIVEN ROWS OF THIS SEAT. 4 by the template 'for every input the law returns true; each argument reads behind the call as it read before'; 0 by the template 'total and deterministic' (their statements: YthcgbekkojofpaaGreatDoorTotals.lean).
  GIVEN WITH THE SEED: the statements are not yours to turn. If you find one false, say at which input.
  Laid BY PROGRAM, IN A SANDBOX (cutbox-rows.mjs): the forced cells as the released guide's own fill.sh prints them over the translation 29d73b93e3b8f019… (all of the seat's roots in one cut). By AI agents, Wed Nov 11 2026. No macro, syntax, notation, axiom, sorry.
-/
import Derived.Test.YthcgbekkojofpaaGreatDoorChecked
import GoSem.Claim
import GoSem.ClaimJoined
import GoSem.ClaimMapViews
import Derived.JoinedTies
import Derived.KernelRfl
namespace Go.Proofs.YthcgbekkojofpaaGreatDoor
/- THE CELL 'sum', in the pinned program and in every row, IS THE sha256 OF THE DUMP (.gsa) THAT YthcgbekkojofpaaGreatDoorProg.lean LOADS. Nothing in Lean hashes anything: it is a label: what it is worth is what the hold of that sum in a sandbox is worth. -/
noncomputable def Tryz.pinned : Pinned := { name := "ythcgbekkojofpaagreatdoor", sum := "29d73b93e3b8f019913cd10acf63fbcb3b71122dea8a6a4aae7b5807647adc02", checked := Tryz.checked }
namespace Rows
def none {H : Type} : Left H := { results := [], args := [] }

/- WHAT THE LISTED PACKAGE-LEVEL VARIABLES READ AS WHEN THE CALL BEGINS. Each datum BY PROGRAM (the guide's laid-datum.mjs) off the statement by which the dump's own 'gosem.cut.vars' lays the variable. In a bare row this is a premise. The card (YthcgbekkojofpaaGreatDoorCards.lean) ties it to the program's text. -/
def laid_pub_mailsack_pub_kmsg_inner_kbin_ErrNotEnoughData {H : Type} : DataW H := .iface "*errors.errorString" (.ptr (.agg [.lit (.string [114, 101, 115, 112, 111, 110, 115, 101, 32, 100, 105, 100, 32, 110, 111, 116, 32, 99, 111, 110, 116, 97, 105, 110, 32, 101, 110, 111, 117, 103, 104, 32, 100, 97, 116, 97, 32, 116, 111, 32, 98, 101, 32, 118, 97, 108, 105, 100])]))

/-- 'laws.FnFrameDeleteGroupsRequest': WHATEVER THE INPUT: true; the input reads as it did. -/
def fnFrameDeleteGroupsRequestSpec : ChangeSpec := { name := "fnFrameDeleteGroupsRequest", fn := fun _ => fun
  | [d1, d2, d3, d4] => { results := [.lit (.bool true)], args := [d1, d2, d3, d4] }
  | _ => none }
def fnFrameDeleteGroupsRequestRow : OpenClaim := { program := "ythcgbekkojofpaagreatdoor", sum := "29d73b93e3b8f019913cd10acf63fbcb3b71122dea8a6a4aae7b5807647adc02", func := "pub-mailsack/laws.FnFrameDeleteGroupsRequest", spec := "fnFrameDeleteGroupsRequest", unfollowed := true, recurses := true, named := ["encoding/binary.BigEndian", "pub-mailsack/pub/kmsg/inner/kbin.ErrNotEnoughData"], loops := true, apart := false, laid := [("pub-mailsack/pub/kmsg/inner/kbin.ErrNotEnoughData", laid_pub_mailsack_pub_kmsg_inner_kbin_ErrNotEnoughData)] }
def FnFrameDeleteGroupsRequestSaid : Prop := fnFrameDeleteGroupsRequestRow.holds Tryz.pinned (OpenSpec.ofChange fnFrameDeleteGroupsRequestSpec)

/-- ITS FALSE NEIGHBOUR: 'it returns false'. Refute it at one input. -/
def fnFrameDeleteGroupsRequestWrong : ChangeSpec := { name := "fnFrameDeleteGroupsRequest", fn := fun _ => fun
  | [d1, d2, d3, d4] => { results := [.lit (.bool false)], args := [d1, d2, d3, d4] }
  | _ => none }
def FnFrameDeleteGroupsRequestWrongFalsely : Prop := fnFrameDeleteGroupsRequestRow.holds Tryz.pinned (OpenSpec.ofChange fnFrameDeleteGroupsRequestWrong)

/-- 'laws.FnFrameListPartitionReassignmentsRequest': WHATEVER THE INPUT: true; the input reads as it did. -/
def fnFrameListPartitionReassignmentsRequestSpec : ChangeSpec := { name := "fnFrameListPartitionReassignmentsRequest", fn := fun _ => fun
  | [d1, d2, d3, d4] => { results := [.lit (.bool true)], args := [d1, d2, d3, d4] }
  | _ => none }
def fnFrameListPartitionReassignmentsRequestRow : OpenClaim := { program := "ythcgbekkojofpaagreatdoor", sum := "29d73b93e3b8f019913cd10acf63fbcb3b71122dea8a6a4aae7b5807647adc02", func := "pub-mailsack/laws.FnFrameListPartitionReassignmentsRequest", spec := "fnFrameListPartitionReassignmentsRequest", unfollowed := true, recurses := true, named := ["encoding/binary.BigEndian", "pub-mailsack/pub/kmsg/inner/kbin.ErrNotEnoughData"], loops := true, apart := false, laid := [("pub-mailsack/pub/kmsg/inner/kbin.ErrNotEnoughData", laid_pub_mailsack_pub_kmsg_inner_kbin_ErrNotEnoughData)] }
def FnFrameListPartitionReassignmentsRequestSaid : Prop := fnFrameListPartitionReassignmentsRequestRow.holds Tryz.pinned (OpenSpec.ofChange fnFrameListPartitionReassignmentsRequestSpec)

/-- ITS FALSE NEIGHBOUR: 'it returns false'. Refute it at one input. -/
def fnFrameListPartitionReassignmentsRequestWrong : ChangeSpec := { name := "fnFrameListPartitionReassignmentsRequest", fn := fun _ => fun
  | [d1, d2, d3, d4] => { results := [.lit (.bool false)], args := [d1, d2, d3, d4] }
  | _ => none }
def FnFrameListPartitionReassignmentsRequestWrongFalsely : Prop := fnFrameListPartitionReassignmentsRequestRow.holds Tryz.pinned (OpenSpec.ofChange fnFrameListPartitionReassignmentsRequestWrong)

/-- 'laws.FnFrameShareGroupHeartbeatRequest': WHATEVER THE INPUT: true; the input reads as it did. -/
def fnFrameShareGroupHeartbeatRequestSpec : ChangeSpec := { name := "fnFrameShareGroupHeartbeatRequest", fn := fun _ => fun
  | [d1, d2, d3, d4] => { results := [.lit (.bool true)], args := [d1, d2, d3, d4] }
  | _ => none }
def fnFrameShareGroupHeartbeatRequestRow : OpenClaim := { program := "ythcgbekkojofpaagreatdoor", sum := "29d73b93e3b8f019913cd10acf63fbcb3b71122dea8a6a4aae7b5807647adc02", func := "pub-mailsack/laws.FnFrameShareGroupHeartbeatRequest", spec := "fnFrameShareGroupHeartbeatRequest", unfollowed := true, recurses := true, named := ["encoding/binary.BigEndian", "pub-mailsack/pub/kmsg/inner/kbin.ErrNotEnoughData"], loops := true, apart := false, laid := [("pub-mailsack/pub/kmsg/inner/kbin.ErrNotEnoughData", laid_pub_mailsack_pub_kmsg_inner_kbin_ErrNotEnoughData)] }
def FnFrameShareGroupHeartbeatRequestSaid : Prop := fnFrameShareGroupHeartbeatRequestRow.holds Tryz.pinned (OpenSpec.ofChange fnFrameShareGroupHeartbeatRequestSpec)

/-- ITS FALSE NEIGHBOUR: 'it returns false'. Refute it at one input. -/
def fnFrameShareGroupHeartbeatRequestWrong : ChangeSpec := { name := "fnFrameShareGroupHeartbeatRequest", fn := fun _ => fun
  | [d1, d2, d3, d4] => { results := [.lit (.bool false)], args := [d1, d2, d3, d4] }
  | _ => none }
def FnFrameShareGroupHeartbeatRequestWrongFalsely : Prop := fnFrameShareGroupHeartbeatRequestRow.holds Tryz.pinned (OpenSpec.ofChange fnFrameShareGroupHeartbeatRequestWrong)

/-- 'laws.FnFrameDeleteShareGroupStateRequest': WHATEVER THE INPUT: true; the input reads as it did. -/
def fnFrameDeleteShareGroupStateRequestSpec : ChangeSpec := { name := "fnFrameDeleteShareGroupStateRequest", fn := fun _ => fun
  | [d1, d2, d3, d4] => { results := [.lit (.bool true)], args := [d1, d2, d3, d4] }
  | _ => none }
def fnFrameDeleteShareGroupStateRequestRow : OpenClaim := { program := "ythcgbekkojofpaagreatdoor", sum := "29d73b93e3b8f019913cd10acf63fbcb3b71122dea8a6a4aae7b5807647adc02", func := "pub-mailsack/laws.FnFrameDeleteShareGroupStateRequest", spec := "fnFrameDeleteShareGroupStateRequest", unfollowed := true, recurses := true, named := ["encoding/binary.BigEndian", "pub-mailsack/pub/kmsg/inner/kbin.ErrNotEnoughData"], loops := true, apart := false, laid := [("pub-mailsack/pub/kmsg/inner/kbin.ErrNotEnoughData", laid_pub_mailsack_pub_kmsg_inner_kbin_ErrNotEnoughData)] }
def FnFrameDeleteShareGroupStateRequestSaid : Prop := fnFrameDeleteShareGroupStateRequestRow.holds Tryz.pinned (OpenSpec.ofChange fnFrameDeleteShareGroupStateRequestSpec)

/-- ITS FALSE NEIGHBOUR: 'it returns false'. Refute it at one input. -/
def fnFrameDeleteShareGroupStateRequestWrong : ChangeSpec := { name := "fnFrameDeleteShareGroupStateRequest", fn := fun _ => fun
  | [d1, d2, d3, d4] => { results := [.lit (.bool false)], args := [d1, d2, d3, d4] }
  | _ => none }
def FnFrameDeleteShareGroupStateRequestWrongFalsely : Prop := fnFrameDeleteShareGroupStateRequestRow.holds Tryz.pinned (OpenSpec.ofChange fnFrameDeleteShareGroupStateRequestWrong)

/- THE SECOND FORM. 'bulk': how many values and letters a reading holds, each counted each time it is reached (what is shared counts as often as it is met; a slice's spare places count too). A statement '..UptoSaid' is the law's where the arguments, and the package variables that the reading takes, are together of bulk at most 1048576: NARROWER than '..Said'. Prove '..Said' where nothing that the law and all that it calls make is longer than what came in: it says more and counts as full. Else prove '..UptoSaid'. A law counts once. -/
mutual
def uptoBulk {H : Type} : DataW H → Nat
  | .lit (.string bytes) => bytes.length + 1
  | .lit _ => 1
  | .nil => 1
  | .ptr d => uptoBulk d + 1
  | .slice elems spare => uptoBulkAll elems + uptoBulkAll spare + 1
  | .agg parts => uptoBulkAll parts + 1
  | .iface _ d => uptoBulk d + 1
  | .map entries => uptoBulkEntries entries + 1
  | .held _ => 1
def uptoBulkAll {H : Type} : List (DataW H) → Nat
  | [] => 0
  | d :: r => uptoBulk d + uptoBulkAll r
def uptoBulkEntries {H : Type} : List (Lit × DataW H) → Nat
  | [] => 0
  | x :: r => uptoBulkEntry x + uptoBulkEntries r
def uptoBulkEntry {H : Type} : Lit × DataW H → Nat
  | (.string bytes, d) => bytes.length + uptoBulk d + 1
  | (_, d) => uptoBulk d + 1
 end
def uptoSmall : (H : Type) → List (DataW H) → Bool := fun _ ds => decide (uptoBulkAll ds ≤ 1048576)
def OpenSpec.upto (s : _root_.Go.ChangeSpec) : _root_.Go.OpenSpec := { _root_.Go.OpenSpec.ofChange s with cond := some uptoSmall }

/-- 'laws.FnFrameDeleteGroupsRequest', WHERE WHAT IT READS IS OF BULK AT MOST 1048576: true; the input reads as it did. -/
def fnFrameDeleteGroupsRequestUptoRow : OpenClaim := { program := "ythcgbekkojofpaagreatdoor", sum := "29d73b93e3b8f019913cd10acf63fbcb3b71122dea8a6a4aae7b5807647adc02", func := "pub-mailsack/laws.FnFrameDeleteGroupsRequest", spec := "fnFrameDeleteGroupsRequest", unfollowed := true, recurses := true, named := ["encoding/binary.BigEndian", "pub-mailsack/pub/kmsg/inner/kbin.ErrNotEnoughData"], loops := true, apart := false, laid := [("pub-mailsack/pub/kmsg/inner/kbin.ErrNotEnoughData", laid_pub_mailsack_pub_kmsg_inner_kbin_ErrNotEnoughData)], narrowed := true }
def FnFrameDeleteGroupsRequestUptoSaid : Prop := fnFrameDeleteGroupsRequestUptoRow.holds Tryz.pinned (OpenSpec.upto fnFrameDeleteGroupsRequestSpec)

/-- 'laws.FnFrameListPartitionReassignmentsRequest', WHERE WHAT IT READS IS OF BULK AT MOST 1048576: true; the input reads as it did. -/
def fnFrameListPartitionReassignmentsRequestUptoRow : OpenClaim := { program := "ythcgbekkojofpaagreatdoor", sum := "29d73b93e3b8f019913cd10acf63fbcb3b71122dea8a6a4aae7b5807647adc02", func := "pub-mailsack/laws.FnFrameListPartitionReassignmentsRequest", spec := "fnFrameListPartitionReassignmentsRequest", unfollowed := true, recurses := true, named := ["encoding/binary.BigEndian", "pub-mailsack/pub/kmsg/inner/kbin.ErrNotEnoughData"], loops := true, apart := false, laid := [("pub-mailsack/pub/kmsg/inner/kbin.ErrNotEnoughData", laid_pub_mailsack_pub_kmsg_inner_kbin_ErrNotEnoughData)], narrowed := true }
def FnFrameListPartitionReassignmentsRequestUptoSaid : Prop := fnFrameListPartitionReassignmentsRequestUptoRow.holds Tryz.pinned (OpenSpec.upto fnFrameListPartitionReassignmentsRequestSpec)

/-- 'laws.FnFrameShareGroupHeartbeatRequest', WHERE WHAT IT READS IS OF BULK AT MOST 1048576: true; the input reads as it did. -/
def fnFrameShareGroupHeartbeatRequestUptoRow : OpenClaim := { program := "ythcgbekkojofpaagreatdoor", sum := "29d73b93e3b8f019913cd10acf63fbcb3b71122dea8a6a4aae7b5807647adc02", func := "pub-mailsack/laws.FnFrameShareGroupHeartbeatRequest", spec := "fnFrameShareGroupHeartbeatRequest", unfollowed := true, recurses := true, named := ["encoding/binary.BigEndian", "pub-mailsack/pub/kmsg/inner/kbin.ErrNotEnoughData"], loops := true, apart := false, laid := [("pub-mailsack/pub/kmsg/inner/kbin.ErrNotEnoughData", laid_pub_mailsack_pub_kmsg_inner_kbin_ErrNotEnoughData)], narrowed := true }
def FnFrameShareGroupHeartbeatRequestUptoSaid : Prop := fnFrameShareGroupHeartbeatRequestUptoRow.holds Tryz.pinned (OpenSpec.upto fnFrameShareGroupHeartbeatRequestSpec)

/-- 'laws.FnFrameDeleteShareGroupStateRequest', WHERE WHAT IT READS IS OF BULK AT MOST 1048576: true; the input reads as it did. -/
def fnFrameDeleteShareGroupStateRequestUptoRow : OpenClaim := { program := "ythcgbekkojofpaagreatdoor", sum := "29d73b93e3b8f019913cd10acf63fbcb3b71122dea8a6a4aae7b5807647adc02", func := "pub-mailsack/laws.FnFrameDeleteShareGroupStateRequest", spec := "fnFrameDeleteShareGroupStateRequest", unfollowed := true, recurses := true, named := ["encoding/binary.BigEndian", "pub-mailsack/pub/kmsg/inner/kbin.ErrNotEnoughData"], loops := true, apart := false, laid := [("pub-mailsack/pub/kmsg/inner/kbin.ErrNotEnoughData", laid_pub_mailsack_pub_kmsg_inner_kbin_ErrNotEnoughData)], narrowed := true }
def FnFrameDeleteShareGroupStateRequestUptoSaid : Prop := fnFrameDeleteShareGroupStateRequestUptoRow.holds Tryz.pinned (OpenSpec.upto fnFrameDeleteShareGroupStateRequestSpec)

end Rows
end Go.Proofs.YthcgbekkojofpaaGreatDoor
