/-
  NARROWER THAN 'FOR EVERY INPUT', by the rows' own cells (each row's printed sentence says how): FnTellWriteShareGroupStateResponse: loops, laid · FnTellAlterShareGroupOffsetsResponse: loops, laid · FnTellAlterReplicaLogDirsRequest: loops, laid · FnTellListOffsetsRequest: loops, laid.
  DERIVED. THE GIVEN ROWS OF THIS SEAT. 4 by the template 'for every input the law returns true; each argument reads behind the call as it read before'; 0 by the template 'total and deterministic' (their statements: YtalkojnkkncdfaaGreatDoorTotals.lean).
  GIVEN WITH THE SEED: the statements are not yours to turn. If you find one false, say at which input.
  Laid BY PROGRAM, IN A SANDBOX (cutbox-rows.mjs): the forced cells as the released guide's own fill.sh prints them over the translation eda2082cacc77f1c… (all of the seat's roots in one cut). By AI agents, Wed Nov 11 2026. No macro, syntax, notation, axiom, sorry.
-/
import Derived.Test.YtalkojnkkncdfaaGreatDoorChecked
import GoSem.Claim
import GoSem.ClaimJoined
import GoSem.ClaimMapViews
import Derived.JoinedTies
import Derived.KernelRfl
namespace Go.Proofs.YtalkojnkkncdfaaGreatDoor
/- THE CELL 'sum', in the pinned program and in every row, IS THE sha256 OF THE DUMP (.gsa) THAT YtalkojnkkncdfaaGreatDoorProg.lean LOADS. Nothing in Lean hashes anything: it is a label: what it is worth is what the hold of that sum in a sandbox is worth. -/
noncomputable def Tryz.pinned : Pinned := { name := "ytalkojnkkncdfaagreatdoor", sum := "eda2082cacc77f1c103af3ac2444c31c54537b5a5d7df966b9873aa63c16abd7", checked := Tryz.checked }
namespace Rows
def none {H : Type} : Left H := { results := [], args := [] }

/- WHAT THE LISTED PACKAGE-LEVEL VARIABLES READ AS WHEN THE CALL BEGINS. Each datum BY PROGRAM (the guide's laid-datum.mjs) off the statement by which the dump's own 'gosem.cut.vars' lays the variable. In a bare row this is a premise. The card (YtalkojnkkncdfaaGreatDoorCards.lean) ties it to the program's text. -/
def laid_pub_mailsack_pub_kmsg_inner_kbin_ErrNotEnoughData {H : Type} : DataW H := .iface "*errors.errorString" (.ptr (.agg [.lit (.string [114, 101, 115, 112, 111, 110, 115, 101, 32, 100, 105, 100, 32, 110, 111, 116, 32, 99, 111, 110, 116, 97, 105, 110, 32, 101, 110, 111, 117, 103, 104, 32, 100, 97, 116, 97, 32, 116, 111, 32, 98, 101, 32, 118, 97, 108, 105, 100])]))

/-- 'laws.FnTellWriteShareGroupStateResponse': WHATEVER THE INPUT: true; the input reads as it did. -/
def fnTellWriteShareGroupStateResponseSpec : ChangeSpec := { name := "fnTellWriteShareGroupStateResponse", fn := fun _ => fun
  | [d1, d2] => { results := [.lit (.bool true)], args := [d1, d2] }
  | _ => none }
def fnTellWriteShareGroupStateResponseRow : OpenClaim := { program := "ytalkojnkkncdfaagreatdoor", sum := "eda2082cacc77f1c103af3ac2444c31c54537b5a5d7df966b9873aa63c16abd7", func := "pub-mailsack/laws.FnTellWriteShareGroupStateResponse", spec := "fnTellWriteShareGroupStateResponse", inPlace := ["internal/reflectlite.ValueOf", "internal/reflectlite.Swapper", "(internal/reflectlite.Value).Len"], unfollowed := true, recurses := true, named := ["encoding/binary.BigEndian", "pub-mailsack/pub/kmsg/inner/kbin.ErrNotEnoughData"], loops := true, apart := false, laid := [("pub-mailsack/pub/kmsg/inner/kbin.ErrNotEnoughData", laid_pub_mailsack_pub_kmsg_inner_kbin_ErrNotEnoughData)] }
def FnTellWriteShareGroupStateResponseSaid : Prop := fnTellWriteShareGroupStateResponseRow.holds Tryz.pinned (OpenSpec.ofChange fnTellWriteShareGroupStateResponseSpec)

/-- ITS FALSE NEIGHBOUR: 'it returns false'. Refute it at one input. -/
def fnTellWriteShareGroupStateResponseWrong : ChangeSpec := { name := "fnTellWriteShareGroupStateResponse", fn := fun _ => fun
  | [d1, d2] => { results := [.lit (.bool false)], args := [d1, d2] }
  | _ => none }
def FnTellWriteShareGroupStateResponseWrongFalsely : Prop := fnTellWriteShareGroupStateResponseRow.holds Tryz.pinned (OpenSpec.ofChange fnTellWriteShareGroupStateResponseWrong)

/-- 'laws.FnTellAlterShareGroupOffsetsResponse': WHATEVER THE INPUT: true; the input reads as it did. -/
def fnTellAlterShareGroupOffsetsResponseSpec : ChangeSpec := { name := "fnTellAlterShareGroupOffsetsResponse", fn := fun _ => fun
  | [d1, d2] => { results := [.lit (.bool true)], args := [d1, d2] }
  | _ => none }
def fnTellAlterShareGroupOffsetsResponseRow : OpenClaim := { program := "ytalkojnkkncdfaagreatdoor", sum := "eda2082cacc77f1c103af3ac2444c31c54537b5a5d7df966b9873aa63c16abd7", func := "pub-mailsack/laws.FnTellAlterShareGroupOffsetsResponse", spec := "fnTellAlterShareGroupOffsetsResponse", inPlace := ["internal/reflectlite.ValueOf", "internal/reflectlite.Swapper", "(internal/reflectlite.Value).Len"], unfollowed := true, recurses := true, named := ["encoding/binary.BigEndian", "pub-mailsack/pub/kmsg/inner/kbin.ErrNotEnoughData"], loops := true, apart := false, laid := [("pub-mailsack/pub/kmsg/inner/kbin.ErrNotEnoughData", laid_pub_mailsack_pub_kmsg_inner_kbin_ErrNotEnoughData)] }
def FnTellAlterShareGroupOffsetsResponseSaid : Prop := fnTellAlterShareGroupOffsetsResponseRow.holds Tryz.pinned (OpenSpec.ofChange fnTellAlterShareGroupOffsetsResponseSpec)

/-- ITS FALSE NEIGHBOUR: 'it returns false'. Refute it at one input. -/
def fnTellAlterShareGroupOffsetsResponseWrong : ChangeSpec := { name := "fnTellAlterShareGroupOffsetsResponse", fn := fun _ => fun
  | [d1, d2] => { results := [.lit (.bool false)], args := [d1, d2] }
  | _ => none }
def FnTellAlterShareGroupOffsetsResponseWrongFalsely : Prop := fnTellAlterShareGroupOffsetsResponseRow.holds Tryz.pinned (OpenSpec.ofChange fnTellAlterShareGroupOffsetsResponseWrong)

/-- 'laws.FnTellAlterReplicaLogDirsRequest': WHATEVER THE INPUT: true; the input reads as it did. -/
def fnTellAlterReplicaLogDirsRequestSpec : ChangeSpec := { name := "fnTellAlterReplicaLogDirsRequest", fn := fun _ => fun
  | [d1, d2] => { results := [.lit (.bool true)], args := [d1, d2] }
  | _ => none }
def fnTellAlterReplicaLogDirsRequestRow : OpenClaim := { program := "ytalkojnkkncdfaagreatdoor", sum := "eda2082cacc77f1c103af3ac2444c31c54537b5a5d7df966b9873aa63c16abd7", func := "pub-mailsack/laws.FnTellAlterReplicaLogDirsRequest", spec := "fnTellAlterReplicaLogDirsRequest", inPlace := ["internal/reflectlite.ValueOf", "internal/reflectlite.Swapper", "(internal/reflectlite.Value).Len"], unfollowed := true, recurses := true, named := ["encoding/binary.BigEndian", "pub-mailsack/pub/kmsg/inner/kbin.ErrNotEnoughData"], loops := true, apart := false, laid := [("pub-mailsack/pub/kmsg/inner/kbin.ErrNotEnoughData", laid_pub_mailsack_pub_kmsg_inner_kbin_ErrNotEnoughData)] }
def FnTellAlterReplicaLogDirsRequestSaid : Prop := fnTellAlterReplicaLogDirsRequestRow.holds Tryz.pinned (OpenSpec.ofChange fnTellAlterReplicaLogDirsRequestSpec)

/-- ITS FALSE NEIGHBOUR: 'it returns false'. Refute it at one input. -/
def fnTellAlterReplicaLogDirsRequestWrong : ChangeSpec := { name := "fnTellAlterReplicaLogDirsRequest", fn := fun _ => fun
  | [d1, d2] => { results := [.lit (.bool false)], args := [d1, d2] }
  | _ => none }
def FnTellAlterReplicaLogDirsRequestWrongFalsely : Prop := fnTellAlterReplicaLogDirsRequestRow.holds Tryz.pinned (OpenSpec.ofChange fnTellAlterReplicaLogDirsRequestWrong)

/-- 'laws.FnTellListOffsetsRequest': WHATEVER THE INPUT: true; the input reads as it did. -/
def fnTellListOffsetsRequestSpec : ChangeSpec := { name := "fnTellListOffsetsRequest", fn := fun _ => fun
  | [d1, d2] => { results := [.lit (.bool true)], args := [d1, d2] }
  | _ => none }
def fnTellListOffsetsRequestRow : OpenClaim := { program := "ytalkojnkkncdfaagreatdoor", sum := "eda2082cacc77f1c103af3ac2444c31c54537b5a5d7df966b9873aa63c16abd7", func := "pub-mailsack/laws.FnTellListOffsetsRequest", spec := "fnTellListOffsetsRequest", inPlace := ["internal/reflectlite.ValueOf", "internal/reflectlite.Swapper", "(internal/reflectlite.Value).Len"], unfollowed := true, recurses := true, named := ["encoding/binary.BigEndian", "pub-mailsack/pub/kmsg/inner/kbin.ErrNotEnoughData"], loops := true, apart := false, laid := [("pub-mailsack/pub/kmsg/inner/kbin.ErrNotEnoughData", laid_pub_mailsack_pub_kmsg_inner_kbin_ErrNotEnoughData)] }
def FnTellListOffsetsRequestSaid : Prop := fnTellListOffsetsRequestRow.holds Tryz.pinned (OpenSpec.ofChange fnTellListOffsetsRequestSpec)

/-- ITS FALSE NEIGHBOUR: 'it returns false'. Refute it at one input. -/
def fnTellListOffsetsRequestWrong : ChangeSpec := { name := "fnTellListOffsetsRequest", fn := fun _ => fun
  | [d1, d2] => { results := [.lit (.bool false)], args := [d1, d2] }
  | _ => none }
def FnTellListOffsetsRequestWrongFalsely : Prop := fnTellListOffsetsRequestRow.holds Tryz.pinned (OpenSpec.ofChange fnTellListOffsetsRequestWrong)

/- THE SECOND FORM. 'bulk': how many values and letters a reading holds, each counted each time it is reached (what is shared counts as often as it is met; a slice's spare places count too). A statement '..UptoSaid' is the law's where the arguments, and the package variables that the reading takes, are together of bulk at most 1048576: NARROWER than '..Said'. Prove '..Said' where nothing that the law and all that it calls make is longer than what came in: it says more and counts as full. Else prove '..UptoSaid'. A law counts once. -/
mutual
def uptoBulk {H : Type} : DataW H → Nat
  | .lit (.string bytes) => bytes.length + 1
  | .lit _ => 1
  | .nil => 1
  | .ptr d => uptoBulk d + 1
  | .slice elems spare => uptoBulkAll elems + uptoBulkAll spare + 1
  | .agg parts => uptoBulkAll parts + 1
  | .iface _ d => uptoBulk d + 1
  | .map entries => uptoBulkEntries entries + 1
  | .held _ => 1
def uptoBulkAll {H : Type} : List (DataW H) → Nat
  | [] => 0
  | d :: r => uptoBulk d + uptoBulkAll r
def uptoBulkEntries {H : Type} : List (Lit × DataW H) → Nat
  | [] => 0
  | x :: r => uptoBulkEntry x + uptoBulkEntries r
def uptoBulkEntry {H : Type} : Lit × DataW H → Nat
  | (.string bytes, d) => bytes.length + uptoBulk d + 1
  | (_, d) => uptoBulk d + 1
 end
def uptoSmall : (H : Type) → List (DataW H) → Bool := fun _ ds => decide (uptoBulkAll ds ≤ 1048576)
def OpenSpec.upto (s : _root_.Go.ChangeSpec) : _root_.Go.OpenSpec := { _root_.Go.OpenSpec.ofChange s with cond := some uptoSmall }

/-- 'laws.FnTellWriteShareGroupStateResponse', WHERE WHAT IT READS IS OF BULK AT MOST 1048576: true; the input reads as it did. -/
def fnTellWriteShareGroupStateResponseUptoRow : OpenClaim := { program := "ytalkojnkkncdfaagreatdoor", sum := "eda2082cacc77f1c103af3ac2444c31c54537b5a5d7df966b9873aa63c16abd7", func := "pub-mailsack/laws.FnTellWriteShareGroupStateResponse", spec := "fnTellWriteShareGroupStateResponse", inPlace := ["internal/reflectlite.ValueOf", "internal/reflectlite.Swapper", "(internal/reflectlite.Value).Len"], unfollowed := true, recurses := true, named := ["encoding/binary.BigEndian", "pub-mailsack/pub/kmsg/inner/kbin.ErrNotEnoughData"], loops := true, apart := false, laid := [("pub-mailsack/pub/kmsg/inner/kbin.ErrNotEnoughData", laid_pub_mailsack_pub_kmsg_inner_kbin_ErrNotEnoughData)], narrowed := true }
def FnTellWriteShareGroupStateResponseUptoSaid : Prop := fnTellWriteShareGroupStateResponseUptoRow.holds Tryz.pinned (OpenSpec.upto fnTellWriteShareGroupStateResponseSpec)

/-- 'laws.FnTellAlterShareGroupOffsetsResponse', WHERE WHAT IT READS IS OF BULK AT MOST 1048576: true; the input reads as it did. -/
def fnTellAlterShareGroupOffsetsResponseUptoRow : OpenClaim := { program := "ytalkojnkkncdfaagreatdoor", sum := "eda2082cacc77f1c103af3ac2444c31c54537b5a5d7df966b9873aa63c16abd7", func := "pub-mailsack/laws.FnTellAlterShareGroupOffsetsResponse", spec := "fnTellAlterShareGroupOffsetsResponse", inPlace := ["internal/reflectlite.ValueOf", "internal/reflectlite.Swapper", "(internal/reflectlite.Value).Len"], unfollowed := true, recurses := true, named := ["encoding/binary.BigEndian", "pub-mailsack/pub/kmsg/inner/kbin.ErrNotEnoughData"], loops := true, apart := false, laid := [("pub-mailsack/pub/kmsg/inner/kbin.ErrNotEnoughData", laid_pub_mailsack_pub_kmsg_inner_kbin_ErrNotEnoughData)], narrowed := true }
def FnTellAlterShareGroupOffsetsResponseUptoSaid : Prop := fnTellAlterShareGroupOffsetsResponseUptoRow.holds Tryz.pinned (OpenSpec.upto fnTellAlterShareGroupOffsetsResponseSpec)

/-- 'laws.FnTellAlterReplicaLogDirsRequest', WHERE WHAT IT READS IS OF BULK AT MOST 1048576: true; the input reads as it did. -/
def fnTellAlterReplicaLogDirsRequestUptoRow : OpenClaim := { program := "ytalkojnkkncdfaagreatdoor", sum := "eda2082cacc77f1c103af3ac2444c31c54537b5a5d7df966b9873aa63c16abd7", func := "pub-mailsack/laws.FnTellAlterReplicaLogDirsRequest", spec := "fnTellAlterReplicaLogDirsRequest", inPlace := ["internal/reflectlite.ValueOf", "internal/reflectlite.Swapper", "(internal/reflectlite.Value).Len"], unfollowed := true, recurses := true, named := ["encoding/binary.BigEndian", "pub-mailsack/pub/kmsg/inner/kbin.ErrNotEnoughData"], loops := true, apart := false, laid := [("pub-mailsack/pub/kmsg/inner/kbin.ErrNotEnoughData", laid_pub_mailsack_pub_kmsg_inner_kbin_ErrNotEnoughData)], narrowed := true }
def FnTellAlterReplicaLogDirsRequestUptoSaid : Prop := fnTellAlterReplicaLogDirsRequestUptoRow.holds Tryz.pinned (OpenSpec.upto fnTellAlterReplicaLogDirsRequestSpec)

/-- 'laws.FnTellListOffsetsRequest', WHERE WHAT IT READS IS OF BULK AT MOST 1048576: true; the input reads as it did. -/
def fnTellListOffsetsRequestUptoRow : OpenClaim := { program := "ytalkojnkkncdfaagreatdoor", sum := "eda2082cacc77f1c103af3ac2444c31c54537b5a5d7df966b9873aa63c16abd7", func := "pub-mailsack/laws.FnTellListOffsetsRequest", spec := "fnTellListOffsetsRequest", inPlace := ["internal/reflectlite.ValueOf", "internal/reflectlite.Swapper", "(internal/reflectlite.Value).Len"], unfollowed := true, recurses := true, named := ["encoding/binary.BigEndian", "pub-mailsack/pub/kmsg/inner/kbin.ErrNotEnoughData"], loops := true, apart := false, laid := [("pub-mailsack/pub/kmsg/inner/kbin.ErrNotEnoughData", laid_pub_mailsack_pub_kmsg_inner_kbin_ErrNotEnoughData)], narrowed := true }
def FnTellListOffsetsRequestUptoSaid : Prop := fnTellListOffsetsRequestUptoRow.holds Tryz.pinned (OpenSpec.upto fnTellListOffsetsRequestSpec)

end Rows
end Go.Proofs.YtalkojnkkncdfaaGreatDoor
