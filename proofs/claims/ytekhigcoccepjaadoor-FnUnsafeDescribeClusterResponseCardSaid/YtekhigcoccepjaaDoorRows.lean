/-
  NARROWER THAN 'FOR EVERY INPUT', by the rows' own cells (each row's printed sentence says how): FnUnsafeInitializeShareGroupStateRequest: laid · FnUnsafeReadShareGroupStateSummaryResponse: laid · FnUnsafeFindCoordinatorResponse: laid · FnUnsafeVoteRequest: laid · FnUnsafeDescribeClusterResponse: laid · FnUnsafeDescribeGroupsResponse: laid.
  DERIVED. THE GIVEN ROWS OF THIS SEAT. 6 by the template 'for every input the law returns true; each argument reads behind the call as it read before'; 0 by the template 'total and deterministic' (their statements: YtekhigcoccepjaaDoorTotals.lean).
  GIVEN WITH THE SEED: the statements are not yours to turn. If you find one false, say at which input.
  Laid BY PROGRAM, IN A SANDBOX (cutbox-rows.mjs): the forced cells as the released guide's own fill.sh prints them over the translation 900a6e628ad41723… (all of the seat's roots in one cut). By AI agents, Wed Nov 11 2026. No macro, syntax, notation, axiom, sorry.
-/
import Derived.Test.YtekhigcoccepjaaDoorChecked
import GoSem.Claim
import GoSem.ClaimJoined
import GoSem.ClaimMapViews
import Derived.JoinedTies
import Derived.KernelRfl
namespace Go.Proofs.YtekhigcoccepjaaDoor
/- THE CELL 'sum', in the pinned program and in every row, IS THE sha256 OF THE DUMP (.gsa) THAT YtekhigcoccepjaaDoorProg.lean LOADS. Nothing in Lean hashes anything: it is a label: what it is worth is what the hold of that sum in a sandbox is worth. -/
noncomputable def Tryd.pinned : Pinned := { name := "ytekhigcoccepjaadoor", sum := "900a6e628ad41723a2995ebeda99b152e61c4db03b43f9b2421c31d80a32d49d", checked := Tryd.checked }
namespace Rows
def none {H : Type} : Left H := { results := [], args := [] }

/- WHAT THE LISTED PACKAGE-LEVEL VARIABLES READ AS WHEN THE CALL BEGINS. Each datum BY PROGRAM (the guide's laid-datum.mjs) off the statement by which the dump's own 'gosem.cut.vars' lays the variable. In a bare row this is a premise. The card (YtekhigcoccepjaaDoorCards.lean) ties it to the program's text. -/
def laid_pub_mailsack_pub_kmsg_inner_kbin_ErrNotEnoughData {H : Type} : DataW H := .iface "*errors.errorString" (.ptr (.agg [.lit (.string [114, 101, 115, 112, 111, 110, 115, 101, 32, 100, 105, 100, 32, 110, 111, 116, 32, 99, 111, 110, 116, 97, 105, 110, 32, 101, 110, 111, 117, 103, 104, 32, 100, 97, 116, 97, 32, 116, 111, 32, 98, 101, 32, 118, 97, 108, 105, 100])]))

/-- 'laws.FnUnsafeInitializeShareGroupStateRequest': WHATEVER THE INPUT: true; the input reads as it did. -/
def fnUnsafeInitializeShareGroupStateRequestSpec : ChangeSpec := { name := "fnUnsafeInitializeShareGroupStateRequest", fn := fun _ => fun
  | [d1, d2] => { results := [.lit (.bool true)], args := [d1, d2] }
  | _ => none }
def fnUnsafeInitializeShareGroupStateRequestRow : OpenClaim := { program := "ytekhigcoccepjaadoor", sum := "900a6e628ad41723a2995ebeda99b152e61c4db03b43f9b2421c31d80a32d49d", func := "pub-mailsack/laws.FnUnsafeInitializeShareGroupStateRequest", spec := "fnUnsafeInitializeShareGroupStateRequest", inPlace := ["internal/reflectlite.ValueOf", "internal/reflectlite.Swapper", "(internal/reflectlite.Value).Len"], unfollowed := true, recurses := true, named := ["encoding/binary.BigEndian", "pub-mailsack/pub/kmsg/inner/kbin.ErrNotEnoughData"], apart := false, laid := [("pub-mailsack/pub/kmsg/inner/kbin.ErrNotEnoughData", laid_pub_mailsack_pub_kmsg_inner_kbin_ErrNotEnoughData)] }
def FnUnsafeInitializeShareGroupStateRequestSaid : Prop := fnUnsafeInitializeShareGroupStateRequestRow.holds Tryd.pinned (OpenSpec.ofChange fnUnsafeInitializeShareGroupStateRequestSpec)

/-- ITS FALSE NEIGHBOUR: 'it returns false'. Refute it at one input. -/
def fnUnsafeInitializeShareGroupStateRequestWrong : ChangeSpec := { name := "fnUnsafeInitializeShareGroupStateRequest", fn := fun _ => fun
  | [d1, d2] => { results := [.lit (.bool false)], args := [d1, d2] }
  | _ => none }
def FnUnsafeInitializeShareGroupStateRequestWrongFalsely : Prop := fnUnsafeInitializeShareGroupStateRequestRow.holds Tryd.pinned (OpenSpec.ofChange fnUnsafeInitializeShareGroupStateRequestWrong)

/-- 'laws.FnUnsafeReadShareGroupStateSummaryResponse': WHATEVER THE INPUT: true; the input reads as it did. -/
def fnUnsafeReadShareGroupStateSummaryResponseSpec : ChangeSpec := { name := "fnUnsafeReadShareGroupStateSummaryResponse", fn := fun _ => fun
  | [d1, d2] => { results := [.lit (.bool true)], args := [d1, d2] }
  | _ => none }
def fnUnsafeReadShareGroupStateSummaryResponseRow : OpenClaim := { program := "ytekhigcoccepjaadoor", sum := "900a6e628ad41723a2995ebeda99b152e61c4db03b43f9b2421c31d80a32d49d", func := "pub-mailsack/laws.FnUnsafeReadShareGroupStateSummaryResponse", spec := "fnUnsafeReadShareGroupStateSummaryResponse", inPlace := ["internal/reflectlite.ValueOf", "internal/reflectlite.Swapper", "(internal/reflectlite.Value).Len"], unfollowed := true, recurses := true, named := ["encoding/binary.BigEndian", "pub-mailsack/pub/kmsg/inner/kbin.ErrNotEnoughData"], apart := false, laid := [("pub-mailsack/pub/kmsg/inner/kbin.ErrNotEnoughData", laid_pub_mailsack_pub_kmsg_inner_kbin_ErrNotEnoughData)] }
def FnUnsafeReadShareGroupStateSummaryResponseSaid : Prop := fnUnsafeReadShareGroupStateSummaryResponseRow.holds Tryd.pinned (OpenSpec.ofChange fnUnsafeReadShareGroupStateSummaryResponseSpec)

/-- ITS FALSE NEIGHBOUR: 'it returns false'. Refute it at one input. -/
def fnUnsafeReadShareGroupStateSummaryResponseWrong : ChangeSpec := { name := "fnUnsafeReadShareGroupStateSummaryResponse", fn := fun _ => fun
  | [d1, d2] => { results := [.lit (.bool false)], args := [d1, d2] }
  | _ => none }
def FnUnsafeReadShareGroupStateSummaryResponseWrongFalsely : Prop := fnUnsafeReadShareGroupStateSummaryResponseRow.holds Tryd.pinned (OpenSpec.ofChange fnUnsafeReadShareGroupStateSummaryResponseWrong)

/-- 'laws.FnUnsafeFindCoordinatorResponse': WHATEVER THE INPUT: true; the input reads as it did. -/
def fnUnsafeFindCoordinatorResponseSpec : ChangeSpec := { name := "fnUnsafeFindCoordinatorResponse", fn := fun _ => fun
  | [d1, d2] => { results := [.lit (.bool true)], args := [d1, d2] }
  | _ => none }
def fnUnsafeFindCoordinatorResponseRow : OpenClaim := { program := "ytekhigcoccepjaadoor", sum := "900a6e628ad41723a2995ebeda99b152e61c4db03b43f9b2421c31d80a32d49d", func := "pub-mailsack/laws.FnUnsafeFindCoordinatorResponse", spec := "fnUnsafeFindCoordinatorResponse", inPlace := ["internal/reflectlite.ValueOf", "internal/reflectlite.Swapper", "(internal/reflectlite.Value).Len"], unfollowed := true, recurses := true, named := ["encoding/binary.BigEndian", "pub-mailsack/pub/kmsg/inner/kbin.ErrNotEnoughData"], apart := false, laid := [("pub-mailsack/pub/kmsg/inner/kbin.ErrNotEnoughData", laid_pub_mailsack_pub_kmsg_inner_kbin_ErrNotEnoughData)] }
def FnUnsafeFindCoordinatorResponseSaid : Prop := fnUnsafeFindCoordinatorResponseRow.holds Tryd.pinned (OpenSpec.ofChange fnUnsafeFindCoordinatorResponseSpec)

/-- ITS FALSE NEIGHBOUR: 'it returns false'. Refute it at one input. -/
def fnUnsafeFindCoordinatorResponseWrong : ChangeSpec := { name := "fnUnsafeFindCoordinatorResponse", fn := fun _ => fun
  | [d1, d2] => { results := [.lit (.bool false)], args := [d1, d2] }
  | _ => none }
def FnUnsafeFindCoordinatorResponseWrongFalsely : Prop := fnUnsafeFindCoordinatorResponseRow.holds Tryd.pinned (OpenSpec.ofChange fnUnsafeFindCoordinatorResponseWrong)

/-- 'laws.FnUnsafeVoteRequest': WHATEVER THE INPUT: true; the input reads as it did. -/
def fnUnsafeVoteRequestSpec : ChangeSpec := { name := "fnUnsafeVoteRequest", fn := fun _ => fun
  | [d1, d2] => { results := [.lit (.bool true)], args := [d1, d2] }
  | _ => none }
def fnUnsafeVoteRequestRow : OpenClaim := { program := "ytekhigcoccepjaadoor", sum := "900a6e628ad41723a2995ebeda99b152e61c4db03b43f9b2421c31d80a32d49d", func := "pub-mailsack/laws.FnUnsafeVoteRequest", spec := "fnUnsafeVoteRequest", inPlace := ["internal/reflectlite.ValueOf", "internal/reflectlite.Swapper", "(internal/reflectlite.Value).Len"], unfollowed := true, recurses := true, named := ["encoding/binary.BigEndian", "pub-mailsack/pub/kmsg/inner/kbin.ErrNotEnoughData"], apart := false, laid := [("pub-mailsack/pub/kmsg/inner/kbin.ErrNotEnoughData", laid_pub_mailsack_pub_kmsg_inner_kbin_ErrNotEnoughData)] }
def FnUnsafeVoteRequestSaid : Prop := fnUnsafeVoteRequestRow.holds Tryd.pinned (OpenSpec.ofChange fnUnsafeVoteRequestSpec)

/-- ITS FALSE NEIGHBOUR: 'it returns false'. Refute it at one input. -/
def fnUnsafeVoteRequestWrong : ChangeSpec := { name := "fnUnsafeVoteRequest", fn := fun _ => fun
  | [d1, d2] => { results := [.lit (.bool false)], args := [d1, d2] }
  | _ => none }
def FnUnsafeVoteRequestWrongFalsely : Prop := fnUnsafeVoteRequestRow.holds Tryd.pinned (OpenSpec.ofChange fnUnsafeVoteRequestWrong)

/-- 'laws.FnUnsafeDescribeClusterResponse': WHATEVER THE INPUT: true; the input reads as it did. -/
def fnUnsafeDescribeClusterResponseSpec : ChangeSpec := { name := "fnUnsafeDescribeClusterResponse", fn := fun _ => fun
  | [d1, d2] => { results := [.lit (.bool true)], args := [d1, d2] }
  | _ => none }
def fnUnsafeDescribeClusterResponseRow : OpenClaim := { program := "ytekhigcoccepjaadoor", sum := "900a6e628ad41723a2995ebeda99b152e61c4db03b43f9b2421c31d80a32d49d", func := "pub-mailsack/laws.FnUnsafeDescribeClusterResponse", spec := "fnUnsafeDescribeClusterResponse", inPlace := ["internal/reflectlite.ValueOf", "internal/reflectlite.Swapper", "(internal/reflectlite.Value).Len"], unfollowed := true, recurses := true, named := ["encoding/binary.BigEndian", "pub-mailsack/pub/kmsg/inner/kbin.ErrNotEnoughData"], apart := false, laid := [("pub-mailsack/pub/kmsg/inner/kbin.ErrNotEnoughData", laid_pub_mailsack_pub_kmsg_inner_kbin_ErrNotEnoughData)] }
def FnUnsafeDescribeClusterResponseSaid : Prop := fnUnsafeDescribeClusterResponseRow.holds Tryd.pinned (OpenSpec.ofChange fnUnsafeDescribeClusterResponseSpec)

/-- ITS FALSE NEIGHBOUR: 'it returns false'. Refute it at one input. -/
def fnUnsafeDescribeClusterResponseWrong : ChangeSpec := { name := "fnUnsafeDescribeClusterResponse", fn := fun _ => fun
  | [d1, d2] => { results := [.lit (.bool false)], args := [d1, d2] }
  | _ => none }
def FnUnsafeDescribeClusterResponseWrongFalsely : Prop := fnUnsafeDescribeClusterResponseRow.holds Tryd.pinned (OpenSpec.ofChange fnUnsafeDescribeClusterResponseWrong)

/-- 'laws.FnUnsafeDescribeGroupsResponse': WHATEVER THE INPUT: true; the input reads as it did. -/
def fnUnsafeDescribeGroupsResponseSpec : ChangeSpec := { name := "fnUnsafeDescribeGroupsResponse", fn := fun _ => fun
  | [d1, d2] => { results := [.lit (.bool true)], args := [d1, d2] }
  | _ => none }
def fnUnsafeDescribeGroupsResponseRow : OpenClaim := { program := "ytekhigcoccepjaadoor", sum := "900a6e628ad41723a2995ebeda99b152e61c4db03b43f9b2421c31d80a32d49d", func := "pub-mailsack/laws.FnUnsafeDescribeGroupsResponse", spec := "fnUnsafeDescribeGroupsResponse", inPlace := ["internal/reflectlite.ValueOf", "internal/reflectlite.Swapper", "(internal/reflectlite.Value).Len"], unfollowed := true, recurses := true, named := ["encoding/binary.BigEndian", "pub-mailsack/pub/kmsg/inner/kbin.ErrNotEnoughData"], apart := false, laid := [("pub-mailsack/pub/kmsg/inner/kbin.ErrNotEnoughData", laid_pub_mailsack_pub_kmsg_inner_kbin_ErrNotEnoughData)] }
def FnUnsafeDescribeGroupsResponseSaid : Prop := fnUnsafeDescribeGroupsResponseRow.holds Tryd.pinned (OpenSpec.ofChange fnUnsafeDescribeGroupsResponseSpec)

/-- ITS FALSE NEIGHBOUR: 'it returns false'. Refute it at one input. -/
def fnUnsafeDescribeGroupsResponseWrong : ChangeSpec := { name := "fnUnsafeDescribeGroupsResponse", fn := fun _ => fun
  | [d1, d2] => { results := [.lit (.bool false)], args := [d1, d2] }
  | _ => none }
def FnUnsafeDescribeGroupsResponseWrongFalsely : Prop := fnUnsafeDescribeGroupsResponseRow.holds Tryd.pinned (OpenSpec.ofChange fnUnsafeDescribeGroupsResponseWrong)

/- THE SECOND FORM. 'bulk': how many values and letters a reading holds, each counted each time it is reached (what is shared counts as often as it is met; a slice's spare places count too). A statement '..UptoSaid' is the law's where the arguments, and the package variables that the reading takes, are together of bulk at most 1048576: NARROWER than '..Said'. Prove '..Said' where nothing that the law and all that it calls make is longer than what came in: it says more and counts as full. Else prove '..UptoSaid'. A law counts once. -/
mutual
def uptoBulk {H : Type} : DataW H → Nat
  | .lit (.string bytes) => bytes.length + 1
  | .lit _ => 1
  | .nil => 1
  | .ptr d => uptoBulk d + 1
  | .slice elems spare => uptoBulkAll elems + uptoBulkAll spare + 1
  | .agg parts => uptoBulkAll parts + 1
  | .iface _ d => uptoBulk d + 1
  | .map entries => uptoBulkEntries entries + 1
  | .held _ => 1
def uptoBulkAll {H : Type} : List (DataW H) → Nat
  | [] => 0
  | d :: r => uptoBulk d + uptoBulkAll r
def uptoBulkEntries {H : Type} : List (Lit × DataW H) → Nat
  | [] => 0
  | x :: r => uptoBulkEntry x + uptoBulkEntries r
def uptoBulkEntry {H : Type} : Lit × DataW H → Nat
  | (.string bytes, d) => bytes.length + uptoBulk d + 1
  | (_, d) => uptoBulk d + 1
 end
def uptoSmall : (H : Type) → List (DataW H) → Bool := fun _ ds => decide (uptoBulkAll ds ≤ 1048576)
def OpenSpec.upto (s : _root_.Go.ChangeSpec) : _root_.Go.OpenSpec := { _root_.Go.OpenSpec.ofChange s with cond := some uptoSmall }

/-- 'laws.FnUnsafeInitializeShareGroupStateRequest', WHERE WHAT IT READS IS OF BULK AT MOST 1048576: true; the input reads as it did. -/
def fnUnsafeInitializeShareGroupStateRequestUptoRow : OpenClaim := { program := "ytekhigcoccepjaadoor", sum := "900a6e628ad41723a2995ebeda99b152e61c4db03b43f9b2421c31d80a32d49d", func := "pub-mailsack/laws.FnUnsafeInitializeShareGroupStateRequest", spec := "fnUnsafeInitializeShareGroupStateRequest", inPlace := ["internal/reflectlite.ValueOf", "internal/reflectlite.Swapper", "(internal/reflectlite.Value).Len"], unfollowed := true, recurses := true, named := ["encoding/binary.BigEndian", "pub-mailsack/pub/kmsg/inner/kbin.ErrNotEnoughData"], apart := false, laid := [("pub-mailsack/pub/kmsg/inner/kbin.ErrNotEnoughData", laid_pub_mailsack_pub_kmsg_inner_kbin_ErrNotEnoughData)], narrowed := true }
def FnUnsafeInitializeShareGroupStateRequestUptoSaid : Prop := fnUnsafeInitializeShareGroupStateRequestUptoRow.holds Tryd.pinned (OpenSpec.upto fnUnsafeInitializeShareGroupStateRequestSpec)

/-- 'laws.FnUnsafeReadShareGroupStateSummaryResponse', WHERE WHAT IT READS IS OF BULK AT MOST 1048576: true; the input reads as it did. -/
def fnUnsafeReadShareGroupStateSummaryResponseUptoRow : OpenClaim := { program := "ytekhigcoccepjaadoor", sum := "900a6e628ad41723a2995ebeda99b152e61c4db03b43f9b2421c31d80a32d49d", func := "pub-mailsack/laws.FnUnsafeReadShareGroupStateSummaryResponse", spec := "fnUnsafeReadShareGroupStateSummaryResponse", inPlace := ["internal/reflectlite.ValueOf", "internal/reflectlite.Swapper", "(internal/reflectlite.Value).Len"], unfollowed := true, recurses := true, named := ["encoding/binary.BigEndian", "pub-mailsack/pub/kmsg/inner/kbin.ErrNotEnoughData"], apart := false, laid := [("pub-mailsack/pub/kmsg/inner/kbin.ErrNotEnoughData", laid_pub_mailsack_pub_kmsg_inner_kbin_ErrNotEnoughData)], narrowed := true }
def FnUnsafeReadShareGroupStateSummaryResponseUptoSaid : Prop := fnUnsafeReadShareGroupStateSummaryResponseUptoRow.holds Tryd.pinned (OpenSpec.upto fnUnsafeReadShareGroupStateSummaryResponseSpec)

/-- 'laws.FnUnsafeFindCoordinatorResponse', WHERE WHAT IT READS IS OF BULK AT MOST 1048576: true; the input reads as it did. -/
def fnUnsafeFindCoordinatorResponseUptoRow : OpenClaim := { program := "ytekhigcoccepjaadoor", sum := "900a6e628ad41723a2995ebeda99b152e61c4db03b43f9b2421c31d80a32d49d", func := "pub-mailsack/laws.FnUnsafeFindCoordinatorResponse", spec := "fnUnsafeFindCoordinatorResponse", inPlace := ["internal/reflectlite.ValueOf", "internal/reflectlite.Swapper", "(internal/reflectlite.Value).Len"], unfollowed := true, recurses := true, named := ["encoding/binary.BigEndian", "pub-mailsack/pub/kmsg/inner/kbin.ErrNotEnoughData"], apart := false, laid := [("pub-mailsack/pub/kmsg/inner/kbin.ErrNotEnoughData", laid_pub_mailsack_pub_kmsg_inner_kbin_ErrNotEnoughData)], narrowed := true }
def FnUnsafeFindCoordinatorResponseUptoSaid : Prop := fnUnsafeFindCoordinatorResponseUptoRow.holds Tryd.pinned (OpenSpec.upto fnUnsafeFindCoordinatorResponseSpec)

/-- 'laws.FnUnsafeVoteRequest', WHERE WHAT IT READS IS OF BULK AT MOST 1048576: true; the input reads as it did. -/
def fnUnsafeVoteRequestUptoRow : OpenClaim := { program := "ytekhigcoccepjaadoor", sum := "900a6e628ad41723a2995ebeda99b152e61c4db03b43f9b2421c31d80a32d49d", func := "pub-mailsack/laws.FnUnsafeVoteRequest", spec := "fnUnsafeVoteRequest", inPlace := ["internal/reflectlite.ValueOf", "internal/reflectlite.Swapper", "(internal/reflectlite.Value).Len"], unfollowed := true, recurses := true, named := ["encoding/binary.BigEndian", "pub-mailsack/pub/kmsg/inner/kbin.ErrNotEnoughData"], apart := false, laid := [("pub-mailsack/pub/kmsg/inner/kbin.ErrNotEnoughData", laid_pub_mailsack_pub_kmsg_inner_kbin_ErrNotEnoughData)], narrowed := true }
def FnUnsafeVoteRequestUptoSaid : Prop := fnUnsafeVoteRequestUptoRow.holds Tryd.pinned (OpenSpec.upto fnUnsafeVoteRequestSpec)

/-- 'laws.FnUnsafeDescribeClusterResponse', WHERE WHAT IT READS IS OF BULK AT MOST 1048576: true; the input reads as it did. -/
def fnUnsafeDescribeClusterResponseUptoRow : OpenClaim := { program := "ytekhigcoccepjaadoor", sum := "900a6e628ad41723a2995ebeda99b152e61c4db03b43f9b2421c31d80a32d49d", func := "pub-mailsack/laws.FnUnsafeDescribeClusterResponse", spec := "fnUnsafeDescribeClusterResponse", inPlace := ["internal/reflectlite.ValueOf", "internal/reflectlite.Swapper", "(internal/reflectlite.Value).Len"], unfollowed := true, recurses := true, named := ["encoding/binary.BigEndian", "pub-mailsack/pub/kmsg/inner/kbin.ErrNotEnoughData"], apart := false, laid := [("pub-mailsack/pub/kmsg/inner/kbin.ErrNotEnoughData", laid_pub_mailsack_pub_kmsg_inner_kbin_ErrNotEnoughData)], narrowed := true }
def FnUnsafeDescribeClusterResponseUptoSaid : Prop := fnUnsafeDescribeClusterResponseUptoRow.holds Tryd.pinned (OpenSpec.upto fnUnsafeDescribeClusterResponseSpec)

/-- 'laws.FnUnsafeDescribeGroupsResponse', WHERE WHAT IT READS IS OF BULK AT MOST 1048576: true; the input reads as it did. -/
def fnUnsafeDescribeGroupsResponseUptoRow : OpenClaim := { program := "ytekhigcoccepjaadoor", sum := "900a6e628ad41723a2995ebeda99b152e61c4db03b43f9b2421c31d80a32d49d", func := "pub-mailsack/laws.FnUnsafeDescribeGroupsResponse", spec := "fnUnsafeDescribeGroupsResponse", inPlace := ["internal/reflectlite.ValueOf", "internal/reflectlite.Swapper", "(internal/reflectlite.Value).Len"], unfollowed := true, recurses := true, named := ["encoding/binary.BigEndian", "pub-mailsack/pub/kmsg/inner/kbin.ErrNotEnoughData"], apart := false, laid := [("pub-mailsack/pub/kmsg/inner/kbin.ErrNotEnoughData", laid_pub_mailsack_pub_kmsg_inner_kbin_ErrNotEnoughData)], narrowed := true }
def FnUnsafeDescribeGroupsResponseUptoSaid : Prop := fnUnsafeDescribeGroupsResponseUptoRow.holds Tryd.pinned (OpenSpec.upto fnUnsafeDescribeGroupsResponseSpec)

end Rows
end Go.Proofs.YtekhigcoccepjaaDoor
