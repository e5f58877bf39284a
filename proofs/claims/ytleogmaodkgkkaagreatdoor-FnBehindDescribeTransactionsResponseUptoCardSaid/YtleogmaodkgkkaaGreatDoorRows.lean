/-
  NARROWER THAN 'FOR EVERY INPUT', by the rows' own cells (each row's printed sentence says how): FnBehindDescribeProducersRequest: loops, laid · FnBehindSASLAuthenticateResponse: loops, laid · FnBehindDeleteRecordsResponse: loops, laid · FnBehindListTransactionsResponse: loops, laid · FnBehindDeleteTopicsResponse: loops, laid · FnBehindDescribeTransactionsResponse: loops, laid.
  DERIVED. THE GIVEN ROWS OF THIS SEAT. 6 by the template 'for every input the law returns true; each argument reads behind the call as it read before'; 0 by the template 'total and deterministic' (their statements: YtleogmaodkgkkaaGreatDoorTotals.lean).
  GIVEN WITH THE SEED: the statements are not yours to turn. If you find one false, say at which input.
  Laid BY PROGRAM, IN A SANDBOX (cutbox-rows.mjs): the forced cells as the released guide's own fill.sh prints them over the translation de069bab6da7dc0c… (all of the seat's roots in one cut). By AI agents, Wed Nov 11 2026. No macro, syntax, notation, axiom, sorry.
-/
import Derived.Test.YtleogmaodkgkkaaGreatDoorChecked
import GoSem.Claim
import GoSem.ClaimJoined
import GoSem.ClaimMapViews
import Derived.JoinedTies
import Derived.KernelRfl
namespace Go.Proofs.YtleogmaodkgkkaaGreatDoor
/- THE CELL 'sum', in the pinned program and in every row, IS THE sha256 OF THE DUMP (.gsa) THAT YtleogmaodkgkkaaGreatDoorProg.lean LOADS. Nothing in Lean hashes anything: it is a label: what it is worth is what the hold of that sum in a sandbox is worth. -/
noncomputable def Tryz.pinned : Pinned := { name := "ytleogmaodkgkkaagreatdoor", sum := "de069bab6da7dc0ce3dcc6079d96a403060fa80ac2d6c0a5c63955f1f5336728", checked := Tryz.checked }
namespace Rows
def none {H : Type} : Left H := { results := [], args := [] }

/- WHAT THE LISTED PACKAGE-LEVEL VARIABLES READ AS WHEN THE CALL BEGINS. Each datum BY PROGRAM (the guide's laid-datum.mjs) off the statement by which the dump's own 'gosem.cut.vars' lays the variable. In a bare row this is a premise. The card (YtleogmaodkgkkaaGreatDoorCards.lean) ties it to the program's text. -/
def laid_pub_mailsack_pub_kmsg_inner_kbin_ErrNotEnoughData {H : Type} : DataW H := .iface "*errors.errorString" (.ptr (.agg [.lit (.string [114, 101, 115, 112, 111, 110, 115, 101, 32, 100, 105, 100, 32, 110, 111, 116, 32, 99, 111, 110, 116, 97, 105, 110, 32, 101, 110, 111, 117, 103, 104, 32, 100, 97, 116, 97, 32, 116, 111, 32, 98, 101, 32, 118, 97, 108, 105, 100])]))

/-- 'laws.FnBehindDescribeProducersRequest': WHATEVER THE INPUT: true; the input reads as it did. -/
def fnBehindDescribeProducersRequestSpec : ChangeSpec := { name := "fnBehindDescribeProducersRequest", fn := fun _ => fun
  | [d1, d2, d3] => { results := [.lit (.bool true)], args := [d1, d2, d3] }
  | _ => none }
def fnBehindDescribeProducersRequestRow : OpenClaim := { program := "ytleogmaodkgkkaagreatdoor", sum := "de069bab6da7dc0ce3dcc6079d96a403060fa80ac2d6c0a5c63955f1f5336728", func := "pub-mailsack/laws.FnBehindDescribeProducersRequest", spec := "fnBehindDescribeProducersRequest", inPlace := ["internal/reflectlite.ValueOf", "internal/reflectlite.Swapper", "(internal/reflectlite.Value).Len"], unfollowed := true, recurses := true, named := ["encoding/binary.BigEndian", "pub-mailsack/pub/kmsg/inner/kbin.ErrNotEnoughData"], loops := true, apart := false, laid := [("pub-mailsack/pub/kmsg/inner/kbin.ErrNotEnoughData", laid_pub_mailsack_pub_kmsg_inner_kbin_ErrNotEnoughData)] }
def FnBehindDescribeProducersRequestSaid : Prop := fnBehindDescribeProducersRequestRow.holds Tryz.pinned (OpenSpec.ofChange fnBehindDescribeProducersRequestSpec)

/-- ITS FALSE NEIGHBOUR: 'it returns false'. Refute it at one input. -/
def fnBehindDescribeProducersRequestWrong : ChangeSpec := { name := "fnBehindDescribeProducersRequest", fn := fun _ => fun
  | [d1, d2, d3] => { results := [.lit (.bool false)], args := [d1, d2, d3] }
  | _ => none }
def FnBehindDescribeProducersRequestWrongFalsely : Prop := fnBehindDescribeProducersRequestRow.holds Tryz.pinned (OpenSpec.ofChange fnBehindDescribeProducersRequestWrong)

/-- 'laws.FnBehindSASLAuthenticateResponse': WHATEVER THE INPUT: true; the input reads as it did. -/
def fnBehindSASLAuthenticateResponseSpec : ChangeSpec := { name := "fnBehindSASLAuthenticateResponse", fn := fun _ => fun
  | [d1, d2, d3] => { results := [.lit (.bool true)], args := [d1, d2, d3] }
  | _ => none }
def fnBehindSASLAuthenticateResponseRow : OpenClaim := { program := "ytleogmaodkgkkaagreatdoor", sum := "de069bab6da7dc0ce3dcc6079d96a403060fa80ac2d6c0a5c63955f1f5336728", func := "pub-mailsack/laws.FnBehindSASLAuthenticateResponse", spec := "fnBehindSASLAuthenticateResponse", inPlace := ["internal/reflectlite.ValueOf", "internal/reflectlite.Swapper", "(internal/reflectlite.Value).Len"], unfollowed := true, recurses := true, named := ["encoding/binary.BigEndian", "pub-mailsack/pub/kmsg/inner/kbin.ErrNotEnoughData"], loops := true, apart := false, laid := [("pub-mailsack/pub/kmsg/inner/kbin.ErrNotEnoughData", laid_pub_mailsack_pub_kmsg_inner_kbin_ErrNotEnoughData)] }
def FnBehindSASLAuthenticateResponseSaid : Prop := fnBehindSASLAuthenticateResponseRow.holds Tryz.pinned (OpenSpec.ofChange fnBehindSASLAuthenticateResponseSpec)

/-- ITS FALSE NEIGHBOUR: 'it returns false'. Refute it at one input. -/
def fnBehindSASLAuthenticateResponseWrong : ChangeSpec := { name := "fnBehindSASLAuthenticateResponse", fn := fun _ => fun
  | [d1, d2, d3] => { results := [.lit (.bool false)], args := [d1, d2, d3] }
  | _ => none }
def FnBehindSASLAuthenticateResponseWrongFalsely : Prop := fnBehindSASLAuthenticateResponseRow.holds Tryz.pinned (OpenSpec.ofChange fnBehindSASLAuthenticateResponseWrong)

/-- 'laws.FnBehindDeleteRecordsResponse': WHATEVER THE INPUT: true; the input reads as it did. -/
def fnBehindDeleteRecordsResponseSpec : ChangeSpec := { name := "fnBehindDeleteRecordsResponse", fn := fun _ => fun
  | [d1, d2, d3] => { results := [.lit (.bool true)], args := [d1, d2, d3] }
  | _ => none }
def fnBehindDeleteRecordsResponseRow : OpenClaim := { program := "ytleogmaodkgkkaagreatdoor", sum := "de069bab6da7dc0ce3dcc6079d96a403060fa80ac2d6c0a5c63955f1f5336728", func := "pub-mailsack/laws.FnBehindDeleteRecordsResponse", spec := "fnBehindDeleteRecordsResponse", inPlace := ["internal/reflectlite.ValueOf", "internal/reflectlite.Swapper", "(internal/reflectlite.Value).Len"], unfollowed := true, recurses := true, named := ["encoding/binary.BigEndian", "pub-mailsack/pub/kmsg/inner/kbin.ErrNotEnoughData"], loops := true, apart := false, laid := [("pub-mailsack/pub/kmsg/inner/kbin.ErrNotEnoughData", laid_pub_mailsack_pub_kmsg_inner_kbin_ErrNotEnoughData)] }
def FnBehindDeleteRecordsResponseSaid : Prop := fnBehindDeleteRecordsResponseRow.holds Tryz.pinned (OpenSpec.ofChange fnBehindDeleteRecordsResponseSpec)

/-- ITS FALSE NEIGHBOUR: 'it returns false'. Refute it at one input. -/
def fnBehindDeleteRecordsResponseWrong : ChangeSpec := { name := "fnBehindDeleteRecordsResponse", fn := fun _ => fun
  | [d1, d2, d3] => { results := [.lit (.bool false)], args := [d1, d2, d3] }
  | _ => none }
def FnBehindDeleteRecordsResponseWrongFalsely : Prop := fnBehindDeleteRecordsResponseRow.holds Tryz.pinned (OpenSpec.ofChange fnBehindDeleteRecordsResponseWrong)

/-- 'laws.FnBehindListTransactionsResponse': WHATEVER THE INPUT: true; the input reads as it did. -/
def fnBehindListTransactionsResponseSpec : ChangeSpec := { name := "fnBehindListTransactionsResponse", fn := fun _ => fun
  | [d1, d2, d3] => { results := [.lit (.bool true)], args := [d1, d2, d3] }
  | _ => none }
def fnBehindListTransactionsResponseRow : OpenClaim := { program := "ytleogmaodkgkkaagreatdoor", sum := "de069bab6da7dc0ce3dcc6079d96a403060fa80ac2d6c0a5c63955f1f5336728", func := "pub-mailsack/laws.FnBehindListTransactionsResponse", spec := "fnBehindListTransactionsResponse", inPlace := ["internal/reflectlite.ValueOf", "internal/reflectlite.Swapper", "(internal/reflectlite.Value).Len"], unfollowed := true, recurses := true, named := ["encoding/binary.BigEndian", "pub-mailsack/pub/kmsg/inner/kbin.ErrNotEnoughData"], loops := true, apart := false, laid := [("pub-mailsack/pub/kmsg/inner/kbin.ErrNotEnoughData", laid_pub_mailsack_pub_kmsg_inner_kbin_ErrNotEnoughData)] }
def FnBehindListTransactionsResponseSaid : Prop := fnBehindListTransactionsResponseRow.holds Tryz.pinned (OpenSpec.ofChange fnBehindListTransactionsResponseSpec)

/-- ITS FALSE NEIGHBOUR: 'it returns false'. Refute it at one input. -/
def fnBehindListTransactionsResponseWrong : ChangeSpec := { name := "fnBehindListTransactionsResponse", fn := fun _ => fun
  | [d1, d2, d3] => { results := [.lit (.bool false)], args := [d1, d2, d3] }
  | _ => none }
def FnBehindListTransactionsResponseWrongFalsely : Prop := fnBehindListTransactionsResponseRow.holds Tryz.pinned (OpenSpec.ofChange fnBehindListTransactionsResponseWrong)

/-- 'laws.FnBehindDeleteTopicsResponse': WHATEVER THE INPUT: true; the input reads as it did. -/
def fnBehindDeleteTopicsResponseSpec : ChangeSpec := { name := "fnBehindDeleteTopicsResponse", fn := fun _ => fun
  | [d1, d2, d3] => { results := [.lit (.bool true)], args := [d1, d2, d3] }
  | _ => none }
def fnBehindDeleteTopicsResponseRow : OpenClaim := { program := "ytleogmaodkgkkaagreatdoor", sum := "de069bab6da7dc0ce3dcc6079d96a403060fa80ac2d6c0a5c63955f1f5336728", func := "pub-mailsack/laws.FnBehindDeleteTopicsResponse", spec := "fnBehindDeleteTopicsResponse", inPlace := ["internal/reflectlite.ValueOf", "internal/reflectlite.Swapper", "(internal/reflectlite.Value).Len"], unfollowed := true, recurses := true, named := ["encoding/binary.BigEndian", "pub-mailsack/pub/kmsg/inner/kbin.ErrNotEnoughData"], loops := true, apart := false, laid := [("pub-mailsack/pub/kmsg/inner/kbin.ErrNotEnoughData", laid_pub_mailsack_pub_kmsg_inner_kbin_ErrNotEnoughData)] }
def FnBehindDeleteTopicsResponseSaid : Prop := fnBehindDeleteTopicsResponseRow.holds Tryz.pinned (OpenSpec.ofChange fnBehindDeleteTopicsResponseSpec)

/-- ITS FALSE NEIGHBOUR: 'it returns false'. Refute it at one input. -/
def fnBehindDeleteTopicsResponseWrong : ChangeSpec := { name := "fnBehindDeleteTopicsResponse", fn := fun _ => fun
  | [d1, d2, d3] => { results := [.lit (.bool false)], args := [d1, d2, d3] }
  | _ => none }
def FnBehindDeleteTopicsResponseWrongFalsely : Prop := fnBehindDeleteTopicsResponseRow.holds Tryz.pinned (OpenSpec.ofChange fnBehindDeleteTopicsResponseWrong)

/-- 'laws.FnBehindDescribeTransactionsResponse': WHATEVER THE INPUT: true; the input reads as it did. -/
def fnBehindDescribeTransactionsResponseSpec : ChangeSpec := { name := "fnBehindDescribeTransactionsResponse", fn := fun _ => fun
  | [d1, d2, d3] => { results := [.lit (.bool true)], args := [d1, d2, d3] }
  | _ => none }
def fnBehindDescribeTransactionsResponseRow : OpenClaim := { program := "ytleogmaodkgkkaagreatdoor", sum := "de069bab6da7dc0ce3dcc6079d96a403060fa80ac2d6c0a5c63955f1f5336728", func := "pub-mailsack/laws.FnBehindDescribeTransactionsResponse", spec := "fnBehindDescribeTransactionsResponse", inPlace := ["internal/reflectlite.ValueOf", "internal/reflectlite.Swapper", "(internal/reflectlite.Value).Len"], unfollowed := true, recurses := true, named := ["encoding/binary.BigEndian", "pub-mailsack/pub/kmsg/inner/kbin.ErrNotEnoughData"], loops := true, apart := false, laid := [("pub-mailsack/pub/kmsg/inner/kbin.ErrNotEnoughData", laid_pub_mailsack_pub_kmsg_inner_kbin_ErrNotEnoughData)] }
def FnBehindDescribeTransactionsResponseSaid : Prop := fnBehindDescribeTransactionsResponseRow.holds Tryz.pinned (OpenSpec.ofChange fnBehindDescribeTransactionsResponseSpec)

/-- ITS FALSE NEIGHBOUR: 'it returns false'. Refute it at one input. -/
def fnBehindDescribeTransactionsResponseWrong : ChangeSpec := { name := "fnBehindDescribeTransactionsResponse", fn := fun _ => fun
  | [d1, d2, d3] => { results := [.lit (.bool false)], args := [d1, d2, d3] }
  | _ => none }
def FnBehindDescribeTransactionsResponseWrongFalsely : Prop := fnBehindDescribeTransactionsResponseRow.holds Tryz.pinned (OpenSpec.ofChange fnBehindDescribeTransactionsResponseWrong)

/- THE SECOND FORM. 'bulk': how many values and letters a reading holds, each counted each time it is reached (what is shared counts as often as it is met; a slice's spare places count too). A statement '..UptoSaid' is the law's where the arguments, and the package variables that the reading takes, are together of bulk at most 1048576: NARROWER than '..Said'. Prove '..Said' where nothing that the law and all that it calls make is longer than what came in: it says more and counts as full. Else prove '..UptoSaid'. A law counts once. -/
mutual
def uptoBulk {H : Type} : DataW H → Nat
  | .lit (.string bytes) => bytes.length + 1
  | .lit _ => 1
  | .nil => 1
  | .ptr d => uptoBulk d + 1
  | .slice elems spare => uptoBulkAll elems + uptoBulkAll spare + 1
  | .agg parts => uptoBulkAll parts + 1
  | .iface _ d => uptoBulk d + 1
  | .map entries => uptoBulkEntries entries + 1
  | .held _ => 1
def uptoBulkAll {H : Type} : List (DataW H) → Nat
  | [] => 0
  | d :: r => uptoBulk d + uptoBulkAll r
def uptoBulkEntries {H : Type} : List (Lit × DataW H) → Nat
  | [] => 0
  | x :: r => uptoBulkEntry x + uptoBulkEntries r
def uptoBulkEntry {H : Type} : Lit × DataW H → Nat
  | (.string bytes, d) => bytes.length + uptoBulk d + 1
  | (_, d) => uptoBulk d + 1
 end
def uptoSmall : (H : Type) → List (DataW H) → Bool := fun _ ds => decide (uptoBulkAll ds ≤ 1048576)
def OpenSpec.upto (s : _root_.Go.ChangeSpec) : _root_.Go.OpenSpec := { _root_.Go.OpenSpec.ofChange s with cond := some uptoSmall }

/-- 'laws.FnBehindDescribeProducersRequest', WHERE WHAT IT READS IS OF BULK AT MOST 1048576: true; the input reads as it did. -/
def fnBehindDescribeProducersRequestUptoRow : OpenClaim := { program := "ytleogmaodkgkkaagreatdoor", sum := "de069bab6da7dc0ce3dcc6079d96a403060fa80ac2d6c0a5c63955f1f5336728", func := "pub-mailsack/laws.FnBehindDescribeProducersRequest", spec := "fnBehindDescribeProducersRequest", inPlace := ["internal/reflectlite.ValueOf", "internal/reflectlite.Swapper", "(internal/reflectlite.Value).Len"], unfollowed := true, recurses := true, named := ["encoding/binary.BigEndian", "pub-mailsack/pub/kmsg/inner/kbin.ErrNotEnoughData"], loops := true, apart := false, laid := [("pub-mailsack/pub/kmsg/inner/kbin.ErrNotEnoughData", laid_pub_mailsack_pub_kmsg_inner_kbin_ErrNotEnoughData)], narrowed := true }
def FnBehindDescribeProducersRequestUptoSaid : Prop := fnBehindDescribeProducersRequestUptoRow.holds Tryz.pinned (OpenSpec.upto fnBehindDescribeProducersRequestSpec)

/-- 'laws.FnBehindSASLAuthenticateResponse', WHERE WHAT IT READS IS OF BULK AT MOST 1048576: true; the input reads as it did. -/
def fnBehindSASLAuthenticateResponseUptoRow : OpenClaim := { program := "ytleogmaodkgkkaagreatdoor", sum := "de069bab6da7dc0ce3dcc6079d96a403060fa80ac2d6c0a5c63955f1f5336728", func := "pub-mailsack/laws.FnBehindSASLAuthenticateResponse", spec := "fnBehindSASLAuthenticateResponse", inPlace := ["internal/reflectlite.ValueOf", "internal/reflectlite.Swapper", "(internal/reflectlite.Value).Len"], unfollowed := true, recurses := true, named := ["encoding/binary.BigEndian", "pub-mailsack/pub/kmsg/inner/kbin.ErrNotEnoughData"], loops := true, apart := false, laid := [("pub-mailsack/pub/kmsg/inner/kbin.ErrNotEnoughData", laid_pub_mailsack_pub_kmsg_inner_kbin_ErrNotEnoughData)], narrowed := true }
def FnBehindSASLAuthenticateResponseUptoSaid : Prop := fnBehindSASLAuthenticateResponseUptoRow.holds Tryz.pinned (OpenSpec.upto fnBehindSASLAuthenticateResponseSpec)

/-- 'laws.FnBehindDeleteRecordsResponse', WHERE WHAT IT READS IS OF BULK AT MOST 1048576: true; the input reads as it did. -/
def fnBehindDeleteRecordsResponseUptoRow : OpenClaim := { program := "ytleogmaodkgkkaagreatdoor", sum := "de069bab6da7dc0ce3dcc6079d96a403060fa80ac2d6c0a5c63955f1f5336728", func := "pub-mailsack/laws.FnBehindDeleteRecordsResponse", spec := "fnBehindDeleteRecordsResponse", inPlace := ["internal/reflectlite.ValueOf", "internal/reflectlite.Swapper", "(internal/reflectlite.Value).Len"], unfollowed := true, recurses := true, named := ["encoding/binary.BigEndian", "pub-mailsack/pub/kmsg/inner/kbin.ErrNotEnoughData"], loops := true, apart := false, laid := [("pub-mailsack/pub/kmsg/inner/kbin.ErrNotEnoughData", laid_pub_mailsack_pub_kmsg_inner_kbin_ErrNotEnoughData)], narrowed := true }
def FnBehindDeleteRecordsResponseUptoSaid : Prop := fnBehindDeleteRecordsResponseUptoRow.holds Tryz.pinned (OpenSpec.upto fnBehindDeleteRecordsResponseSpec)

/-- 'laws.FnBehindListTransactionsResponse', WHERE WHAT IT READS IS OF BULK AT MOST 1048576: true; the input reads as it did. -/
def fnBehindListTransactionsResponseUptoRow : OpenClaim := { program := "ytleogmaodkgkkaagreatdoor", sum := "de069bab6da7dc0ce3dcc6079d96a403060fa80ac2d6c0a5c63955f1f5336728", func := "pub-mailsack/laws.FnBehindListTransactionsResponse", spec := "fnBehindListTransactionsResponse", inPlace := ["internal/reflectlite.ValueOf", "internal/reflectlite.Swapper", "(internal/reflectlite.Value).Len"], unfollowed := true, recurses := true, named := ["encoding/binary.BigEndian", "pub-mailsack/pub/kmsg/inner/kbin.ErrNotEnoughData"], loops := true, apart := false, laid := [("pub-mailsack/pub/kmsg/inner/kbin.ErrNotEnoughData", laid_pub_mailsack_pub_kmsg_inner_kbin_ErrNotEnoughData)], narrowed := true }
def FnBehindListTransactionsResponseUptoSaid : Prop := fnBehindListTransactionsResponseUptoRow.holds Tryz.pinned (OpenSpec.upto fnBehindListTransactionsResponseSpec)

/-- 'laws.FnBehindDeleteTopicsResponse', WHERE WHAT IT READS IS OF BULK AT MOST 1048576: true; the input reads as it did. -/
def fnBehindDeleteTopicsResponseUptoRow : OpenClaim := { program := "ytleogmaodkgkkaagreatdoor", sum := "de069bab6da7dc0ce3dcc6079d96a403060fa80ac2d6c0a5c63955f1f5336728", func := "pub-mailsack/laws.FnBehindDeleteTopicsResponse", spec := "fnBehindDeleteTopicsResponse", inPlace := ["internal/reflectlite.ValueOf", "internal/reflectlite.Swapper", "(internal/reflectlite.Value).Len"], unfollowed := true, recurses := true, named := ["encoding/binary.BigEndian", "pub-mailsack/pub/kmsg/inner/kbin.ErrNotEnoughData"], loops := true, apart := false, laid := [("pub-mailsack/pub/kmsg/inner/kbin.ErrNotEnoughData", laid_pub_mailsack_pub_kmsg_inner_kbin_ErrNotEnoughData)], narrowed := true }
def FnBehindDeleteTopicsResponseUptoSaid : Prop := fnBehindDeleteTopicsResponseUptoRow.holds Tryz.pinned (OpenSpec.upto fnBehindDeleteTopicsResponseSpec)

/-- 'laws.FnBehindDescribeTransactionsResponse', WHERE WHAT IT READS IS OF BULK AT MOST 1048576: true; the input reads as it did. -/
def fnBehindDescribeTransactionsResponseUptoRow : OpenClaim := { program := "ytleogmaodkgkkaagreatdoor", sum := "de069bab6da7dc0ce3dcc6079d96a403060fa80ac2d6c0a5c63955f1f5336728", func := "pub-mailsack/laws.FnBehindDescribeTransactionsResponse", spec := "fnBehindDescribeTransactionsResponse", inPlace := ["internal/reflectlite.ValueOf", "internal/reflectlite.Swapper", "(internal/reflectlite.Value).Len"], unfollowed := true, recurses := true, named := ["encoding/binary.BigEndian", "pub-mailsack/pub/kmsg/inner/kbin.ErrNotEnoughData"], loops := true, apart := false, laid := [("pub-mailsack/pub/kmsg/inner/kbin.ErrNotEnoughData", laid_pub_mailsack_pub_kmsg_inner_kbin_ErrNotEnoughData)], narrowed := true }
def FnBehindDescribeTransactionsResponseUptoSaid : Prop := fnBehindDescribeTransactionsResponseUptoRow.holds Tryz.pinned (OpenSpec.upto fnBehindDescribeTransactionsResponseSpec)

end Rows
end Go.Proofs.YtleogmaodkgkkaaGreatDoor
