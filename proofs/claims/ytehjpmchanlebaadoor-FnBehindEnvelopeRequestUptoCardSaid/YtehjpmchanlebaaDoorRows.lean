/-
  NARROWER THAN 'FOR EVERY INPUT', by the rows' own cells (each row's printed sentence says how): FnBehindAddOffsetsToTxnResponse: loops, laid · FnBehindExpireDelegationTokenResponse: loops, laid · FnBehindRenewDelegationTokenRequest: loops, laid · FnBehindEnvelopeRequest: loops, laid.
  DERIVED. THE GIVEN ROWS OF THIS SEAT. 4 by the template 'for every input the law returns true; each argument reads behind the call as it read before'; 0 by the template 'total and deterministic' (their statements: YtehjpmchanlebaaDoorTotals.lean).
  GIVEN WITH THE SEED: the statements are not yours to turn. If you find one false, say at which input.
  Laid BY PROGRAM, IN A SANDBOX (cutbox-rows.mjs): the forced cells as the released guide's own fill.sh prints them over the translation 128afe1b93c0b19d… (all of the seat's roots in one cut). By AI agents, Wed Nov 11 2026. No macro, syntax, notation, axiom, sorry.
-/
import Derived.Test.YtehjpmchanlebaaDoorChecked
import GoSem.Claim
import GoSem.ClaimJoined
import GoSem.ClaimMapViews
import Derived.JoinedTies
import Derived.KernelRfl
namespace Go.Proofs.YtehjpmchanlebaaDoor
/- THE CELL 'sum', in the pinned program and in every row, IS THE sha256 OF THE DUMP (.gsa) THAT YtehjpmchanlebaaDoorProg.lean LOADS. Nothing in Lean hashes anything: it is a label: what it is worth is what the hold of that sum in a sandbox is worth. -/
noncomputable def Tryd.pinned : Pinned := { name := "ytehjpmchanlebaadoor", sum := "128afe1b93c0b19d698686b605228f1ddbb384e6cbbb8edc02ab9f93799e893d", checked := Tryd.checked }
namespace Rows
def none {H : Type} : Left H := { results := [], args := [] }

/- WHAT THE LISTED PACKAGE-LEVEL VARIABLES READ AS WHEN THE CALL BEGINS. Each datum BY PROGRAM (the guide's laid-datum.mjs) off the statement by which the dump's own 'gosem.cut.vars' lays the variable. In a bare row this is a premise. The card (YtehjpmchanlebaaDoorCards.lean) ties it to the program's text. -/
def laid_pub_mailsack_pub_kmsg_inner_kbin_ErrNotEnoughData {H : Type} : DataW H := .iface "*errors.errorString" (.ptr (.agg [.lit (.string [114, 101, 115, 112, 111, 110, 115, 101, 32, 100, 105, 100, 32, 110, 111, 116, 32, 99, 111, 110, 116, 97, 105, 110, 32, 101, 110, 111, 117, 103, 104, 32, 100, 97, 116, 97, 32, 116, 111, 32, 98, 101, 32, 118, 97, 108, 105, 100])]))

/-- 'laws.FnBehindAddOffsetsToTxnResponse': WHATEVER THE INPUT: true; the input reads as it did. -/
def fnBehindAddOffsetsToTxnResponseSpec : ChangeSpec := { name := "fnBehindAddOffsetsToTxnResponse", fn := fun _ => fun
  | [d1, d2, d3] => { results := [.lit (.bool true)], args := [d1, d2, d3] }
  | _ => none }
def fnBehindAddOffsetsToTxnResponseRow : OpenClaim := { program := "ytehjpmchanlebaadoor", sum := "128afe1b93c0b19d698686b605228f1ddbb384e6cbbb8edc02ab9f93799e893d", func := "pub-mailsack/laws.FnBehindAddOffsetsToTxnResponse", spec := "fnBehindAddOffsetsToTxnResponse", inPlace := ["internal/reflectlite.ValueOf", "internal/reflectlite.Swapper", "(internal/reflectlite.Value).Len"], unfollowed := true, recurses := true, named := ["encoding/binary.BigEndian", "pub-mailsack/pub/kmsg/inner/kbin.ErrNotEnoughData"], loops := true, apart := false, laid := [("pub-mailsack/pub/kmsg/inner/kbin.ErrNotEnoughData", laid_pub_mailsack_pub_kmsg_inner_kbin_ErrNotEnoughData)] }
def FnBehindAddOffsetsToTxnResponseSaid : Prop := fnBehindAddOffsetsToTxnResponseRow.holds Tryd.pinned (OpenSpec.ofChange fnBehindAddOffsetsToTxnResponseSpec)

/-- ITS FALSE NEIGHBOUR: 'it returns false'. Refute it at one input. -/
def fnBehindAddOffsetsToTxnResponseWrong : ChangeSpec := { name := "fnBehindAddOffsetsToTxnResponse", fn := fun _ => fun
  | [d1, d2, d3] => { results := [.lit (.bool false)], args := [d1, d2, d3] }
  | _ => none }
def FnBehindAddOffsetsToTxnResponseWrongFalsely : Prop := fnBehindAddOffsetsToTxnResponseRow.holds Tryd.pinned (OpenSpec.ofChange fnBehindAddOffsetsToTxnResponseWrong)

/-- 'laws.FnBehindExpireDelegationTokenResponse': WHATEVER THE INPUT: true; the input reads as it did. -/
def fnBehindExpireDelegationTokenResponseSpec : ChangeSpec := { name := "fnBehindExpireDelegationTokenResponse", fn := fun _ => fun
  | [d1, d2, d3] => { results := [.lit (.bool true)], args := [d1, d2, d3] }
  | _ => none }
def fnBehindExpireDelegationTokenResponseRow : OpenClaim := { program := "ytehjpmchanlebaadoor", sum := "128afe1b93c0b19d698686b605228f1ddbb384e6cbbb8edc02ab9f93799e893d", func := "pub-mailsack/laws.FnBehindExpireDelegationTokenResponse", spec := "fnBehindExpireDelegationTokenResponse", inPlace := ["internal/reflectlite.ValueOf", "internal/reflectlite.Swapper", "(internal/reflectlite.Value).Len"], unfollowed := true, recurses := true, named := ["encoding/binary.BigEndian", "pub-mailsack/pub/kmsg/inner/kbin.ErrNotEnoughData"], loops := true, apart := false, laid := [("pub-mailsack/pub/kmsg/inner/kbin.ErrNotEnoughData", laid_pub_mailsack_pub_kmsg_inner_kbin_ErrNotEnoughData)] }
def FnBehindExpireDelegationTokenResponseSaid : Prop := fnBehindExpireDelegationTokenResponseRow.holds Tryd.pinned (OpenSpec.ofChange fnBehindExpireDelegationTokenResponseSpec)

/-- ITS FALSE NEIGHBOUR: 'it returns false'. Refute it at one input. -/
def fnBehindExpireDelegationTokenResponseWrong : ChangeSpec := { name := "fnBehindExpireDelegationTokenResponse", fn := fun _ => fun
  | [d1, d2, d3] => { results := [.lit (.bool false)], args := [d1, d2, d3] }
  | _ => none }
def FnBehindExpireDelegationTokenResponseWrongFalsely : Prop := fnBehindExpireDelegationTokenResponseRow.holds Tryd.pinned (OpenSpec.ofChange fnBehindExpireDelegationTokenResponseWrong)

/-- 'laws.FnBehindRenewDelegationTokenRequest': WHATEVER THE INPUT: true; the input reads as it did. -/
def fnBehindRenewDelegationTokenRequestSpec : ChangeSpec := { name := "fnBehindRenewDelegationTokenRequest", fn := fun _ => fun
  | [d1, d2, d3] => { results := [.lit (.bool true)], args := [d1, d2, d3] }
  | _ => none }
def fnBehindRenewDelegationTokenRequestRow : OpenClaim := { program := "ytehjpmchanlebaadoor", sum := "128afe1b93c0b19d698686b605228f1ddbb384e6cbbb8edc02ab9f93799e893d", func := "pub-mailsack/laws.FnBehindRenewDelegationTokenRequest", spec := "fnBehindRenewDelegationTokenRequest", inPlace := ["internal/reflectlite.ValueOf", "internal/reflectlite.Swapper", "(internal/reflectlite.Value).Len"], unfollowed := true, recurses := true, named := ["encoding/binary.BigEndian", "pub-mailsack/pub/kmsg/inner/kbin.ErrNotEnoughData"], loops := true, apart := false, laid := [("pub-mailsack/pub/kmsg/inner/kbin.ErrNotEnoughData", laid_pub_mailsack_pub_kmsg_inner_kbin_ErrNotEnoughData)] }
def FnBehindRenewDelegationTokenRequestSaid : Prop := fnBehindRenewDelegationTokenRequestRow.holds Tryd.pinned (OpenSpec.ofChange fnBehindRenewDelegationTokenRequestSpec)

/-- ITS FALSE NEIGHBOUR: 'it returns false'. Refute it at one input. -/
def fnBehindRenewDelegationTokenRequestWrong : ChangeSpec := { name := "fnBehindRenewDelegationTokenRequest", fn := fun _ => fun
  | [d1, d2, d3] => { results := [.lit (.bool false)], args := [d1, d2, d3] }
  | _ => none }
def FnBehindRenewDelegationTokenRequestWrongFalsely : Prop := fnBehindRenewDelegationTokenRequestRow.holds Tryd.pinned (OpenSpec.ofChange fnBehindRenewDelegationTokenRequestWrong)

/-- 'laws.FnBehindEnvelopeRequest': WHATEVER THE INPUT: true; the input reads as it did. -/
def fnBehindEnvelopeRequestSpec : ChangeSpec := { name := "fnBehindEnvelopeRequest", fn := fun _ => fun
  | [d1, d2, d3] => { results := [.lit (.bool true)], args := [d1, d2, d3] }
  | _ => none }
def fnBehindEnvelopeRequestRow : OpenClaim := { program := "ytehjpmchanlebaadoor", sum := "128afe1b93c0b19d698686b605228f1ddbb384e6cbbb8edc02ab9f93799e893d", func := "pub-mailsack/laws.FnBehindEnvelopeRequest", spec := "fnBehindEnvelopeRequest", inPlace := ["internal/reflectlite.ValueOf", "internal/reflectlite.Swapper", "(internal/reflectlite.Value).Len"], unfollowed := true, recurses := true, named := ["encoding/binary.BigEndian", "pub-mailsack/pub/kmsg/inner/kbin.ErrNotEnoughData"], loops := true, apart := false, laid := [("pub-mailsack/pub/kmsg/inner/kbin.ErrNotEnoughData", laid_pub_mailsack_pub_kmsg_inner_kbin_ErrNotEnoughData)] }
def FnBehindEnvelopeRequestSaid : Prop := fnBehindEnvelopeRequestRow.holds Tryd.pinned (OpenSpec.ofChange fnBehindEnvelopeRequestSpec)

/-- ITS FALSE NEIGHBOUR: 'it returns false'. Refute it at one input. -/
def fnBehindEnvelopeRequestWrong : ChangeSpec := { name := "fnBehindEnvelopeRequest", fn := fun _ => fun
  | [d1, d2, d3] => { results := [.lit (.bool false)], args := [d1, d2, d3] }
  | _ => none }
def FnBehindEnvelopeRequestWrongFalsely : Prop := fnBehindEnvelopeRequestRow.holds Tryd.pinned (OpenSpec.ofChange fnBehindEnvelopeRequestWrong)

/- THE SECOND FORM. 'bulk': how many values and letters a reading holds, each counted each time it is reached (what is shared counts as often as it is met; a slice's spare places count too). A statement '..UptoSaid' is the law's where the arguments, and the package variables that the reading takes, are together of bulk at most 1048576: NARROWER than '..Said'. Prove '..Said' where nothing that the law and all that it calls make is longer than what came in: it says more and counts as full. Else prove '..UptoSaid'. A law counts once. -/
mutual
def uptoBulk {H : Type} : DataW H → Nat
  | .lit (.string bytes) => bytes.length + 1
  | .lit _ => 1
  | .nil => 1
  | .ptr d => uptoBulk d + 1
  | .slice elems spare => uptoBulkAll elems + uptoBulkAll spare + 1
  | .agg parts => uptoBulkAll parts + 1
  | .iface _ d => uptoBulk d + 1
  | .map entries => uptoBulkEntries entries + 1
  | .held _ => 1
def uptoBulkAll {H : Type} : List (DataW H) → Nat
  | [] => 0
  | d :: r => uptoBulk d + uptoBulkAll r
def uptoBulkEntries {H : Type} : List (Lit × DataW H) → Nat
  | [] => 0
  | x :: r => uptoBulkEntry x + uptoBulkEntries r
def uptoBulkEntry {H : Type} : Lit × DataW H → Nat
  | (.string bytes, d) => bytes.length + uptoBulk d + 1
  | (_, d) => uptoBulk d + 1
 end
def uptoSmall : (H : Type) → List (DataW H) → Bool := fun _ ds => decide (uptoBulkAll ds ≤ 1048576)
def OpenSpec.upto (s : _root_.Go.ChangeSpec) : _root_.Go.OpenSpec := { _root_.Go.OpenSpec.ofChange s with cond := some uptoSmall }

/-- 'laws.FnBehindAddOffsetsToTxnResponse', WHERE WHAT IT READS IS OF BULK AT MOST 1048576: true; the input reads as it did. -/
def fnBehindAddOffsetsToTxnResponseUptoRow : OpenClaim := { program := "ytehjpmchanlebaadoor", sum := "128afe1b93c0b19d698686b605228f1ddbb384e6cbbb8edc02ab9f93799e893d", func := "pub-mailsack/laws.FnBehindAddOffsetsToTxnResponse", spec := "fnBehindAddOffsetsToTxnResponse", inPlace := ["internal/reflectlite.ValueOf", "internal/reflectlite.Swapper", "(internal/reflectlite.Value).Len"], unfollowed := true, recurses := true, named := ["encoding/binary.BigEndian", "pub-mailsack/pub/kmsg/inner/kbin.ErrNotEnoughData"], loops := true, apart := false, laid := [("pub-mailsack/pub/kmsg/inner/kbin.ErrNotEnoughData", laid_pub_mailsack_pub_kmsg_inner_kbin_ErrNotEnoughData)], narrowed := true }
def FnBehindAddOffsetsToTxnResponseUptoSaid : Prop := fnBehindAddOffsetsToTxnResponseUptoRow.holds Tryd.pinned (OpenSpec.upto fnBehindAddOffsetsToTxnResponseSpec)

/-- 'laws.FnBehindExpireDelegationTokenResponse', WHERE WHAT IT READS IS OF BULK AT MOST 1048576: true; the input reads as it did. -/
def fnBehindExpireDelegationTokenResponseUptoRow : OpenClaim := { program := "ytehjpmchanlebaadoor", sum := "128afe1b93c0b19d698686b605228f1ddbb384e6cbbb8edc02ab9f93799e893d", func := "pub-mailsack/laws.FnBehindExpireDelegationTokenResponse", spec := "fnBehindExpireDelegationTokenResponse", inPlace := ["internal/reflectlite.ValueOf", "internal/reflectlite.Swapper", "(internal/reflectlite.Value).Len"], unfollowed := true, recurses := true, named := ["encoding/binary.BigEndian", "pub-mailsack/pub/kmsg/inner/kbin.ErrNotEnoughData"], loops := true, apart := false, laid := [("pub-mailsack/pub/kmsg/inner/kbin.ErrNotEnoughData", laid_pub_mailsack_pub_kmsg_inner_kbin_ErrNotEnoughData)], narrowed := true }
def FnBehindExpireDelegationTokenResponseUptoSaid : Prop := fnBehindExpireDelegationTokenResponseUptoRow.holds Tryd.pinned (OpenSpec.upto fnBehindExpireDelegationTokenResponseSpec)

/-- 'laws.FnBehindRenewDelegationTokenRequest', WHERE WHAT IT READS IS OF BULK AT MOST 1048576: true; the input reads as it did. -/
def fnBehindRenewDelegationTokenRequestUptoRow : OpenClaim := { program := "ytehjpmchanlebaadoor", sum := "128afe1b93c0b19d698686b605228f1ddbb384e6cbbb8edc02ab9f93799e893d", func := "pub-mailsack/laws.FnBehindRenewDelegationTokenRequest", spec := "fnBehindRenewDelegationTokenRequest", inPlace := ["internal/reflectlite.ValueOf", "internal/reflectlite.Swapper", "(internal/reflectlite.Value).Len"], unfollowed := true, recurses := true, named := ["encoding/binary.BigEndian", "pub-mailsack/pub/kmsg/inner/kbin.ErrNotEnoughData"], loops := true, apart := false, laid := [("pub-mailsack/pub/kmsg/inner/kbin.ErrNotEnoughData", laid_pub_mailsack_pub_kmsg_inner_kbin_ErrNotEnoughData)], narrowed := true }
def FnBehindRenewDelegationTokenRequestUptoSaid : Prop := fnBehindRenewDelegationTokenRequestUptoRow.holds Tryd.pinned (OpenSpec.upto fnBehindRenewDelegationTokenRequestSpec)

/-- 'laws.FnBehindEnvelopeRequest', WHERE WHAT IT READS IS OF BULK AT MOST 1048576: true; the input reads as it did. -/
def fnBehindEnvelopeRequestUptoRow : OpenClaim := { program := "ytehjpmchanlebaadoor", sum := "128afe1b93c0b19d698686b605228f1ddbb384e6cbbb8edc02ab9f93799e893d", func := "pub-mailsack/laws.FnBehindEnvelopeRequest", spec := "fnBehindEnvelopeRequest", inPlace := ["internal/reflectlite.ValueOf", "internal/reflectlite.Swapper", "(internal/reflectlite.Value).Len"], unfollowed := true, recurses := true, named := ["encoding/binary.BigEndian", "pub-mailsack/pub/kmsg/inner/kbin.ErrNotEnoughData"], loops := true, apart := false, laid := [("pub-mailsack/pub/kmsg/inner/kbin.ErrNotEnoughData", laid_pub_mailsack_pub_kmsg_inner_kbin_ErrNotEnoughData)], narrowed := true }
def FnBehindEnvelopeRequestUptoSaid : Prop := fnBehindEnvelopeRequestUptoRow.holds Tryd.pinned (OpenSpec.upto fnBehindEnvelopeRequestSpec)

end Rows
end Go.Proofs.YtehjpmchanlebaaDoor
