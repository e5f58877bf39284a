/-
  NARROWER THAN 'FOR EVERY INPUT', by the rows' own cells (each row's printed sentence says how): FnMakeControlledShutdownRequest: loops · FnMakeListConfigResourcesResponse: loops · FnMakeLeaveGroupRequest: loops · FnMakeCreateDelegationTokenRequest: loops · FnMakeOffsetCommitKey: loops.
  DERIVED. THE GIVEN ROWS OF THIS SEAT. 5 by the template 'for every input the law returns true; each argument reads behind the call as it read before'; 0 by the template 'total and deterministic' (their statements: YtdigpekcblpedaaTotals.lean).
  GIVEN WITH THE SEED: the statements are not yours to turn. If you find one false, say at which input.
  Laid BY PROGRAM, IN A SANDBOX (cutbox-rows.mjs): the forced cells as the released guide's own fill.sh prints them over the translation 1035bc55461e3d5d… (all of the seat's roots in one cut). By AI agents, Wed Nov 11 2026. No macro, syntax, notation, axiom, sorry.
-/
import Derived.Test.YtdigpekcblpedaaChecked
import GoSem.Claim
import GoSem.ClaimJoined
import GoSem.ClaimMapViews
import Derived.JoinedTies
import Derived.KernelRfl
namespace Go.Proofs.Ytdigpekcblpedaa
/- THE CELL 'sum', in the pinned program and in every row, IS THE sha256 OF THE DUMP (.gsa) THAT YtdigpekcblpedaaProg.lean LOADS. Nothing in Lean hashes anything: it is a label: what it is worth is what the hold of that sum in a sandbox is worth. -/
noncomputable def Try.pinned : Pinned := { name := "ytdigpekcblpedaa", sum := "1035bc55461e3d5d4b04767619c006a339f86019687e206f0a5d462b69995f02", checked := Try.checked }
namespace Rows
def none {H : Type} : Left H := { results := [], args := [] }

/-- 'laws.FnMakeControlledShutdownRequest': WHATEVER THE INPUT: true; the input reads as it did. -/
def fnMakeControlledShutdownRequestSpec : ChangeSpec := { name := "fnMakeControlledShutdownRequest", fn := fun _ => fun
  | [d1, d2] => { results := [.lit (.bool true)], args := [d1, d2] }
  | _ => none }
def fnMakeControlledShutdownRequestRow : OpenClaim := { program := "ytdigpekcblpedaa", sum := "1035bc55461e3d5d4b04767619c006a339f86019687e206f0a5d462b69995f02", func := "pub-mailsack/laws.FnMakeControlledShutdownRequest", spec := "fnMakeControlledShutdownRequest", inPlace := ["internal/reflectlite.ValueOf", "internal/reflectlite.Swapper", "(internal/reflectlite.Value).Len"], unfollowed := true, recurses := true, loops := true, apart := false }
def FnMakeControlledShutdownRequestSaid : Prop := fnMakeControlledShutdownRequestRow.holds Try.pinned (OpenSpec.ofChange fnMakeControlledShutdownRequestSpec)

/-- ITS FALSE NEIGHBOUR: 'it returns false'. Refute it at one input. -/
def fnMakeControlledShutdownRequestWrong : ChangeSpec := { name := "fnMakeControlledShutdownRequest", fn := fun _ => fun
  | [d1, d2] => { results := [.lit (.bool false)], args := [d1, d2] }
  | _ => none }
def FnMakeControlledShutdownRequestWrongFalsely : Prop := fnMakeControlledShutdownRequestRow.holds Try.pinned (OpenSpec.ofChange fnMakeControlledShutdownRequestWrong)

/-- 'laws.FnMakeListConfigResourcesResponse': WHATEVER THE INPUT: true; the input reads as it did. -/
def fnMakeListConfigResourcesResponseSpec : ChangeSpec := { name := "fnMakeListConfigResourcesResponse", fn := fun _ => fun
  | [d1, d2] => { results := [.lit (.bool true)], args := [d1, d2] }
  | _ => none }
def fnMakeListConfigResourcesResponseRow : OpenClaim := { program := "ytdigpekcblpedaa", sum := "1035bc55461e3d5d4b04767619c006a339f86019687e206f0a5d462b69995f02", func := "pub-mailsack/laws.FnMakeListConfigResourcesResponse", spec := "fnMakeListConfigResourcesResponse", inPlace := ["internal/reflectlite.ValueOf", "internal/reflectlite.Swapper", "(internal/reflectlite.Value).Len"], unfollowed := true, recurses := true, loops := true, apart := false }
def FnMakeListConfigResourcesResponseSaid : Prop := fnMakeListConfigResourcesResponseRow.holds Try.pinned (OpenSpec.ofChange fnMakeListConfigResourcesResponseSpec)

/-- ITS FALSE NEIGHBOUR: 'it returns false'. Refute it at one input. -/
def fnMakeListConfigResourcesResponseWrong : ChangeSpec := { name := "fnMakeListConfigResourcesResponse", fn := fun _ => fun
  | [d1, d2] => { results := [.lit (.bool false)], args := [d1, d2] }
  | _ => none }
def FnMakeListConfigResourcesResponseWrongFalsely : Prop := fnMakeListConfigResourcesResponseRow.holds Try.pinned (OpenSpec.ofChange fnMakeListConfigResourcesResponseWrong)

/-- 'laws.FnMakeLeaveGroupRequest': WHATEVER THE INPUT: true; the input reads as it did. -/
def fnMakeLeaveGroupRequestSpec : ChangeSpec := { name := "fnMakeLeaveGroupRequest", fn := fun _ => fun
  | [d1, d2] => { results := [.lit (.bool true)], args := [d1, d2] }
  | _ => none }
def fnMakeLeaveGroupRequestRow : OpenClaim := { program := "ytdigpekcblpedaa", sum := "1035bc55461e3d5d4b04767619c006a339f86019687e206f0a5d462b69995f02", func := "pub-mailsack/laws.FnMakeLeaveGroupRequest", spec := "fnMakeLeaveGroupRequest", inPlace := ["internal/reflectlite.ValueOf", "internal/reflectlite.Swapper", "(internal/reflectlite.Value).Len"], unfollowed := true, recurses := true, loops := true, apart := false }
def FnMakeLeaveGroupRequestSaid : Prop := fnMakeLeaveGroupRequestRow.holds Try.pinned (OpenSpec.ofChange fnMakeLeaveGroupRequestSpec)

/-- ITS FALSE NEIGHBOUR: 'it returns false'. Refute it at one input. -/
def fnMakeLeaveGroupRequestWrong : ChangeSpec := { name := "fnMakeLeaveGroupRequest", fn := fun _ => fun
  | [d1, d2] => { results := [.lit (.bool false)], args := [d1, d2] }
  | _ => none }
def FnMakeLeaveGroupRequestWrongFalsely : Prop := fnMakeLeaveGroupRequestRow.holds Try.pinned (OpenSpec.ofChange fnMakeLeaveGroupRequestWrong)

/-- 'laws.FnMakeCreateDelegationTokenRequest': WHATEVER THE INPUT: true; the input reads as it did. -/
def fnMakeCreateDelegationTokenRequestSpec : ChangeSpec := { name := "fnMakeCreateDelegationTokenRequest", fn := fun _ => fun
  | [d1, d2] => { results := [.lit (.bool true)], args := [d1, d2] }
  | _ => none }
def fnMakeCreateDelegationTokenRequestRow : OpenClaim := { program := "ytdigpekcblpedaa", sum := "1035bc55461e3d5d4b04767619c006a339f86019687e206f0a5d462b69995f02", func := "pub-mailsack/laws.FnMakeCreateDelegationTokenRequest", spec := "fnMakeCreateDelegationTokenRequest", inPlace := ["internal/reflectlite.ValueOf", "internal/reflectlite.Swapper", "(internal/reflectlite.Value).Len"], unfollowed := true, recurses := true, loops := true, apart := false }
def FnMakeCreateDelegationTokenRequestSaid : Prop := fnMakeCreateDelegationTokenRequestRow.holds Try.pinned (OpenSpec.ofChange fnMakeCreateDelegationTokenRequestSpec)

/-- ITS FALSE NEIGHBOUR: 'it returns false'. Refute it at one input. -/
def fnMakeCreateDelegationTokenRequestWrong : ChangeSpec := { name := "fnMakeCreateDelegationTokenRequest", fn := fun _ => fun
  | [d1, d2] => { results := [.lit (.bool false)], args := [d1, d2] }
  | _ => none }
def FnMakeCreateDelegationTokenRequestWrongFalsely : Prop := fnMakeCreateDelegationTokenRequestRow.holds Try.pinned (OpenSpec.ofChange fnMakeCreateDelegationTokenRequestWrong)

/-- 'laws.FnMakeOffsetCommitKey': WHATEVER THE INPUT: true; the input reads as it did. -/
def fnMakeOffsetCommitKeySpec : ChangeSpec := { name := "fnMakeOffsetCommitKey", fn := fun _ => fun
  | [d1, d2] => { results := [.lit (.bool true)], args := [d1, d2] }
  | _ => none }
def fnMakeOffsetCommitKeyRow : OpenClaim := { program := "ytdigpekcblpedaa", sum := "1035bc55461e3d5d4b04767619c006a339f86019687e206f0a5d462b69995f02", func := "pub-mailsack/laws.FnMakeOffsetCommitKey", spec := "fnMakeOffsetCommitKey", recurses := true, loops := true, apart := false }
def FnMakeOffsetCommitKeySaid : Prop := fnMakeOffsetCommitKeyRow.holds Try.pinned (OpenSpec.ofChange fnMakeOffsetCommitKeySpec)

/-- ITS FALSE NEIGHBOUR: 'it returns false'. Refute it at one input. -/
def fnMakeOffsetCommitKeyWrong : ChangeSpec := { name := "fnMakeOffsetCommitKey", fn := fun _ => fun
  | [d1, d2] => { results := [.lit (.bool false)], args := [d1, d2] }
  | _ => none }
def FnMakeOffsetCommitKeyWrongFalsely : Prop := fnMakeOffsetCommitKeyRow.holds Try.pinned (OpenSpec.ofChange fnMakeOffsetCommitKeyWrong)

/- THE SECOND FORM. 'bulk': how many values and letters a reading holds, each counted each time it is reached (what is shared counts as often as it is met; a slice's spare places count too). A statement '..UptoSaid' is the law's where the arguments, and the package variables that the reading takes, are together of bulk at most 1048576: NARROWER than '..Said'. Prove '..Said' where nothing that the law and all that it calls make is longer than what came in: it says more and counts as full. Else prove '..UptoSaid'. A law counts once. -/
mutual
def uptoBulk {H : Type} : DataW H → Nat
  | .lit (.string bytes) => bytes.length + 1
  | .lit _ => 1
  | .nil => 1
  | .ptr d => uptoBulk d + 1
  | .slice elems spare => uptoBulkAll elems + uptoBulkAll spare + 1
  | .agg parts => uptoBulkAll parts + 1
  | .iface _ d => uptoBulk d + 1
  | .map entries => uptoBulkEntries entries + 1
  | .held _ => 1
def uptoBulkAll {H : Type} : List (DataW H) → Nat
  | [] => 0
  | d :: r => uptoBulk d + uptoBulkAll r
def uptoBulkEntries {H : Type} : List (Lit × DataW H) → Nat
  | [] => 0
  | x :: r => uptoBulkEntry x + uptoBulkEntries r
def uptoBulkEntry {H : Type} : Lit × DataW H → Nat
  | (.string bytes, d) => bytes.length + uptoBulk d + 1
  | (_, d) => uptoBulk d + 1
 end
def uptoSmall : (H : Type) → List (DataW H) → Bool := fun _ ds => decide (uptoBulkAll ds ≤ 1048576)
def OpenSpec.upto (s : _root_.Go.ChangeSpec) : _root_.Go.OpenSpec := { _root_.Go.OpenSpec.ofChange s with cond := some uptoSmall }

/-- 'laws.FnMakeControlledShutdownRequest', WHERE WHAT IT READS IS OF BULK AT MOST 1048576: true; the input reads as it did. -/
def fnMakeControlledShutdownRequestUptoRow : OpenClaim := { program := "ytdigpekcblpedaa", sum := "1035bc55461e3d5d4b04767619c006a339f86019687e206f0a5d462b69995f02", func := "pub-mailsack/laws.FnMakeControlledShutdownRequest", spec := "fnMakeControlledShutdownRequest", inPlace := ["internal/reflectlite.ValueOf", "internal/reflectlite.Swapper", "(internal/reflectlite.Value).Len"], unfollowed := true, recurses := true, loops := true, apart := false, narrowed := true }
def FnMakeControlledShutdownRequestUptoSaid : Prop := fnMakeControlledShutdownRequestUptoRow.holds Try.pinned (OpenSpec.upto fnMakeControlledShutdownRequestSpec)

/-- 'laws.FnMakeListConfigResourcesResponse', WHERE WHAT IT READS IS OF BULK AT MOST 1048576: true; the input reads as it did. -/
def fnMakeListConfigResourcesResponseUptoRow : OpenClaim := { program := "ytdigpekcblpedaa", sum := "1035bc55461e3d5d4b04767619c006a339f86019687e206f0a5d462b69995f02", func := "pub-mailsack/laws.FnMakeListConfigResourcesResponse", spec := "fnMakeListConfigResourcesResponse", inPlace := ["internal/reflectlite.ValueOf", "internal/reflectlite.Swapper", "(internal/reflectlite.Value).Len"], unfollowed := true, recurses := true, loops := true, apart := false, narrowed := true }
def FnMakeListConfigResourcesResponseUptoSaid : Prop := fnMakeListConfigResourcesResponseUptoRow.holds Try.pinned (OpenSpec.upto fnMakeListConfigResourcesResponseSpec)

/-- 'laws.FnMakeLeaveGroupRequest', WHERE WHAT IT READS IS OF BULK AT MOST 1048576: true; the input reads as it did. -/
def fnMakeLeaveGroupRequestUptoRow : OpenClaim := { program := "ytdigpekcblpedaa", sum := "1035bc55461e3d5d4b04767619c006a339f86019687e206f0a5d462b69995f02", func := "pub-mailsack/laws.FnMakeLeaveGroupRequest", spec := "fnMakeLeaveGroupRequest", inPlace := ["internal/reflectlite.ValueOf", "internal/reflectlite.Swapper", "(internal/reflectlite.Value).Len"], unfollowed := true, recurses := true, loops := true, apart := false, narrowed := true }
def FnMakeLeaveGroupRequestUptoSaid : Prop := fnMakeLeaveGroupRequestUptoRow.holds Try.pinned (OpenSpec.upto fnMakeLeaveGroupRequestSpec)

/-- 'laws.FnMakeCreateDelegationTokenRequest', WHERE WHAT IT READS IS OF BULK AT MOST 1048576: true; the input reads as it did. -/
def fnMakeCreateDelegationTokenRequestUptoRow : OpenClaim := { program := "ytdigpekcblpedaa", sum := "1035bc55461e3d5d4b04767619c006a339f86019687e206f0a5d462b69995f02", func := "pub-mailsack/laws.FnMakeCreateDelegationTokenRequest", spec := "fnMakeCreateDelegationTokenRequest", inPlace := ["internal/reflectlite.ValueOf", "internal/reflectlite.Swapper", "(internal/reflectlite.Value).Len"], unfollowed := true, recurses := true, loops := true, apart := false, narrowed := true }
def FnMakeCreateDelegationTokenRequestUptoSaid : Prop := fnMakeCreateDelegationTokenRequestUptoRow.holds Try.pinned (OpenSpec.upto fnMakeCreateDelegationTokenRequestSpec)

/-- 'laws.FnMakeOffsetCommitKey', WHERE WHAT IT READS IS OF BULK AT MOST 1048576: true; the input reads as it did. -/
def fnMakeOffsetCommitKeyUptoRow : OpenClaim := { program := "ytdigpekcblpedaa", sum := "1035bc55461e3d5d4b04767619c006a339f86019687e206f0a5d462b69995f02", func := "pub-mailsack/laws.FnMakeOffsetCommitKey", spec := "fnMakeOffsetCommitKey", recurses := true, loops := true, apart := false, narrowed := true }
def FnMakeOffsetCommitKeyUptoSaid : Prop := fnMakeOffsetCommitKeyUptoRow.holds Try.pinned (OpenSpec.upto fnMakeOffsetCommitKeySpec)

end Rows
end Go.Proofs.Ytdigpekcblpedaa
