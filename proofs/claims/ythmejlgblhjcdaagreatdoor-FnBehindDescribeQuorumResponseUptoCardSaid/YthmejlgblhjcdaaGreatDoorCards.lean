/-
  DERIVED. GIVEN WITH THE SEED: THE CARDS: each row of YthmejlgblhjcdaaGreatDoorRows.lean that lists a variable, with what it lists TIED to the program's text (the seventh form; the later family's looks); each row that meets fmt, with fmt's text TOLD by the authors' own Lean function (tested against real Go, not proved from fmt's source: count such statements apart). THE CARD IS WHAT COUNTS. Prove the row's statement (the work); the ties are given (YthmejlgblhjcdaaGreatDoorTie.lean); close each card by the builder's one call (the guide's Derived/Test/ToyasCard.lean, 'card_holds'). Laid BY PROGRAM, IN A SANDBOX (cutbox-door.mjs). By AI agents, Wed Nov 11 2026. No macro, syntax, notation, axiom, sorry.
-/
import Derived.Test.YthmejlgblhjcdaaGreatDoorRows
import GoSem.ClaimSeven
namespace Go.Proofs.YthmejlgblhjcdaaGreatDoor
namespace Rows

/-- THE TIED CARD OF 'laws.FnBehindDescribeClientQuotasRequest'. -/
def fnBehindDescribeClientQuotasRequestCard : Claim7 := { stood := { row := fnBehindDescribeClientQuotasRequestRow, standIns := [], harness := (true, "6ee77076a64ee6590ab8a6b1ef58986de58d86880010f27a06af0d5b9c126a9b"), looks := false }, kinds := [], alts := [], laidByText := true, laidKinds := [.sentinel], laidTests := true, laidLooks := .later }
def FnBehindDescribeClientQuotasRequestCardSaid : Prop := Claim7.holds Tryz.pinned (.plain (OpenSpec.ofChange fnBehindDescribeClientQuotasRequestSpec)) fnBehindDescribeClientQuotasRequestCard

/-- THE TIED CARD OF 'laws.FnBehindDescribeQuorumResponse'. -/
def fnBehindDescribeQuorumResponseCard : Claim7 := { stood := { row := fnBehindDescribeQuorumResponseRow, standIns := [], harness := (true, "6ee77076a64ee6590ab8a6b1ef58986de58d86880010f27a06af0d5b9c126a9b"), looks := false }, kinds := [], alts := [], laidByText := true, laidKinds := [.sentinel], laidTests := true, laidLooks := .later }
def FnBehindDescribeQuorumResponseCardSaid : Prop := Claim7.holds Tryz.pinned (.plain (OpenSpec.ofChange fnBehindDescribeQuorumResponseSpec)) fnBehindDescribeQuorumResponseCard

/-- THE TIED CARD OF 'laws.FnBehindShareFetchResponse'. -/
def fnBehindShareFetchResponseCard : Claim7 := { stood := { row := fnBehindShareFetchResponseRow, standIns := [], harness := (true, "6ee77076a64ee6590ab8a6b1ef58986de58d86880010f27a06af0d5b9c126a9b"), looks := false }, kinds := [], alts := [], laidByText := true, laidKinds := [.sentinel], laidTests := true, laidLooks := .later }
def FnBehindShareFetchResponseCardSaid : Prop := Claim7.holds Tryz.pinned (.plain (OpenSpec.ofChange fnBehindShareFetchResponseSpec)) fnBehindShareFetchResponseCard

/-- THE TIED CARD OF 'laws.FnTellAlterReplicaLogDirsRequest'. -/
def fnTellAlterReplicaLogDirsRequestCard : Claim7 := { stood := { row := fnTellAlterReplicaLogDirsRequestRow, standIns := [], harness := (true, "6ee77076a64ee6590ab8a6b1ef58986de58d86880010f27a06af0d5b9c126a9b"), looks := false }, kinds := [], alts := [], laidByText := true, laidKinds := [.sentinel], laidTests := true, laidLooks := .later }
def FnTellAlterReplicaLogDirsRequestCardSaid : Prop := Claim7.holds Tryz.pinned (.plain (OpenSpec.ofChange fnTellAlterReplicaLogDirsRequestSpec)) fnTellAlterReplicaLogDirsRequestCard

/-- THE TIED CARD OF 'laws.FnTellWriteShareGroupStateResponse'. -/
def fnTellWriteShareGroupStateResponseCard : Claim7 := { stood := { row := fnTellWriteShareGroupStateResponseRow, standIns := [], harness := (true, "6ee77076a64ee6590ab8a6b1ef58986de58d86880010f27a06af0d5b9c126a9b"), looks := false }, kinds := [], alts := [], laidByText := true, laidKinds := [.sentinel], laidTests := true, laidLooks := .later }
def FnTellWriteShareGroupStateResponseCardSaid : Prop := Claim7.holds Tryz.pinned (.plain (OpenSpec.ofChange fnTellWriteShareGroupStateResponseSpec)) fnTellWriteShareGroupStateResponseCard

/-- THE SECOND FORM's CARD OF 'laws.FnBehindDescribeClientQuotasRequest'. -/
def fnBehindDescribeClientQuotasRequestUptoCard : Claim7 := { stood := { row := fnBehindDescribeClientQuotasRequestUptoRow, standIns := [], harness := (true, "6ee77076a64ee6590ab8a6b1ef58986de58d86880010f27a06af0d5b9c126a9b"), looks := false }, kinds := [], alts := [], laidByText := true, laidKinds := [.sentinel], laidTests := true, laidLooks := .later }
def FnBehindDescribeClientQuotasRequestUptoCardSaid : Prop := Claim7.holds Tryz.pinned (.plain (OpenSpec.upto fnBehindDescribeClientQuotasRequestSpec)) fnBehindDescribeClientQuotasRequestUptoCard

/-- THE SECOND FORM's CARD OF 'laws.FnBehindDescribeQuorumResponse'. -/
def fnBehindDescribeQuorumResponseUptoCard : Claim7 := { stood := { row := fnBehindDescribeQuorumResponseUptoRow, standIns := [], harness := (true, "6ee77076a64ee6590ab8a6b1ef58986de58d86880010f27a06af0d5b9c126a9b"), looks := false }, kinds := [], alts := [], laidByText := true, laidKinds := [.sentinel], laidTests := true, laidLooks := .later }
def FnBehindDescribeQuorumResponseUptoCardSaid : Prop := Claim7.holds Tryz.pinned (.plain (OpenSpec.upto fnBehindDescribeQuorumResponseSpec)) fnBehindDescribeQuorumResponseUptoCard

/-- THE SECOND FORM's CARD OF 'laws.FnBehindShareFetchResponse'. -/
def fnBehindShareFetchResponseUptoCard : Claim7 := { stood := { row := fnBehindShareFetchResponseUptoRow, standIns := [], harness := (true, "6ee77076a64ee6590ab8a6b1ef58986de58d86880010f27a06af0d5b9c126a9b"), looks := false }, kinds := [], alts := [], laidByText := true, laidKinds := [.sentinel], laidTests := true, laidLooks := .later }
def FnBehindShareFetchResponseUptoCardSaid : Prop := Claim7.holds Tryz.pinned (.plain (OpenSpec.upto fnBehindShareFetchResponseSpec)) fnBehindShareFetchResponseUptoCard

/-- THE SECOND FORM's CARD OF 'laws.FnTellAlterReplicaLogDirsRequest'. -/
def fnTellAlterReplicaLogDirsRequestUptoCard : Claim7 := { stood := { row := fnTellAlterReplicaLogDirsRequestUptoRow, standIns := [], harness := (true, "6ee77076a64ee6590ab8a6b1ef58986de58d86880010f27a06af0d5b9c126a9b"), looks := false }, kinds := [], alts := [], laidByText := true, laidKinds := [.sentinel], laidTests := true, laidLooks := .later }
def FnTellAlterReplicaLogDirsRequestUptoCardSaid : Prop := Claim7.holds Tryz.pinned (.plain (OpenSpec.upto fnTellAlterReplicaLogDirsRequestSpec)) fnTellAlterReplicaLogDirsRequestUptoCard

/-- THE SECOND FORM's CARD OF 'laws.FnTellWriteShareGroupStateResponse'. -/
def fnTellWriteShareGroupStateResponseUptoCard : Claim7 := { stood := { row := fnTellWriteShareGroupStateResponseUptoRow, standIns := [], harness := (true, "6ee77076a64ee6590ab8a6b1ef58986de58d86880010f27a06af0d5b9c126a9b"), looks := false }, kinds := [], alts := [], laidByText := true, laidKinds := [.sentinel], laidTests := true, laidLooks := .later }
def FnTellWriteShareGroupStateResponseUptoCardSaid : Prop := Claim7.holds Tryz.pinned (.plain (OpenSpec.upto fnTellWriteShareGroupStateResponseSpec)) fnTellWriteShareGroupStateResponseUptoCard
end Rows
end Go.Proofs.YthmejlgblhjcdaaGreatDoor
