/-
  DERIVED. GIVEN WITH THE SEED: THE CARDS: each row of YtfapegflnipofaaGreatDoorRows.lean that lists a variable, with what it lists TIED to the program's text (the seventh form; the later family's looks); each row that meets fmt, with fmt's text TOLD by the authors' own Lean function (tested against real Go, not proved from fmt's source: count such statements apart). THE CARD IS WHAT COUNTS. Prove the row's statement (the work); the ties are given (YtfapegflnipofaaGreatDoorTie.lean); close each card by the builder's one call (the guide's Derived/Test/ToyasCard.lean, 'card_holds'). Laid BY PROGRAM, IN A SANDBOX (cutbox-door.mjs). By AI agents, Wed Nov 11 2026. No macro, syntax, notation, axiom, sorry.
-/
import Derived.Test.YtfapegflnipofaaGreatDoorRows
import GoSem.ClaimSeven
namespace Go.Proofs.YtfapegflnipofaaGreatDoor
namespace Rows

/-- THE TIED CARD OF 'laws.FnBehindUpdateFeaturesRequest'. -/
def fnBehindUpdateFeaturesRequestCard : Claim7 := { stood := { row := fnBehindUpdateFeaturesRequestRow, standIns := [], harness := (true, "1708fab3551d7fbc0cddc5df47be3389bb2ebaef433ff8f89790f1f08e3eb670"), looks := false }, kinds := [], alts := [], laidByText := true, laidKinds := [.sentinel], laidTests := true, laidLooks := .later }
def FnBehindUpdateFeaturesRequestCardSaid : Prop := Claim7.holds Tryz.pinned (.plain (OpenSpec.ofChange fnBehindUpdateFeaturesRequestSpec)) fnBehindUpdateFeaturesRequestCard

/-- THE TIED CARD OF 'laws.FnBehindOffsetForLeaderEpochRequest'. -/
def fnBehindOffsetForLeaderEpochRequestCard : Claim7 := { stood := { row := fnBehindOffsetForLeaderEpochRequestRow, standIns := [], harness := (true, "1708fab3551d7fbc0cddc5df47be3389bb2ebaef433ff8f89790f1f08e3eb670"), looks := false }, kinds := [], alts := [], laidByText := true, laidKinds := [.sentinel], laidTests := true, laidLooks := .later }
def FnBehindOffsetForLeaderEpochRequestCardSaid : Prop := Claim7.holds Tryz.pinned (.plain (OpenSpec.ofChange fnBehindOffsetForLeaderEpochRequestSpec)) fnBehindOffsetForLeaderEpochRequestCard

/-- THE TIED CARD OF 'laws.FnBehindOffsetCommitRequest'. -/
def fnBehindOffsetCommitRequestCard : Claim7 := { stood := { row := fnBehindOffsetCommitRequestRow, standIns := [], harness := (true, "1708fab3551d7fbc0cddc5df47be3389bb2ebaef433ff8f89790f1f08e3eb670"), looks := false }, kinds := [], alts := [], laidByText := true, laidKinds := [.sentinel], laidTests := true, laidLooks := .later }
def FnBehindOffsetCommitRequestCardSaid : Prop := Claim7.holds Tryz.pinned (.plain (OpenSpec.ofChange fnBehindOffsetCommitRequestSpec)) fnBehindOffsetCommitRequestCard

/-- THE TIED CARD OF 'laws.FnBehindTxnOffsetCommitRequest'. -/
def fnBehindTxnOffsetCommitRequestCard : Claim7 := { stood := { row := fnBehindTxnOffsetCommitRequestRow, standIns := [], harness := (true, "1708fab3551d7fbc0cddc5df47be3389bb2ebaef433ff8f89790f1f08e3eb670"), looks := false }, kinds := [], alts := [], laidByText := true, laidKinds := [.sentinel], laidTests := true, laidLooks := .later }
def FnBehindTxnOffsetCommitRequestCardSaid : Prop := Claim7.holds Tryz.pinned (.plain (OpenSpec.ofChange fnBehindTxnOffsetCommitRequestSpec)) fnBehindTxnOffsetCommitRequestCard

/-- THE TIED CARD OF 'laws.FnBehindAlterConfigsRequest'. -/
def fnBehindAlterConfigsRequestCard : Claim7 := { stood := { row := fnBehindAlterConfigsRequestRow, standIns := [], harness := (true, "1708fab3551d7fbc0cddc5df47be3389bb2ebaef433ff8f89790f1f08e3eb670"), looks := false }, kinds := [], alts := [], laidByText := true, laidKinds := [.sentinel], laidTests := true, laidLooks := .later }
def FnBehindAlterConfigsRequestCardSaid : Prop := Claim7.holds Tryz.pinned (.plain (OpenSpec.ofChange fnBehindAlterConfigsRequestSpec)) fnBehindAlterConfigsRequestCard

/-- THE TIED CARD OF 'laws.FnBehindIncrementalAlterConfigsResponse'. -/
def fnBehindIncrementalAlterConfigsResponseCard : Claim7 := { stood := { row := fnBehindIncrementalAlterConfigsResponseRow, standIns := [], harness := (true, "1708fab3551d7fbc0cddc5df47be3389bb2ebaef433ff8f89790f1f08e3eb670"), looks := false }, kinds := [], alts := [], laidByText := true, laidKinds := [.sentinel], laidTests := true, laidLooks := .later }
def FnBehindIncrementalAlterConfigsResponseCardSaid : Prop := Claim7.holds Tryz.pinned (.plain (OpenSpec.ofChange fnBehindIncrementalAlterConfigsResponseSpec)) fnBehindIncrementalAlterConfigsResponseCard

/-- THE SECOND FORM's CARD OF 'laws.FnBehindUpdateFeaturesRequest'. -/
def fnBehindUpdateFeaturesRequestUptoCard : Claim7 := { stood := { row := fnBehindUpdateFeaturesRequestUptoRow, standIns := [], harness := (true, "1708fab3551d7fbc0cddc5df47be3389bb2ebaef433ff8f89790f1f08e3eb670"), looks := false }, kinds := [], alts := [], laidByText := true, laidKinds := [.sentinel], laidTests := true, laidLooks := .later }
def FnBehindUpdateFeaturesRequestUptoCardSaid : Prop := Claim7.holds Tryz.pinned (.plain (OpenSpec.upto fnBehindUpdateFeaturesRequestSpec)) fnBehindUpdateFeaturesRequestUptoCard

/-- THE SECOND FORM's CARD OF 'laws.FnBehindOffsetForLeaderEpochRequest'. -/
def fnBehindOffsetForLeaderEpochRequestUptoCard : Claim7 := { stood := { row := fnBehindOffsetForLeaderEpochRequestUptoRow, standIns := [], harness := (true, "1708fab3551d7fbc0cddc5df47be3389bb2ebaef433ff8f89790f1f08e3eb670"), looks := false }, kinds := [], alts := [], laidByText := true, laidKinds := [.sentinel], laidTests := true, laidLooks := .later }
def FnBehindOffsetForLeaderEpochRequestUptoCardSaid : Prop := Claim7.holds Tryz.pinned (.plain (OpenSpec.upto fnBehindOffsetForLeaderEpochRequestSpec)) fnBehindOffsetForLeaderEpochRequestUptoCard

/-- THE SECOND FORM's CARD OF 'laws.FnBehindOffsetCommitRequest'. -/
def fnBehindOffsetCommitRequestUptoCard : Claim7 := { stood := { row := fnBehindOffsetCommitRequestUptoRow, standIns := [], harness := (true, "1708fab3551d7fbc0cddc5df47be3389bb2ebaef433ff8f89790f1f08e3eb670"), looks := false }, kinds := [], alts := [], laidByText := true, laidKinds := [.sentinel], laidTests := true, laidLooks := .later }
def FnBehindOffsetCommitRequestUptoCardSaid : Prop := Claim7.holds Tryz.pinned (.plain (OpenSpec.upto fnBehindOffsetCommitRequestSpec)) fnBehindOffsetCommitRequestUptoCard

/-- THE SECOND FORM's CARD OF 'laws.FnBehindTxnOffsetCommitRequest'. -/
def fnBehindTxnOffsetCommitRequestUptoCard : Claim7 := { stood := { row := fnBehindTxnOffsetCommitRequestUptoRow, standIns := [], harness := (true, "1708fab3551d7fbc0cddc5df47be3389bb2ebaef433ff8f89790f1f08e3eb670"), looks := false }, kinds := [], alts := [], laidByText := true, laidKinds := [.sentinel], laidTests := true, laidLooks := .later }
def FnBehindTxnOffsetCommitRequestUptoCardSaid : Prop := Claim7.holds Tryz.pinned (.plain (OpenSpec.upto fnBehindTxnOffsetCommitRequestSpec)) fnBehindTxnOffsetCommitRequestUptoCard

/-- THE SECOND FORM's CARD OF 'laws.FnBehindAlterConfigsRequest'. -/
def fnBehindAlterConfigsRequestUptoCard : Claim7 := { stood := { row := fnBehindAlterConfigsRequestUptoRow, standIns := [], harness := (true, "1708fab3551d7fbc0cddc5df47be3389bb2ebaef433ff8f89790f1f08e3eb670"), looks := false }, kinds := [], alts := [], laidByText := true, laidKinds := [.sentinel], laidTests := true, laidLooks := .later }
def FnBehindAlterConfigsRequestUptoCardSaid : Prop := Claim7.holds Tryz.pinned (.plain (OpenSpec.upto fnBehindAlterConfigsRequestSpec)) fnBehindAlterConfigsRequestUptoCard

/-- THE SECOND FORM's CARD OF 'laws.FnBehindIncrementalAlterConfigsResponse'. -/
def fnBehindIncrementalAlterConfigsResponseUptoCard : Claim7 := { stood := { row := fnBehindIncrementalAlterConfigsResponseUptoRow, standIns := [], harness := (true, "1708fab3551d7fbc0cddc5df47be3389bb2ebaef433ff8f89790f1f08e3eb670"), looks := false }, kinds := [], alts := [], laidByText := true, laidKinds := [.sentinel], laidTests := true, laidLooks := .later }
def FnBehindIncrementalAlterConfigsResponseUptoCardSaid : Prop := Claim7.holds Tryz.pinned (.plain (OpenSpec.upto fnBehindIncrementalAlterConfigsResponseSpec)) fnBehindIncrementalAlterConfigsResponseUptoCard
end Rows
end Go.Proofs.YtfapegflnipofaaGreatDoor
