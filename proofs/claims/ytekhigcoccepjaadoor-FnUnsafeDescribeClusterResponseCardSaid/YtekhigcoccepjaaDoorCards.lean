/-
  DERIVED. GIVEN WITH THE SEED: THE CARDS: each row of YtekhigcoccepjaaDoorRows.lean that lists a variable, with what it lists TIED to the program's text (the seventh form; the later family's looks); each row that meets fmt, with fmt's text TOLD by the authors' own Lean function (tested against real Go, not proved from fmt's source: count such statements apart). THE CARD IS WHAT COUNTS. Prove the row's statement (the work); the ties are given (YtekhigcoccepjaaDoorTie.lean); close each card by the builder's one call (the guide's Derived/Test/ToyasCard.lean, 'card_holds'). Laid BY PROGRAM, IN A SANDBOX (cutbox-door.mjs). By AI agents, Wed Nov 11 2026. No macro, syntax, notation, axiom, sorry.
-/
import Derived.Test.YtekhigcoccepjaaDoorRows
import GoSem.ClaimSeven
namespace Go.Proofs.YtekhigcoccepjaaDoor
namespace Rows

/-- THE TIED CARD OF 'laws.FnUnsafeInitializeShareGroupStateRequest'. -/
def fnUnsafeInitializeShareGroupStateRequestCard : Claim7 := { stood := { row := fnUnsafeInitializeShareGroupStateRequestRow, standIns := [], harness := (true, "56607f687947fc3b70cecb6b1ef6574921d5a6ad54c0c055a6a38e1c36a6fd12"), looks := false }, kinds := [], alts := [], laidByText := true, laidKinds := [.sentinel], laidTests := true, laidLooks := .later }
def FnUnsafeInitializeShareGroupStateRequestCardSaid : Prop := Claim7.holds Tryd.pinned (.plain (OpenSpec.ofChange fnUnsafeInitializeShareGroupStateRequestSpec)) fnUnsafeInitializeShareGroupStateRequestCard

/-- THE TIED CARD OF 'laws.FnUnsafeReadShareGroupStateSummaryResponse'. -/
def fnUnsafeReadShareGroupStateSummaryResponseCard : Claim7 := { stood := { row := fnUnsafeReadShareGroupStateSummaryResponseRow, standIns := [], harness := (true, "56607f687947fc3b70cecb6b1ef6574921d5a6ad54c0c055a6a38e1c36a6fd12"), looks := false }, kinds := [], alts := [], laidByText := true, laidKinds := [.sentinel], laidTests := true, laidLooks := .later }
def FnUnsafeReadShareGroupStateSummaryResponseCardSaid : Prop := Claim7.holds Tryd.pinned (.plain (OpenSpec.ofChange fnUnsafeReadShareGroupStateSummaryResponseSpec)) fnUnsafeReadShareGroupStateSummaryResponseCard

/-- THE TIED CARD OF 'laws.FnUnsafeFindCoordinatorResponse'. -/
def fnUnsafeFindCoordinatorResponseCard : Claim7 := { stood := { row := fnUnsafeFindCoordinatorResponseRow, standIns := [], harness := (true, "56607f687947fc3b70cecb6b1ef6574921d5a6ad54c0c055a6a38e1c36a6fd12"), looks := false }, kinds := [], alts := [], laidByText := true, laidKinds := [.sentinel], laidTests := true, laidLooks := .later }
def FnUnsafeFindCoordinatorResponseCardSaid : Prop := Claim7.holds Tryd.pinned (.plain (OpenSpec.ofChange fnUnsafeFindCoordinatorResponseSpec)) fnUnsafeFindCoordinatorResponseCard

/-- THE TIED CARD OF 'laws.FnUnsafeVoteRequest'. -/
def fnUnsafeVoteRequestCard : Claim7 := { stood := { row := fnUnsafeVoteRequestRow, standIns := [], harness := (true, "56607f687947fc3b70cecb6b1ef6574921d5a6ad54c0c055a6a38e1c36a6fd12"), looks := false }, kinds := [], alts := [], laidByText := true, laidKinds := [.sentinel], laidTests := true, laidLooks := .later }
def FnUnsafeVoteRequestCardSaid : Prop := Claim7.holds Tryd.pinned (.plain (OpenSpec.ofChange fnUnsafeVoteRequestSpec)) fnUnsafeVoteRequestCard

/-- THE TIED CARD OF 'laws.FnUnsafeDescribeClusterResponse'. -/
def fnUnsafeDescribeClusterResponseCard : Claim7 := { stood := { row := fnUnsafeDescribeClusterResponseRow, standIns := [], harness := (true, "56607f687947fc3b70cecb6b1ef6574921d5a6ad54c0c055a6a38e1c36a6fd12"), looks := false }, kinds := [], alts := [], laidByText := true, laidKinds := [.sentinel], laidTests := true, laidLooks := .later }
def FnUnsafeDescribeClusterResponseCardSaid : Prop := Claim7.holds Tryd.pinned (.plain (OpenSpec.ofChange fnUnsafeDescribeClusterResponseSpec)) fnUnsafeDescribeClusterResponseCard

/-- THE TIED CARD OF 'laws.FnUnsafeDescribeGroupsResponse'. -/
def fnUnsafeDescribeGroupsResponseCard : Claim7 := { stood := { row := fnUnsafeDescribeGroupsResponseRow, standIns := [], harness := (true, "56607f687947fc3b70cecb6b1ef6574921d5a6ad54c0c055a6a38e1c36a6fd12"), looks := false }, kinds := [], alts := [], laidByText := true, laidKinds := [.sentinel], laidTests := true, laidLooks := .later }
def FnUnsafeDescribeGroupsResponseCardSaid : Prop := Claim7.holds Tryd.pinned (.plain (OpenSpec.ofChange fnUnsafeDescribeGroupsResponseSpec)) fnUnsafeDescribeGroupsResponseCard

/-- THE SECOND FORM's CARD OF 'laws.FnUnsafeInitializeShareGroupStateRequest'. -/
def fnUnsafeInitializeShareGroupStateRequestUptoCard : Claim7 := { stood := { row := fnUnsafeInitializeShareGroupStateRequestUptoRow, standIns := [], harness := (true, "56607f687947fc3b70cecb6b1ef6574921d5a6ad54c0c055a6a38e1c36a6fd12"), looks := false }, kinds := [], alts := [], laidByText := true, laidKinds := [.sentinel], laidTests := true, laidLooks := .later }
def FnUnsafeInitializeShareGroupStateRequestUptoCardSaid : Prop := Claim7.holds Tryd.pinned (.plain (OpenSpec.upto fnUnsafeInitializeShareGroupStateRequestSpec)) fnUnsafeInitializeShareGroupStateRequestUptoCard

/-- THE SECOND FORM's CARD OF 'laws.FnUnsafeReadShareGroupStateSummaryResponse'. -/
def fnUnsafeReadShareGroupStateSummaryResponseUptoCard : Claim7 := { stood := { row := fnUnsafeReadShareGroupStateSummaryResponseUptoRow, standIns := [], harness := (true, "56607f687947fc3b70cecb6b1ef6574921d5a6ad54c0c055a6a38e1c36a6fd12"), looks := false }, kinds := [], alts := [], laidByText := true, laidKinds := [.sentinel], laidTests := true, laidLooks := .later }
def FnUnsafeReadShareGroupStateSummaryResponseUptoCardSaid : Prop := Claim7.holds Tryd.pinned (.plain (OpenSpec.upto fnUnsafeReadShareGroupStateSummaryResponseSpec)) fnUnsafeReadShareGroupStateSummaryResponseUptoCard

/-- THE SECOND FORM's CARD OF 'laws.FnUnsafeFindCoordinatorResponse'. -/
def fnUnsafeFindCoordinatorResponseUptoCard : Claim7 := { stood := { row := fnUnsafeFindCoordinatorResponseUptoRow, standIns := [], harness := (true, "56607f687947fc3b70cecb6b1ef6574921d5a6ad54c0c055a6a38e1c36a6fd12"), looks := false }, kinds := [], alts := [], laidByText := true, laidKinds := [.sentinel], laidTests := true, laidLooks := .later }
def FnUnsafeFindCoordinatorResponseUptoCardSaid : Prop := Claim7.holds Tryd.pinned (.plain (OpenSpec.upto fnUnsafeFindCoordinatorResponseSpec)) fnUnsafeFindCoordinatorResponseUptoCard

/-- THE SECOND FORM's CARD OF 'laws.FnUnsafeVoteRequest'. -/
def fnUnsafeVoteRequestUptoCard : Claim7 := { stood := { row := fnUnsafeVoteRequestUptoRow, standIns := [], harness := (true, "56607f687947fc3b70cecb6b1ef6574921d5a6ad54c0c055a6a38e1c36a6fd12"), looks := false }, kinds := [], alts := [], laidByText := true, laidKinds := [.sentinel], laidTests := true, laidLooks := .later }
def FnUnsafeVoteRequestUptoCardSaid : Prop := Claim7.holds Tryd.pinned (.plain (OpenSpec.upto fnUnsafeVoteRequestSpec)) fnUnsafeVoteRequestUptoCard

/-- THE SECOND FORM's CARD OF 'laws.FnUnsafeDescribeClusterResponse'. -/
def fnUnsafeDescribeClusterResponseUptoCard : Claim7 := { stood := { row := fnUnsafeDescribeClusterResponseUptoRow, standIns := [], harness := (true, "56607f687947fc3b70cecb6b1ef6574921d5a6ad54c0c055a6a38e1c36a6fd12"), looks := false }, kinds := [], alts := [], laidByText := true, laidKinds := [.sentinel], laidTests := true, laidLooks := .later }
def FnUnsafeDescribeClusterResponseUptoCardSaid : Prop := Claim7.holds Tryd.pinned (.plain (OpenSpec.upto fnUnsafeDescribeClusterResponseSpec)) fnUnsafeDescribeClusterResponseUptoCard

/-- THE SECOND FORM's CARD OF 'laws.FnUnsafeDescribeGroupsResponse'. -/
def fnUnsafeDescribeGroupsResponseUptoCard : Claim7 := { stood := { row := fnUnsafeDescribeGroupsResponseUptoRow, standIns := [], harness := (true, "56607f687947fc3b70cecb6b1ef6574921d5a6ad54c0c055a6a38e1c36a6fd12"), looks := false }, kinds := [], alts := [], laidByText := true, laidKinds := [.sentinel], laidTests := true, laidLooks := .later }
def FnUnsafeDescribeGroupsResponseUptoCardSaid : Prop := Claim7.holds Tryd.pinned (.plain (OpenSpec.upto fnUnsafeDescribeGroupsResponseSpec)) fnUnsafeDescribeGroupsResponseUptoCard
end Rows
end Go.Proofs.YtekhigcoccepjaaDoor
