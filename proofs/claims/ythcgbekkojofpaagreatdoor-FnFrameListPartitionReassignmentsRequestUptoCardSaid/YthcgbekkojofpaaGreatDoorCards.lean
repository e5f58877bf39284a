/-
  DERIVED. GIVEN WITH THE SEED: THE CARDS: each row of YthcgbekkojofpaaGreatDoorRows.lean that lists a variable, with what it lists TIED to the program's text (the seventh form; the later family's looks); each row that meets fmt, with fmt's text TOLD by the authors' own Lean function (tested against real Go, not proved from fmt's source: count such statements apart). THE CARD IS WHAT COUNTS. Prove the row's statement (the work); the ties are given (YthcgbekkojofpaaGreatDoorTie.lean); close each card by the builder's one call (the guide's Derived/Test/ToyasCard.lean, 'card_holds'). Laid BY PROGRAM, IN A SANDBOX (cutbox-door.mjs). By AI agents, Wed Nov 11 2026. No macro, syntax, notation, axiom, sorry.
-/
import Derived.Test.YthcgbekkojofpaaGreatDoorRows
import GoSem.ClaimSeven
namespace Go.Proofs.YthcgbekkojofpaaGreatDoor
namespace Rows

/-- THE TIED CARD OF 'laws.FnFrameDeleteGroupsRequest'. -/
def fnFrameDeleteGroupsRequestCard : Claim7 := { stood := { row := fnFrameDeleteGroupsRequestRow, standIns := [], harness := (true, "277fabeef2d581d189c3947296e6777e7ba440c3401beaa8b5b13b4bec7c09dd"), looks := false }, kinds := [], alts := [], laidByText := true, laidKinds := [.sentinel], laidTests := true, laidLooks := .later }
def FnFrameDeleteGroupsRequestCardSaid : Prop := Claim7.holds Tryz.pinned (.plain (OpenSpec.ofChange fnFrameDeleteGroupsRequestSpec)) fnFrameDeleteGroupsRequestCard

/-- THE TIED CARD OF 'laws.FnFrameListPartitionReassignmentsRequest'. -/
def fnFrameListPartitionReassignmentsRequestCard : Claim7 := { stood := { row := fnFrameListPartitionReassignmentsRequestRow, standIns := [], harness := (true, "277fabeef2d581d189c3947296e6777e7ba440c3401beaa8b5b13b4bec7c09dd"), looks := false }, kinds := [], alts := [], laidByText := true, laidKinds := [.sentinel], laidTests := true, laidLooks := .later }
def FnFrameListPartitionReassignmentsRequestCardSaid : Prop := Claim7.holds Tryz.pinned (.plain (OpenSpec.ofChange fnFrameListPartitionReassignmentsRequestSpec)) fnFrameListPartitionReassignmentsRequestCard

/-- THE TIED CARD OF 'laws.FnFrameShareGroupHeartbeatRequest'. -/
def fnFrameShareGroupHeartbeatRequestCard : Claim7 := { stood := { row := fnFrameShareGroupHeartbeatRequestRow, standIns := [], harness := (true, "277fabeef2d581d189c3947296e6777e7ba440c3401beaa8b5b13b4bec7c09dd"), looks := false }, kinds := [], alts := [], laidByText := true, laidKinds := [.sentinel], laidTests := true, laidLooks := .later }
def FnFrameShareGroupHeartbeatRequestCardSaid : Prop := Claim7.holds Tryz.pinned (.plain (OpenSpec.ofChange fnFrameShareGroupHeartbeatRequestSpec)) fnFrameShareGroupHeartbeatRequestCard

/-- THE TIED CARD OF 'laws.FnFrameDeleteShareGroupStateRequest'. -/
def fnFrameDeleteShareGroupStateRequestCard : Claim7 := { stood := { row := fnFrameDeleteShareGroupStateRequestRow, standIns := [], harness := (true, "277fabeef2d581d189c3947296e6777e7ba440c3401beaa8b5b13b4bec7c09dd"), looks := false }, kinds := [], alts := [], laidByText := true, laidKinds := [.sentinel], laidTests := true, laidLooks := .later }
def FnFrameDeleteShareGroupStateRequestCardSaid : Prop := Claim7.holds Tryz.pinned (.plain (OpenSpec.ofChange fnFrameDeleteShareGroupStateRequestSpec)) fnFrameDeleteShareGroupStateRequestCard

/-- THE SECOND FORM's CARD OF 'laws.FnFrameDeleteGroupsRequest'. -/
def fnFrameDeleteGroupsRequestUptoCard : Claim7 := { stood := { row := fnFrameDeleteGroupsRequestUptoRow, standIns := [], harness := (true, "277fabeef2d581d189c3947296e6777e7ba440c3401beaa8b5b13b4bec7c09dd"), looks := false }, kinds := [], alts := [], laidByText := true, laidKinds := [.sentinel], laidTests := true, laidLooks := .later }
def FnFrameDeleteGroupsRequestUptoCardSaid : Prop := Claim7.holds Tryz.pinned (.plain (OpenSpec.upto fnFrameDeleteGroupsRequestSpec)) fnFrameDeleteGroupsRequestUptoCard

/-- THE SECOND FORM's CARD OF 'laws.FnFrameListPartitionReassignmentsRequest'. -/
def fnFrameListPartitionReassignmentsRequestUptoCard : Claim7 := { stood := { row := fnFrameListPartitionReassignmentsRequestUptoRow, standIns := [], harness := (true, "277fabeef2d581d189c3947296e6777e7ba440c3401beaa8b5b13b4bec7c09dd"), looks := false }, kinds := [], alts := [], laidByText := true, laidKinds := [.sentinel], laidTests := true, laidLooks := .later }
def FnFrameListPartitionReassignmentsRequestUptoCardSaid : Prop := Claim7.holds Tryz.pinned (.plain (OpenSpec.upto fnFrameListPartitionReassignmentsRequestSpec)) fnFrameListPartitionReassignmentsRequestUptoCard

/-- THE SECOND FORM's CARD OF 'laws.FnFrameShareGroupHeartbeatRequest'. -/
def fnFrameShareGroupHeartbeatRequestUptoCard : Claim7 := { stood := { row := fnFrameShareGroupHeartbeatRequestUptoRow, standIns := [], harness := (true, "277fabeef2d581d189c3947296e6777e7ba440c3401beaa8b5b13b4bec7c09dd"), looks := false }, kinds := [], alts := [], laidByText := true, laidKinds := [.sentinel], laidTests := true, laidLooks := .later }
def FnFrameShareGroupHeartbeatRequestUptoCardSaid : Prop := Claim7.holds Tryz.pinned (.plain (OpenSpec.upto fnFrameShareGroupHeartbeatRequestSpec)) fnFrameShareGroupHeartbeatRequestUptoCard

/-- THE SECOND FORM's CARD OF 'laws.FnFrameDeleteShareGroupStateRequest'. -/
def fnFrameDeleteShareGroupStateRequestUptoCard : Claim7 := { stood := { row := fnFrameDeleteShareGroupStateRequestUptoRow, standIns := [], harness := (true, "277fabeef2d581d189c3947296e6777e7ba440c3401beaa8b5b13b4bec7c09dd"), looks := false }, kinds := [], alts := [], laidByText := true, laidKinds := [.sentinel], laidTests := true, laidLooks := .later }
def FnFrameDeleteShareGroupStateRequestUptoCardSaid : Prop := Claim7.holds Tryz.pinned (.plain (OpenSpec.upto fnFrameDeleteShareGroupStateRequestSpec)) fnFrameDeleteShareGroupStateRequestUptoCard
end Rows
end Go.Proofs.YthcgbekkojofpaaGreatDoor
