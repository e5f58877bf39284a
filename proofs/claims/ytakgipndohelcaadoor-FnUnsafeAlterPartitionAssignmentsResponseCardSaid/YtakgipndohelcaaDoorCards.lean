/-
  DERIVED. GIVEN WITH THE SEED: THE CARDS: each row of YtakgipndohelcaaDoorRows.lean that lists a variable, with what it lists TIED to the program's text (the seventh form; the later family's looks); each row that meets fmt, with fmt's text TOLD by the authors' own Lean function (tested against real Go, not proved from fmt's source: count such statements apart). THE CARD IS WHAT COUNTS. Prove the row's statement (the work); the ties are given (YtakgipndohelcaaDoorTie.lean); close each card by the builder's one call (the guide's Derived/Test/ToyasCard.lean, 'card_holds'). Laid BY PROGRAM, IN A SANDBOX (cutbox-door.mjs). By AI agents, Wed Nov 11 2026. No macro, syntax, notation, axiom, sorry.
-/
import Derived.Test.YtakgipndohelcaaDoorRows
import GoSem.ClaimSeven
namespace Go.Proofs.YtakgipndohelcaaDoor
namespace Rows

/-- THE TIED CARD OF 'laws.FnUnsafeAllocateProducerIDsResponse'. -/
def fnUnsafeAllocateProducerIDsResponseCard : Claim7 := { stood := { row := fnUnsafeAllocateProducerIDsResponseRow, standIns := [], harness := (true, "907f8beb44fbe1de1734bd2de2cd61ac733d6859c90e5b52f9f05fee4fc32c43"), looks := false }, kinds := [], alts := [], laidByText := true, laidKinds := [.sentinel], laidTests := true, laidLooks := .later }
def FnUnsafeAllocateProducerIDsResponseCardSaid : Prop := Claim7.holds Tryd.pinned (.plain (OpenSpec.ofChange fnUnsafeAllocateProducerIDsResponseSpec)) fnUnsafeAllocateProducerIDsResponseCard

/-- THE TIED CARD OF 'laws.FnUnsafeUnregisterBrokerResponse'. -/
def fnUnsafeUnregisterBrokerResponseCard : Claim7 := { stood := { row := fnUnsafeUnregisterBrokerResponseRow, standIns := [], harness := (true, "907f8beb44fbe1de1734bd2de2cd61ac733d6859c90e5b52f9f05fee4fc32c43"), looks := false }, kinds := [], alts := [], laidByText := true, laidKinds := [.sentinel], laidTests := true, laidLooks := .later }
def FnUnsafeUnregisterBrokerResponseCardSaid : Prop := Claim7.holds Tryd.pinned (.plain (OpenSpec.ofChange fnUnsafeUnregisterBrokerResponseSpec)) fnUnsafeUnregisterBrokerResponseCard

/-- THE TIED CARD OF 'laws.FnUnsafeReadShareGroupStateRequest'. -/
def fnUnsafeReadShareGroupStateRequestCard : Claim7 := { stood := { row := fnUnsafeReadShareGroupStateRequestRow, standIns := [], harness := (true, "907f8beb44fbe1de1734bd2de2cd61ac733d6859c90e5b52f9f05fee4fc32c43"), looks := false }, kinds := [], alts := [], laidByText := true, laidKinds := [.sentinel], laidTests := true, laidLooks := .later }
def FnUnsafeReadShareGroupStateRequestCardSaid : Prop := Claim7.holds Tryd.pinned (.plain (OpenSpec.ofChange fnUnsafeReadShareGroupStateRequestSpec)) fnUnsafeReadShareGroupStateRequestCard

/-- THE TIED CARD OF 'laws.FnUnsafeAlterPartitionAssignmentsResponse'. -/
def fnUnsafeAlterPartitionAssignmentsResponseCard : Claim7 := { stood := { row := fnUnsafeAlterPartitionAssignmentsResponseRow, standIns := [], harness := (true, "907f8beb44fbe1de1734bd2de2cd61ac733d6859c90e5b52f9f05fee4fc32c43"), looks := false }, kinds := [], alts := [], laidByText := true, laidKinds := [.sentinel], laidTests := true, laidLooks := .later }
def FnUnsafeAlterPartitionAssignmentsResponseCardSaid : Prop := Claim7.holds Tryd.pinned (.plain (OpenSpec.ofChange fnUnsafeAlterPartitionAssignmentsResponseSpec)) fnUnsafeAlterPartitionAssignmentsResponseCard

/-- THE SECOND FORM's CARD OF 'laws.FnUnsafeAllocateProducerIDsResponse'. -/
def fnUnsafeAllocateProducerIDsResponseUptoCard : Claim7 := { stood := { row := fnUnsafeAllocateProducerIDsResponseUptoRow, standIns := [], harness := (true, "907f8beb44fbe1de1734bd2de2cd61ac733d6859c90e5b52f9f05fee4fc32c43"), looks := false }, kinds := [], alts := [], laidByText := true, laidKinds := [.sentinel], laidTests := true, laidLooks := .later }
def FnUnsafeAllocateProducerIDsResponseUptoCardSaid : Prop := Claim7.holds Tryd.pinned (.plain (OpenSpec.upto fnUnsafeAllocateProducerIDsResponseSpec)) fnUnsafeAllocateProducerIDsResponseUptoCard

/-- THE SECOND FORM's CARD OF 'laws.FnUnsafeUnregisterBrokerResponse'. -/
def fnUnsafeUnregisterBrokerResponseUptoCard : Claim7 := { stood := { row := fnUnsafeUnregisterBrokerResponseUptoRow, standIns := [], harness := (true, "907f8beb44fbe1de1734bd2de2cd61ac733d6859c90e5b52f9f05fee4fc32c43"), looks := false }, kinds := [], alts := [], laidByText := true, laidKinds := [.sentinel], laidTests := true, laidLooks := .later }
def FnUnsafeUnregisterBrokerResponseUptoCardSaid : Prop := Claim7.holds Tryd.pinned (.plain (OpenSpec.upto fnUnsafeUnregisterBrokerResponseSpec)) fnUnsafeUnregisterBrokerResponseUptoCard

/-- THE SECOND FORM's CARD OF 'laws.FnUnsafeReadShareGroupStateRequest'. -/
def fnUnsafeReadShareGroupStateRequestUptoCard : Claim7 := { stood := { row := fnUnsafeReadShareGroupStateRequestUptoRow, standIns := [], harness := (true, "907f8beb44fbe1de1734bd2de2cd61ac733d6859c90e5b52f9f05fee4fc32c43"), looks := false }, kinds := [], alts := [], laidByText := true, laidKinds := [.sentinel], laidTests := true, laidLooks := .later }
def FnUnsafeReadShareGroupStateRequestUptoCardSaid : Prop := Claim7.holds Tryd.pinned (.plain (OpenSpec.upto fnUnsafeReadShareGroupStateRequestSpec)) fnUnsafeReadShareGroupStateRequestUptoCard

/-- THE SECOND FORM's CARD OF 'laws.FnUnsafeAlterPartitionAssignmentsResponse'. -/
def fnUnsafeAlterPartitionAssignmentsResponseUptoCard : Claim7 := { stood := { row := fnUnsafeAlterPartitionAssignmentsResponseUptoRow, standIns := [], harness := (true, "907f8beb44fbe1de1734bd2de2cd61ac733d6859c90e5b52f9f05fee4fc32c43"), looks := false }, kinds := [], alts := [], laidByText := true, laidKinds := [.sentinel], laidTests := true, laidLooks := .later }
def FnUnsafeAlterPartitionAssignmentsResponseUptoCardSaid : Prop := Claim7.holds Tryd.pinned (.plain (OpenSpec.upto fnUnsafeAlterPartitionAssignmentsResponseSpec)) fnUnsafeAlterPartitionAssignmentsResponseUptoCard
end Rows
end Go.Proofs.YtakgipndohelcaaDoor
