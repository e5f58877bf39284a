/-
  DERIVED. GIVEN WITH THE SEED: THE CARDS: each row of YtjeplgghcebfjaaDoorRows.lean that lists a variable, with what it lists TIED to the program's text (the seventh form; the later family's looks); each row that meets fmt, with fmt's text TOLD by the authors' own Lean function (tested against real Go, not proved from fmt's source: count such statements apart). THE CARD IS WHAT COUNTS. Prove the row's statement (the work); the ties are given (YtjeplgghcebfjaaDoorTie.lean); close each card by the builder's one call (the guide's Derived/Test/ToyasCard.lean, 'card_holds'). Laid BY PROGRAM, IN A SANDBOX (cutbox-door.mjs). By AI agents, Wed Nov 11 2026. No macro, syntax, notation, axiom, sorry.
-/
import Derived.Test.YtjeplgghcebfjaaDoorRows
import GoSem.ClaimSeven
namespace Go.Proofs.YtjeplgghcebfjaaDoor
namespace Rows

/-- THE TIED CARD OF 'laws.FnUnsafeOffsetDeleteResponse'. -/
def fnUnsafeOffsetDeleteResponseCard : Claim7 := { stood := { row := fnUnsafeOffsetDeleteResponseRow, standIns := [], harness := (true, "dea4eb24f98e5d6879771c99943198fa09508e4d592d7c32d630dbae5486b2e4"), looks := false }, kinds := [], alts := [], laidByText := true, laidKinds := [.sentinel], laidTests := true, laidLooks := .later }
def FnUnsafeOffsetDeleteResponseCardSaid : Prop := Claim7.holds Tryd.pinned (.plain (OpenSpec.ofChange fnUnsafeOffsetDeleteResponseSpec)) fnUnsafeOffsetDeleteResponseCard

/-- THE TIED CARD OF 'laws.FnUnsafeConnectMemberAssignment'. -/
def fnUnsafeConnectMemberAssignmentCard : Claim7 := { stood := { row := fnUnsafeConnectMemberAssignmentRow, standIns := [], harness := (true, "dea4eb24f98e5d6879771c99943198fa09508e4d592d7c32d630dbae5486b2e4"), looks := false }, kinds := [], alts := [], laidByText := true, laidKinds := [.sentinel], laidTests := true, laidLooks := .later }
def FnUnsafeConnectMemberAssignmentCardSaid : Prop := Claim7.holds Tryd.pinned (.plain (OpenSpec.ofChange fnUnsafeConnectMemberAssignmentSpec)) fnUnsafeConnectMemberAssignmentCard

/-- THE TIED CARD OF 'laws.FnBehindAddOffsetsToTxnResponse'. -/
def fnBehindAddOffsetsToTxnResponseCard : Claim7 := { stood := { row := fnBehindAddOffsetsToTxnResponseRow, standIns := [], harness := (true, "dea4eb24f98e5d6879771c99943198fa09508e4d592d7c32d630dbae5486b2e4"), looks := false }, kinds := [], alts := [], laidByText := true, laidKinds := [.sentinel], laidTests := true, laidLooks := .later }
def FnBehindAddOffsetsToTxnResponseCardSaid : Prop := Claim7.holds Tryd.pinned (.plain (OpenSpec.ofChange fnBehindAddOffsetsToTxnResponseSpec)) fnBehindAddOffsetsToTxnResponseCard

/-- THE SECOND FORM's CARD OF 'laws.FnUnsafeOffsetDeleteResponse'. -/
def fnUnsafeOffsetDeleteResponseUptoCard : Claim7 := { stood := { row := fnUnsafeOffsetDeleteResponseUptoRow, standIns := [], harness := (true, "dea4eb24f98e5d6879771c99943198fa09508e4d592d7c32d630dbae5486b2e4"), looks := false }, kinds := [], alts := [], laidByText := true, laidKinds := [.sentinel], laidTests := true, laidLooks := .later }
def FnUnsafeOffsetDeleteResponseUptoCardSaid : Prop := Claim7.holds Tryd.pinned (.plain (OpenSpec.upto fnUnsafeOffsetDeleteResponseSpec)) fnUnsafeOffsetDeleteResponseUptoCard

/-- THE SECOND FORM's CARD OF 'laws.FnUnsafeConnectMemberAssignment'. -/
def fnUnsafeConnectMemberAssignmentUptoCard : Claim7 := { stood := { row := fnUnsafeConnectMemberAssignmentUptoRow, standIns := [], harness := (true, "dea4eb24f98e5d6879771c99943198fa09508e4d592d7c32d630dbae5486b2e4"), looks := false }, kinds := [], alts := [], laidByText := true, laidKinds := [.sentinel], laidTests := true, laidLooks := .later }
def FnUnsafeConnectMemberAssignmentUptoCardSaid : Prop := Claim7.holds Tryd.pinned (.plain (OpenSpec.upto fnUnsafeConnectMemberAssignmentSpec)) fnUnsafeConnectMemberAssignmentUptoCard

/-- THE SECOND FORM's CARD OF 'laws.FnBehindAddOffsetsToTxnResponse'. -/
def fnBehindAddOffsetsToTxnResponseUptoCard : Claim7 := { stood := { row := fnBehindAddOffsetsToTxnResponseUptoRow, standIns := [], harness := (true, "dea4eb24f98e5d6879771c99943198fa09508e4d592d7c32d630dbae5486b2e4"), looks := false }, kinds := [], alts := [], laidByText := true, laidKinds := [.sentinel], laidTests := true, laidLooks := .later }
def FnBehindAddOffsetsToTxnResponseUptoCardSaid : Prop := Claim7.holds Tryd.pinned (.plain (OpenSpec.upto fnBehindAddOffsetsToTxnResponseSpec)) fnBehindAddOffsetsToTxnResponseUptoCard
end Rows
end Go.Proofs.YtjeplgghcebfjaaDoor
