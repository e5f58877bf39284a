/-
  DERIVED. GIVEN WITH THE SEED: THE CARDS: each row of YtnfcfigefdbkhaaDoorRows.lean that lists a variable, with what it lists TIED to the program's text (the seventh form; the later family's looks); each row that meets fmt, with fmt's text TOLD by the authors' own Lean function (tested against real Go, not proved from fmt's source: count such statements apart). THE CARD IS WHAT COUNTS. Prove the row's statement (the work); the ties are given (YtnfcfigefdbkhaaDoorTie.lean); close each card by the builder's one call (the guide's Derived/Test/ToyasCard.lean, 'card_holds'). Laid BY PROGRAM, IN A SANDBOX (cutbox-door.mjs). By AI agents, Wed Nov 11 2026. No macro, syntax, notation, axiom, sorry.
-/
import Derived.Test.YtnfcfigefdbkhaaDoorRows
import GoSem.ClaimSeven
namespace Go.Proofs.YtnfcfigefdbkhaaDoor
namespace Rows

/-- THE TIED CARD OF 'laws.FnTellDefaultPrincipalData'. -/
def fnTellDefaultPrincipalDataCard : Claim7 := { stood := { row := fnTellDefaultPrincipalDataRow, standIns := [], harness := (true, "460ce581076af1d7e9f35a79254819828ca7d44a8d13adeb251d0665c033cbe6"), looks := false }, kinds := [], alts := [], laidByText := true, laidKinds := [.sentinel], laidTests := true, laidLooks := .later }
def FnTellDefaultPrincipalDataCardSaid : Prop := Claim7.holds Tryd.pinned (.plain (OpenSpec.ofChange fnTellDefaultPrincipalDataSpec)) fnTellDefaultPrincipalDataCard

/-- THE TIED CARD OF 'laws.FnUnsafeConnectMemberAssignment'. -/
def fnUnsafeConnectMemberAssignmentCard : Claim7 := { stood := { row := fnUnsafeConnectMemberAssignmentRow, standIns := [], harness := (true, "460ce581076af1d7e9f35a79254819828ca7d44a8d13adeb251d0665c033cbe6"), looks := false }, kinds := [], alts := [], laidByText := true, laidKinds := [.sentinel], laidTests := true, laidLooks := .later }
def FnUnsafeConnectMemberAssignmentCardSaid : Prop := Claim7.holds Tryd.pinned (.plain (OpenSpec.ofChange fnUnsafeConnectMemberAssignmentSpec)) fnUnsafeConnectMemberAssignmentCard

/-- THE SECOND FORM's CARD OF 'laws.FnTellDefaultPrincipalData'. -/
def fnTellDefaultPrincipalDataUptoCard : Claim7 := { stood := { row := fnTellDefaultPrincipalDataUptoRow, standIns := [], harness := (true, "460ce581076af1d7e9f35a79254819828ca7d44a8d13adeb251d0665c033cbe6"), looks := false }, kinds := [], alts := [], laidByText := true, laidKinds := [.sentinel], laidTests := true, laidLooks := .later }
def FnTellDefaultPrincipalDataUptoCardSaid : Prop := Claim7.holds Tryd.pinned (.plain (OpenSpec.upto fnTellDefaultPrincipalDataSpec)) fnTellDefaultPrincipalDataUptoCard

/-- THE SECOND FORM's CARD OF 'laws.FnUnsafeConnectMemberAssignment'. -/
def fnUnsafeConnectMemberAssignmentUptoCard : Claim7 := { stood := { row := fnUnsafeConnectMemberAssignmentUptoRow, standIns := [], harness := (true, "460ce581076af1d7e9f35a79254819828ca7d44a8d13adeb251d0665c033cbe6"), looks := false }, kinds := [], alts := [], laidByText := true, laidKinds := [.sentinel], laidTests := true, laidLooks := .later }
def FnUnsafeConnectMemberAssignmentUptoCardSaid : Prop := Claim7.holds Tryd.pinned (.plain (OpenSpec.upto fnUnsafeConnectMemberAssignmentSpec)) fnUnsafeConnectMemberAssignmentUptoCard
end Rows
end Go.Proofs.YtnfcfigefdbkhaaDoor
