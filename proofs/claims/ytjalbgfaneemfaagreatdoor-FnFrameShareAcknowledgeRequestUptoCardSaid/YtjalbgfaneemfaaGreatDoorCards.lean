/-
  DERIVED. GIVEN WITH THE SEED: THE CARDS: each row of YtjalbgfaneemfaaGreatDoorRows.lean that lists a variable, with what it lists TIED to the program's text (the seventh form; the later family's looks); each row that meets fmt, with fmt's text TOLD by the authors' own Lean function (tested against real Go, not proved from fmt's source: count such statements apart). THE CARD IS WHAT COUNTS. Prove the row's statement (the work); the ties are given (YtjalbgfaneemfaaGreatDoorTie.lean); close each card by the builder's one call (the guide's Derived/Test/ToyasCard.lean, 'card_holds'). Laid BY PROGRAM, IN A SANDBOX (cutbox-door.mjs). By AI agents, Wed Nov 11 2026. No macro, syntax, notation, axiom, sorry.
-/
import Derived.Test.YtjalbgfaneemfaaGreatDoorRows
import GoSem.ClaimSeven
namespace Go.Proofs.YtjalbgfaneemfaaGreatDoor
namespace Rows

/-- THE TIED CARD OF 'laws.FnFrameControllerRegistrationRequest'. -/
def fnFrameControllerRegistrationRequestCard : Claim7 := { stood := { row := fnFrameControllerRegistrationRequestRow, standIns := [], harness := (true, "a9e24bf47342d4dc99da88f5bc65ebb52ab61bc3a1a8aa7f0b0e7d9dc6d3e9db"), looks := false }, kinds := [], alts := [], laidByText := true, laidKinds := [.sentinel], laidTests := true, laidLooks := .later }
def FnFrameControllerRegistrationRequestCardSaid : Prop := Claim7.holds Tryz.pinned (.plain (OpenSpec.ofChange fnFrameControllerRegistrationRequestSpec)) fnFrameControllerRegistrationRequestCard

/-- THE TIED CARD OF 'laws.FnFrameShareAcknowledgeRequest'. -/
def fnFrameShareAcknowledgeRequestCard : Claim7 := { stood := { row := fnFrameShareAcknowledgeRequestRow, standIns := [], harness := (true, "a9e24bf47342d4dc99da88f5bc65ebb52ab61bc3a1a8aa7f0b0e7d9dc6d3e9db"), looks := false }, kinds := [], alts := [], laidByText := true, laidKinds := [.sentinel], laidTests := true, laidLooks := .later }
def FnFrameShareAcknowledgeRequestCardSaid : Prop := Claim7.holds Tryz.pinned (.plain (OpenSpec.ofChange fnFrameShareAcknowledgeRequestSpec)) fnFrameShareAcknowledgeRequestCard

/-- THE TIED CARD OF 'laws.FnFrameAssignReplicasToDirsRequest'. -/
def fnFrameAssignReplicasToDirsRequestCard : Claim7 := { stood := { row := fnFrameAssignReplicasToDirsRequestRow, standIns := [], harness := (true, "a9e24bf47342d4dc99da88f5bc65ebb52ab61bc3a1a8aa7f0b0e7d9dc6d3e9db"), looks := false }, kinds := [], alts := [], laidByText := true, laidKinds := [.sentinel], laidTests := true, laidLooks := .later }
def FnFrameAssignReplicasToDirsRequestCardSaid : Prop := Claim7.holds Tryz.pinned (.plain (OpenSpec.ofChange fnFrameAssignReplicasToDirsRequestSpec)) fnFrameAssignReplicasToDirsRequestCard

/-- THE TIED CARD OF 'laws.FnFrameCreatePartitionsRequest'. -/
def fnFrameCreatePartitionsRequestCard : Claim7 := { stood := { row := fnFrameCreatePartitionsRequestRow, standIns := [], harness := (true, "a9e24bf47342d4dc99da88f5bc65ebb52ab61bc3a1a8aa7f0b0e7d9dc6d3e9db"), looks := false }, kinds := [], alts := [], laidByText := true, laidKinds := [.sentinel], laidTests := true, laidLooks := .later }
def FnFrameCreatePartitionsRequestCardSaid : Prop := Claim7.holds Tryz.pinned (.plain (OpenSpec.ofChange fnFrameCreatePartitionsRequestSpec)) fnFrameCreatePartitionsRequestCard

/-- THE SECOND FORM's CARD OF 'laws.FnFrameControllerRegistrationRequest'. -/
def fnFrameControllerRegistrationRequestUptoCard : Claim7 := { stood := { row := fnFrameControllerRegistrationRequestUptoRow, standIns := [], harness := (true, "a9e24bf47342d4dc99da88f5bc65ebb52ab61bc3a1a8aa7f0b0e7d9dc6d3e9db"), looks := false }, kinds := [], alts := [], laidByText := true, laidKinds := [.sentinel], laidTests := true, laidLooks := .later }
def FnFrameControllerRegistrationRequestUptoCardSaid : Prop := Claim7.holds Tryz.pinned (.plain (OpenSpec.upto fnFrameControllerRegistrationRequestSpec)) fnFrameControllerRegistrationRequestUptoCard

/-- THE SECOND FORM's CARD OF 'laws.FnFrameShareAcknowledgeRequest'. -/
def fnFrameShareAcknowledgeRequestUptoCard : Claim7 := { stood := { row := fnFrameShareAcknowledgeRequestUptoRow, standIns := [], harness := (true, "a9e24bf47342d4dc99da88f5bc65ebb52ab61bc3a1a8aa7f0b0e7d9dc6d3e9db"), looks := false }, kinds := [], alts := [], laidByText := true, laidKinds := [.sentinel], laidTests := true, laidLooks := .later }
def FnFrameShareAcknowledgeRequestUptoCardSaid : Prop := Claim7.holds Tryz.pinned (.plain (OpenSpec.upto fnFrameShareAcknowledgeRequestSpec)) fnFrameShareAcknowledgeRequestUptoCard

/-- THE SECOND FORM's CARD OF 'laws.FnFrameAssignReplicasToDirsRequest'. -/
def fnFrameAssignReplicasToDirsRequestUptoCard : Claim7 := { stood := { row := fnFrameAssignReplicasToDirsRequestUptoRow, standIns := [], harness := (true, "a9e24bf47342d4dc99da88f5bc65ebb52ab61bc3a1a8aa7f0b0e7d9dc6d3e9db"), looks := false }, kinds := [], alts := [], laidByText := true, laidKinds := [.sentinel], laidTests := true, laidLooks := .later }
def FnFrameAssignReplicasToDirsRequestUptoCardSaid : Prop := Claim7.holds Tryz.pinned (.plain (OpenSpec.upto fnFrameAssignReplicasToDirsRequestSpec)) fnFrameAssignReplicasToDirsRequestUptoCard

/-- THE SECOND FORM's CARD OF 'laws.FnFrameCreatePartitionsRequest'. -/
def fnFrameCreatePartitionsRequestUptoCard : Claim7 := { stood := { row := fnFrameCreatePartitionsRequestUptoRow, standIns := [], harness := (true, "a9e24bf47342d4dc99da88f5bc65ebb52ab61bc3a1a8aa7f0b0e7d9dc6d3e9db"), looks := false }, kinds := [], alts := [], laidByText := true, laidKinds := [.sentinel], laidTests := true, laidLooks := .later }
def FnFrameCreatePartitionsRequestUptoCardSaid : Prop := Claim7.holds Tryz.pinned (.plain (OpenSpec.upto fnFrameCreatePartitionsRequestSpec)) fnFrameCreatePartitionsRequestUptoCard
end Rows
end Go.Proofs.YtjalbgfaneemfaaGreatDoor
