/-
  DERIVED. GIVEN WITH THE SEED: THE CARDS: each row of YtehjpmchanlebaaGreatDoorRows.lean that lists a variable, with what it lists TIED to the program's text (the seventh form; the later family's looks); each row that meets fmt, with fmt's text TOLD by the authors' own Lean function (tested against real Go, not proved from fmt's source: count such statements apart). THE CARD IS WHAT COUNTS. Prove the row's statement (the work); the ties are given (YtehjpmchanlebaaGreatDoorTie.lean); close each card by the builder's one call (the guide's Derived/Test/ToyasCard.lean, 'card_holds'). Laid BY PROGRAM, IN A SANDBOX (cutbox-door.mjs). By AI agents, Wed Nov 11 2026. No macro, syntax, notation, axiom, sorry.
-/
import Derived.Test.YtehjpmchanlebaaGreatDoorRows
import GoSem.ClaimSeven
namespace Go.Proofs.YtehjpmchanlebaaGreatDoor
namespace Rows

/-- THE TIED CARD OF 'laws.FnBehindStopReplicaResponse'. -/
def fnBehindStopReplicaResponseCard : Claim7 := { stood := { row := fnBehindStopReplicaResponseRow, standIns := [], harness := (true, "c4c3b521c9d82038b7ccb628437d4623cc51482422602dec3a17b485f8c593bf"), looks := false }, kinds := [], alts := [], laidByText := true, laidKinds := [.sentinel], laidTests := true, laidLooks := .later }
def FnBehindStopReplicaResponseCardSaid : Prop := Claim7.holds Tryz.pinned (.plain (OpenSpec.ofChange fnBehindStopReplicaResponseSpec)) fnBehindStopReplicaResponseCard

/-- THE TIED CARD OF 'laws.FnBehindHeartbeatRequest'. -/
def fnBehindHeartbeatRequestCard : Claim7 := { stood := { row := fnBehindHeartbeatRequestRow, standIns := [], harness := (true, "c4c3b521c9d82038b7ccb628437d4623cc51482422602dec3a17b485f8c593bf"), looks := false }, kinds := [], alts := [], laidByText := true, laidKinds := [.sentinel], laidTests := true, laidLooks := .later }
def FnBehindHeartbeatRequestCardSaid : Prop := Claim7.holds Tryz.pinned (.plain (OpenSpec.ofChange fnBehindHeartbeatRequestSpec)) fnBehindHeartbeatRequestCard

/-- THE SECOND FORM's CARD OF 'laws.FnBehindStopReplicaResponse'. -/
def fnBehindStopReplicaResponseUptoCard : Claim7 := { stood := { row := fnBehindStopReplicaResponseUptoRow, standIns := [], harness := (true, "c4c3b521c9d82038b7ccb628437d4623cc51482422602dec3a17b485f8c593bf"), looks := false }, kinds := [], alts := [], laidByText := true, laidKinds := [.sentinel], laidTests := true, laidLooks := .later }
def FnBehindStopReplicaResponseUptoCardSaid : Prop := Claim7.holds Tryz.pinned (.plain (OpenSpec.upto fnBehindStopReplicaResponseSpec)) fnBehindStopReplicaResponseUptoCard

/-- THE SECOND FORM's CARD OF 'laws.FnBehindHeartbeatRequest'. -/
def fnBehindHeartbeatRequestUptoCard : Claim7 := { stood := { row := fnBehindHeartbeatRequestUptoRow, standIns := [], harness := (true, "c4c3b521c9d82038b7ccb628437d4623cc51482422602dec3a17b485f8c593bf"), looks := false }, kinds := [], alts := [], laidByText := true, laidKinds := [.sentinel], laidTests := true, laidLooks := .later }
def FnBehindHeartbeatRequestUptoCardSaid : Prop := Claim7.holds Tryz.pinned (.plain (OpenSpec.upto fnBehindHeartbeatRequestSpec)) fnBehindHeartbeatRequestUptoCard
end Rows
end Go.Proofs.YtehjpmchanlebaaGreatDoor
