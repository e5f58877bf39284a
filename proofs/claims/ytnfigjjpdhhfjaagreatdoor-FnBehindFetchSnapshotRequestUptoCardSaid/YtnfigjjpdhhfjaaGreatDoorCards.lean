/-
  DERIVED. GIVEN WITH THE SEED: THE CARDS: each row of YtnfigjjpdhhfjaaGreatDoorRows.lean that lists a variable, with what it lists TIED to the program's text (the seventh form; the later family's looks); each row that meets fmt, with fmt's text TOLD by the authors' own Lean function (tested against real Go, not proved from fmt's source: count such statements apart). THE CARD IS WHAT COUNTS. Prove the row's statement (the work); the ties are given (YtnfigjjpdhhfjaaGreatDoorTie.lean); close each card by the builder's one call (the guide's Derived/Test/ToyasCard.lean, 'card_holds'). Laid BY PROGRAM, IN A SANDBOX (cutbox-door.mjs). By AI agents, Wed Nov 11 2026. No macro, syntax, notation, axiom, sorry.
-/
import Derived.Test.YtnfigjjpdhhfjaaGreatDoorRows
import GoSem.ClaimSeven
namespace Go.Proofs.YtnfigjjpdhhfjaaGreatDoor
namespace Rows

/-- THE TIED CARD OF 'laws.FnBehindBeginQuorumEpochResponse'. -/
def fnBehindBeginQuorumEpochResponseCard : Claim7 := { stood := { row := fnBehindBeginQuorumEpochResponseRow, standIns := [], harness := (true, "87bea759c8357ebd42e7094fc5d14d31d149a17976a4d5c114aa2d016eb3c242"), looks := false }, kinds := [], alts := [], laidByText := true, laidKinds := [.sentinel], laidTests := true, laidLooks := .later }
def FnBehindBeginQuorumEpochResponseCardSaid : Prop := Claim7.holds Tryz.pinned (.plain (OpenSpec.ofChange fnBehindBeginQuorumEpochResponseSpec)) fnBehindBeginQuorumEpochResponseCard

/-- THE TIED CARD OF 'laws.FnBehindEndQuorumEpochResponse'. -/
def fnBehindEndQuorumEpochResponseCard : Claim7 := { stood := { row := fnBehindEndQuorumEpochResponseRow, standIns := [], harness := (true, "87bea759c8357ebd42e7094fc5d14d31d149a17976a4d5c114aa2d016eb3c242"), looks := false }, kinds := [], alts := [], laidByText := true, laidKinds := [.sentinel], laidTests := true, laidLooks := .later }
def FnBehindEndQuorumEpochResponseCardSaid : Prop := Claim7.holds Tryz.pinned (.plain (OpenSpec.ofChange fnBehindEndQuorumEpochResponseSpec)) fnBehindEndQuorumEpochResponseCard

/-- THE TIED CARD OF 'laws.FnBehindFetchSnapshotRequest'. -/
def fnBehindFetchSnapshotRequestCard : Claim7 := { stood := { row := fnBehindFetchSnapshotRequestRow, standIns := [], harness := (true, "87bea759c8357ebd42e7094fc5d14d31d149a17976a4d5c114aa2d016eb3c242"), looks := false }, kinds := [], alts := [], laidByText := true, laidKinds := [.sentinel], laidTests := true, laidLooks := .later }
def FnBehindFetchSnapshotRequestCardSaid : Prop := Claim7.holds Tryz.pinned (.plain (OpenSpec.ofChange fnBehindFetchSnapshotRequestSpec)) fnBehindFetchSnapshotRequestCard

/-- THE TIED CARD OF 'laws.FnBehindCreateTopicsResponse'. -/
def fnBehindCreateTopicsResponseCard : Claim7 := { stood := { row := fnBehindCreateTopicsResponseRow, standIns := [], harness := (true, "87bea759c8357ebd42e7094fc5d14d31d149a17976a4d5c114aa2d016eb3c242"), looks := false }, kinds := [], alts := [], laidByText := true, laidKinds := [.sentinel], laidTests := true, laidLooks := .later }
def FnBehindCreateTopicsResponseCardSaid : Prop := Claim7.holds Tryz.pinned (.plain (OpenSpec.ofChange fnBehindCreateTopicsResponseSpec)) fnBehindCreateTopicsResponseCard

/-- THE SECOND FORM's CARD OF 'laws.FnBehindBeginQuorumEpochResponse'. -/
def fnBehindBeginQuorumEpochResponseUptoCard : Claim7 := { stood := { row := fnBehindBeginQuorumEpochResponseUptoRow, standIns := [], harness := (true, "87bea759c8357ebd42e7094fc5d14d31d149a17976a4d5c114aa2d016eb3c242"), looks := false }, kinds := [], alts := [], laidByText := true, laidKinds := [.sentinel], laidTests := true, laidLooks := .later }
def FnBehindBeginQuorumEpochResponseUptoCardSaid : Prop := Claim7.holds Tryz.pinned (.plain (OpenSpec.upto fnBehindBeginQuorumEpochResponseSpec)) fnBehindBeginQuorumEpochResponseUptoCard

/-- THE SECOND FORM's CARD OF 'laws.FnBehindEndQuorumEpochResponse'. -/
def fnBehindEndQuorumEpochResponseUptoCard : Claim7 := { stood := { row := fnBehindEndQuorumEpochResponseUptoRow, standIns := [], harness := (true, "87bea759c8357ebd42e7094fc5d14d31d149a17976a4d5c114aa2d016eb3c242"), looks := false }, kinds := [], alts := [], laidByText := true, laidKinds := [.sentinel], laidTests := true, laidLooks := .later }
def FnBehindEndQuorumEpochResponseUptoCardSaid : Prop := Claim7.holds Tryz.pinned (.plain (OpenSpec.upto fnBehindEndQuorumEpochResponseSpec)) fnBehindEndQuorumEpochResponseUptoCard

/-- THE SECOND FORM's CARD OF 'laws.FnBehindFetchSnapshotRequest'. -/
def fnBehindFetchSnapshotRequestUptoCard : Claim7 := { stood := { row := fnBehindFetchSnapshotRequestUptoRow, standIns := [], harness := (true, "87bea759c8357ebd42e7094fc5d14d31d149a17976a4d5c114aa2d016eb3c242"), looks := false }, kinds := [], alts := [], laidByText := true, laidKinds := [.sentinel], laidTests := true, laidLooks := .later }
def FnBehindFetchSnapshotRequestUptoCardSaid : Prop := Claim7.holds Tryz.pinned (.plain (OpenSpec.upto fnBehindFetchSnapshotRequestSpec)) fnBehindFetchSnapshotRequestUptoCard

/-- THE SECOND FORM's CARD OF 'laws.FnBehindCreateTopicsResponse'. -/
def fnBehindCreateTopicsResponseUptoCard : Claim7 := { stood := { row := fnBehindCreateTopicsResponseUptoRow, standIns := [], harness := (true, "87bea759c8357ebd42e7094fc5d14d31d149a17976a4d5c114aa2d016eb3c242"), looks := false }, kinds := [], alts := [], laidByText := true, laidKinds := [.sentinel], laidTests := true, laidLooks := .later }
def FnBehindCreateTopicsResponseUptoCardSaid : Prop := Claim7.holds Tryz.pinned (.plain (OpenSpec.upto fnBehindCreateTopicsResponseSpec)) fnBehindCreateTopicsResponseUptoCard
end Rows
end Go.Proofs.YtnfigjjpdhhfjaaGreatDoor
