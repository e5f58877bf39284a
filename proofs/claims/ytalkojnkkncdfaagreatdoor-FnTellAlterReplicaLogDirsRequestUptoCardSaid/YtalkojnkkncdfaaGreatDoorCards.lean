/-
  DERIVED. GIVEN WITH THE SEED: THE CARDS: each row of YtalkojnkkncdfaaGreatDoorRows.lean that lists a variable, with what it lists TIED to the program's text (the seventh form; the later family's looks); each row that meets fmt, with fmt's text TOLD by the authors' own Lean function (tested against real Go, not proved from fmt's source: count such statements apart). THE CARD IS WHAT COUNTS. Prove the row's statement (the work); the ties are given (YtalkojnkkncdfaaGreatDoorTie.lean); close each card by the builder's one call (the guide's Derived/Test/ToyasCard.lean, 'card_holds'). Laid BY PROGRAM, IN A SANDBOX (cutbox-door.mjs). By AI agents, Wed Nov 11 2026. No macro, syntax, notation, axiom, sorry.
-/
import Derived.Test.YtalkojnkkncdfaaGreatDoorRows
import GoSem.ClaimSeven
namespace Go.Proofs.YtalkojnkkncdfaaGreatDoor
namespace Rows

/-- THE TIED CARD OF 'laws.FnTellWriteShareGroupStateResponse'. -/
def fnTellWriteShareGroupStateResponseCard : Claim7 := { stood := { row := fnTellWriteShareGroupStateResponseRow, standIns := [], harness := (true, "764dd23bb1fdc97165dde72edbd8197d17b84efb863882ec63e56550bdf43650"), looks := false }, kinds := [], alts := [], laidByText := true, laidKinds := [.sentinel], laidTests := true, laidLooks := .later }
def FnTellWriteShareGroupStateResponseCardSaid : Prop := Claim7.holds Tryz.pinned (.plain (OpenSpec.ofChange fnTellWriteShareGroupStateResponseSpec)) fnTellWriteShareGroupStateResponseCard

/-- THE TIED CARD OF 'laws.FnTellAlterShareGroupOffsetsResponse'. -/
def fnTellAlterShareGroupOffsetsResponseCard : Claim7 := { stood := { row := fnTellAlterShareGroupOffsetsResponseRow, standIns := [], harness := (true, "764dd23bb1fdc97165dde72edbd8197d17b84efb863882ec63e56550bdf43650"), looks := false }, kinds := [], alts := [], laidByText := true, laidKinds := [.sentinel], laidTests := true, laidLooks := .later }
def FnTellAlterShareGroupOffsetsResponseCardSaid : Prop := Claim7.holds Tryz.pinned (.plain (OpenSpec.ofChange fnTellAlterShareGroupOffsetsResponseSpec)) fnTellAlterShareGroupOffsetsResponseCard

/-- THE TIED CARD OF 'laws.FnTellAlterReplicaLogDirsRequest'. -/
def fnTellAlterReplicaLogDirsRequestCard : Claim7 := { stood := { row := fnTellAlterReplicaLogDirsRequestRow, standIns := [], harness := (true, "764dd23bb1fdc97165dde72edbd8197d17b84efb863882ec63e56550bdf43650"), looks := false }, kinds := [], alts := [], laidByText := true, laidKinds := [.sentinel], laidTests := true, laidLooks := .later }
def FnTellAlterReplicaLogDirsRequestCardSaid : Prop := Claim7.holds Tryz.pinned (.plain (OpenSpec.ofChange fnTellAlterReplicaLogDirsRequestSpec)) fnTellAlterReplicaLogDirsRequestCard

/-- THE TIED CARD OF 'laws.FnTellListOffsetsRequest'. -/
def fnTellListOffsetsRequestCard : Claim7 := { stood := { row := fnTellListOffsetsRequestRow, standIns := [], harness := (true, "764dd23bb1fdc97165dde72edbd8197d17b84efb863882ec63e56550bdf43650"), looks := false }, kinds := [], alts := [], laidByText := true, laidKinds := [.sentinel], laidTests := true, laidLooks := .later }
def FnTellListOffsetsRequestCardSaid : Prop := Claim7.holds Tryz.pinned (.plain (OpenSpec.ofChange fnTellListOffsetsRequestSpec)) fnTellListOffsetsRequestCard

/-- THE SECOND FORM's CARD OF 'laws.FnTellWriteShareGroupStateResponse'. -/
def fnTellWriteShareGroupStateResponseUptoCard : Claim7 := { stood := { row := fnTellWriteShareGroupStateResponseUptoRow, standIns := [], harness := (true, "764dd23bb1fdc97165dde72edbd8197d17b84efb863882ec63e56550bdf43650"), looks := false }, kinds := [], alts := [], laidByText := true, laidKinds := [.sentinel], laidTests := true, laidLooks := .later }
def FnTellWriteShareGroupStateResponseUptoCardSaid : Prop := Claim7.holds Tryz.pinned (.plain (OpenSpec.upto fnTellWriteShareGroupStateResponseSpec)) fnTellWriteShareGroupStateResponseUptoCard

/-- THE SECOND FORM's CARD OF 'laws.FnTellAlterShareGroupOffsetsResponse'. -/
def fnTellAlterShareGroupOffsetsResponseUptoCard : Claim7 := { stood := { row := fnTellAlterShareGroupOffsetsResponseUptoRow, standIns := [], harness := (true, "764dd23bb1fdc97165dde72edbd8197d17b84efb863882ec63e56550bdf43650"), looks := false }, kinds := [], alts := [], laidByText := true, laidKinds := [.sentinel], laidTests := true, laidLooks := .later }
def FnTellAlterShareGroupOffsetsResponseUptoCardSaid : Prop := Claim7.holds Tryz.pinned (.plain (OpenSpec.upto fnTellAlterShareGroupOffsetsResponseSpec)) fnTellAlterShareGroupOffsetsResponseUptoCard

/-- THE SECOND FORM's CARD OF 'laws.FnTellAlterReplicaLogDirsRequest'. -/
def fnTellAlterReplicaLogDirsRequestUptoCard : Claim7 := { stood := { row := fnTellAlterReplicaLogDirsRequestUptoRow, standIns := [], harness := (true, "764dd23bb1fdc97165dde72edbd8197d17b84efb863882ec63e56550bdf43650"), looks := false }, kinds := [], alts := [], laidByText := true, laidKinds := [.sentinel], laidTests := true, laidLooks := .later }
def FnTellAlterReplicaLogDirsRequestUptoCardSaid : Prop := Claim7.holds Tryz.pinned (.plain (OpenSpec.upto fnTellAlterReplicaLogDirsRequestSpec)) fnTellAlterReplicaLogDirsRequestUptoCard

/-- THE SECOND FORM's CARD OF 'laws.FnTellListOffsetsRequest'. -/
def fnTellListOffsetsRequestUptoCard : Claim7 := { stood := { row := fnTellListOffsetsRequestUptoRow, standIns := [], harness := (true, "764dd23bb1fdc97165dde72edbd8197d17b84efb863882ec63e56550bdf43650"), looks := false }, kinds := [], alts := [], laidByText := true, laidKinds := [.sentinel], laidTests := true, laidLooks := .later }
def FnTellListOffsetsRequestUptoCardSaid : Prop := Claim7.holds Tryz.pinned (.plain (OpenSpec.upto fnTellListOffsetsRequestSpec)) fnTellListOffsetsRequestUptoCard
end Rows
end Go.Proofs.YtalkojnkkncdfaaGreatDoor
