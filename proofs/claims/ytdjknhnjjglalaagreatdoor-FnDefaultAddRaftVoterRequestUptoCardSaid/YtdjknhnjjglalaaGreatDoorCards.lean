/-
  DERIVED. GIVEN WITH THE SEED: THE CARDS: each row of YtdjknhnjjglalaaGreatDoorRows.lean that lists a variable, with what it lists TIED to the program's text (the seventh form; the later family's looks); each row that meets fmt, with fmt's text TOLD by the authors' own Lean function (tested against real Go, not proved from fmt's source: count such statements apart). THE CARD IS WHAT COUNTS. Prove the row's statement (the work); the ties are given (YtdjknhnjjglalaaGreatDoorTie.lean); close each card by the builder's one call (the guide's Derived/Test/ToyasCard.lean, 'card_holds'). Laid BY PROGRAM, IN A SANDBOX (cutbox-door.mjs). By AI agents, Wed Nov 11 2026. No macro, syntax, notation, axiom, sorry.
-/
import Derived.Test.YtdjknhnjjglalaaGreatDoorRows
import GoSem.ClaimSeven
namespace Go.Proofs.YtdjknhnjjglalaaGreatDoor
namespace Rows

/-- THE TIED CARD OF 'laws.FnDefaultElectLeadersRequest'. -/
def fnDefaultElectLeadersRequestCard : Claim7 := { stood := { row := fnDefaultElectLeadersRequestRow, standIns := [], harness := (true, "d699c8acd941cbfcb435db8ed5c86c04fe179a66fa14433ffa0802ec5b2ad980"), looks := false }, kinds := [], alts := [], laidByText := true, laidKinds := [.sentinel], laidTests := true, laidLooks := .later }
def FnDefaultElectLeadersRequestCardSaid : Prop := Claim7.holds Tryz.pinned (.plain (OpenSpec.ofChange fnDefaultElectLeadersRequestSpec)) fnDefaultElectLeadersRequestCard

/-- THE TIED CARD OF 'laws.FnDefaultAddRaftVoterRequest'. -/
def fnDefaultAddRaftVoterRequestCard : Claim7 := { stood := { row := fnDefaultAddRaftVoterRequestRow, standIns := [], harness := (true, "d699c8acd941cbfcb435db8ed5c86c04fe179a66fa14433ffa0802ec5b2ad980"), looks := false }, kinds := [], alts := [], laidByText := true, laidKinds := [.sentinel], laidTests := true, laidLooks := .later }
def FnDefaultAddRaftVoterRequestCardSaid : Prop := Claim7.holds Tryz.pinned (.plain (OpenSpec.ofChange fnDefaultAddRaftVoterRequestSpec)) fnDefaultAddRaftVoterRequestCard

/-- THE TIED CARD OF 'laws.FnTellListOffsetsRequest'. -/
def fnTellListOffsetsRequestCard : Claim7 := { stood := { row := fnTellListOffsetsRequestRow, standIns := [], harness := (true, "d699c8acd941cbfcb435db8ed5c86c04fe179a66fa14433ffa0802ec5b2ad980"), looks := false }, kinds := [], alts := [], laidByText := true, laidKinds := [.sentinel], laidTests := true, laidLooks := .later }
def FnTellListOffsetsRequestCardSaid : Prop := Claim7.holds Tryz.pinned (.plain (OpenSpec.ofChange fnTellListOffsetsRequestSpec)) fnTellListOffsetsRequestCard

/-- THE TIED CARD OF 'laws.FnTellAlterShareGroupOffsetsResponse'. -/
def fnTellAlterShareGroupOffsetsResponseCard : Claim7 := { stood := { row := fnTellAlterShareGroupOffsetsResponseRow, standIns := [], harness := (true, "d699c8acd941cbfcb435db8ed5c86c04fe179a66fa14433ffa0802ec5b2ad980"), looks := false }, kinds := [], alts := [], laidByText := true, laidKinds := [.sentinel], laidTests := true, laidLooks := .later }
def FnTellAlterShareGroupOffsetsResponseCardSaid : Prop := Claim7.holds Tryz.pinned (.plain (OpenSpec.ofChange fnTellAlterShareGroupOffsetsResponseSpec)) fnTellAlterShareGroupOffsetsResponseCard

/-- THE TIED CARD OF 'laws.FnTellJoinGroupResponse'. -/
def fnTellJoinGroupResponseCard : Claim7 := { stood := { row := fnTellJoinGroupResponseRow, standIns := [], harness := (true, "d699c8acd941cbfcb435db8ed5c86c04fe179a66fa14433ffa0802ec5b2ad980"), looks := false }, kinds := [], alts := [], laidByText := true, laidKinds := [.sentinel], laidTests := true, laidLooks := .later }
def FnTellJoinGroupResponseCardSaid : Prop := Claim7.holds Tryz.pinned (.plain (OpenSpec.ofChange fnTellJoinGroupResponseSpec)) fnTellJoinGroupResponseCard

/-- THE SECOND FORM's CARD OF 'laws.FnDefaultElectLeadersRequest'. -/
def fnDefaultElectLeadersRequestUptoCard : Claim7 := { stood := { row := fnDefaultElectLeadersRequestUptoRow, standIns := [], harness := (true, "d699c8acd941cbfcb435db8ed5c86c04fe179a66fa14433ffa0802ec5b2ad980"), looks := false }, kinds := [], alts := [], laidByText := true, laidKinds := [.sentinel], laidTests := true, laidLooks := .later }
def FnDefaultElectLeadersRequestUptoCardSaid : Prop := Claim7.holds Tryz.pinned (.plain (OpenSpec.upto fnDefaultElectLeadersRequestSpec)) fnDefaultElectLeadersRequestUptoCard

/-- THE SECOND FORM's CARD OF 'laws.FnDefaultAddRaftVoterRequest'. -/
def fnDefaultAddRaftVoterRequestUptoCard : Claim7 := { stood := { row := fnDefaultAddRaftVoterRequestUptoRow, standIns := [], harness := (true, "d699c8acd941cbfcb435db8ed5c86c04fe179a66fa14433ffa0802ec5b2ad980"), looks := false }, kinds := [], alts := [], laidByText := true, laidKinds := [.sentinel], laidTests := true, laidLooks := .later }
def FnDefaultAddRaftVoterRequestUptoCardSaid : Prop := Claim7.holds Tryz.pinned (.plain (OpenSpec.upto fnDefaultAddRaftVoterRequestSpec)) fnDefaultAddRaftVoterRequestUptoCard

/-- THE SECOND FORM's CARD OF 'laws.FnTellListOffsetsRequest'. -/
def fnTellListOffsetsRequestUptoCard : Claim7 := { stood := { row := fnTellListOffsetsRequestUptoRow, standIns := [], harness := (true, "d699c8acd941cbfcb435db8ed5c86c04fe179a66fa14433ffa0802ec5b2ad980"), looks := false }, kinds := [], alts := [], laidByText := true, laidKinds := [.sentinel], laidTests := true, laidLooks := .later }
def FnTellListOffsetsRequestUptoCardSaid : Prop := Claim7.holds Tryz.pinned (.plain (OpenSpec.upto fnTellListOffsetsRequestSpec)) fnTellListOffsetsRequestUptoCard

/-- THE SECOND FORM's CARD OF 'laws.FnTellAlterShareGroupOffsetsResponse'. -/
def fnTellAlterShareGroupOffsetsResponseUptoCard : Claim7 := { stood := { row := fnTellAlterShareGroupOffsetsResponseUptoRow, standIns := [], harness := (true, "d699c8acd941cbfcb435db8ed5c86c04fe179a66fa14433ffa0802ec5b2ad980"), looks := false }, kinds := [], alts := [], laidByText := true, laidKinds := [.sentinel], laidTests := true, laidLooks := .later }
def FnTellAlterShareGroupOffsetsResponseUptoCardSaid : Prop := Claim7.holds Tryz.pinned (.plain (OpenSpec.upto fnTellAlterShareGroupOffsetsResponseSpec)) fnTellAlterShareGroupOffsetsResponseUptoCard

/-- THE SECOND FORM's CARD OF 'laws.FnTellJoinGroupResponse'. -/
def fnTellJoinGroupResponseUptoCard : Claim7 := { stood := { row := fnTellJoinGroupResponseUptoRow, standIns := [], harness := (true, "d699c8acd941cbfcb435db8ed5c86c04fe179a66fa14433ffa0802ec5b2ad980"), looks := false }, kinds := [], alts := [], laidByText := true, laidKinds := [.sentinel], laidTests := true, laidLooks := .later }
def FnTellJoinGroupResponseUptoCardSaid : Prop := Claim7.holds Tryz.pinned (.plain (OpenSpec.upto fnTellJoinGroupResponseSpec)) fnTellJoinGroupResponseUptoCard
end Rows
end Go.Proofs.YtdjknhnjjglalaaGreatDoor
