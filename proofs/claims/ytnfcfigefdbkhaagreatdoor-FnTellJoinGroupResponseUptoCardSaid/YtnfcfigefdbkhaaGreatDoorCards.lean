/-
  DERIVED. GIVEN WITH THE SEED: THE CARDS: each row of YtnfcfigefdbkhaaGreatDoorRows.lean that lists a variable, with what it lists TIED to the program's text (the seventh form; the later family's looks); each row that meets fmt, with fmt's text TOLD by the authors' own Lean function (tested against real Go, not proved from fmt's source: count such statements apart). THE CARD IS WHAT COUNTS. Prove the row's statement (the work); the ties are given (YtnfcfigefdbkhaaGreatDoorTie.lean); close each card by the builder's one call (the guide's Derived/Test/ToyasCard.lean, 'card_holds'). Laid BY PROGRAM, IN A SANDBOX (cutbox-door.mjs). By AI agents, Wed Nov 11 2026. No macro, syntax, notation, axiom, sorry.
-/
import Derived.Test.YtnfcfigefdbkhaaGreatDoorRows
import GoSem.ClaimSeven
namespace Go.Proofs.YtnfcfigefdbkhaaGreatDoor
namespace Rows

/-- THE TIED CARD OF 'laws.FnTellListOffsetsRequest'. -/
def fnTellListOffsetsRequestCard : Claim7 := { stood := { row := fnTellListOffsetsRequestRow, standIns := [], harness := (true, "185ba373603844424e572d802be18e1dc4a88acf29562ee2631113284430c64f"), looks := false }, kinds := [], alts := [], laidByText := true, laidKinds := [.sentinel], laidTests := true, laidLooks := .later }
def FnTellListOffsetsRequestCardSaid : Prop := Claim7.holds Tryz.pinned (.plain (OpenSpec.ofChange fnTellListOffsetsRequestSpec)) fnTellListOffsetsRequestCard

/-- THE TIED CARD OF 'laws.FnTellJoinGroupResponse'. -/
def fnTellJoinGroupResponseCard : Claim7 := { stood := { row := fnTellJoinGroupResponseRow, standIns := [], harness := (true, "185ba373603844424e572d802be18e1dc4a88acf29562ee2631113284430c64f"), looks := false }, kinds := [], alts := [], laidByText := true, laidKinds := [.sentinel], laidTests := true, laidLooks := .later }
def FnTellJoinGroupResponseCardSaid : Prop := Claim7.holds Tryz.pinned (.plain (OpenSpec.ofChange fnTellJoinGroupResponseSpec)) fnTellJoinGroupResponseCard

/-- THE TIED CARD OF 'laws.FnTellProduceResponse'. -/
def fnTellProduceResponseCard : Claim7 := { stood := { row := fnTellProduceResponseRow, standIns := [], harness := (true, "185ba373603844424e572d802be18e1dc4a88acf29562ee2631113284430c64f"), looks := false }, kinds := [], alts := [], laidByText := true, laidKinds := [.sentinel], laidTests := true, laidLooks := .later }
def FnTellProduceResponseCardSaid : Prop := Claim7.holds Tryz.pinned (.plain (OpenSpec.ofChange fnTellProduceResponseSpec)) fnTellProduceResponseCard

/-- THE SECOND FORM's CARD OF 'laws.FnTellListOffsetsRequest'. -/
def fnTellListOffsetsRequestUptoCard : Claim7 := { stood := { row := fnTellListOffsetsRequestUptoRow, standIns := [], harness := (true, "185ba373603844424e572d802be18e1dc4a88acf29562ee2631113284430c64f"), looks := false }, kinds := [], alts := [], laidByText := true, laidKinds := [.sentinel], laidTests := true, laidLooks := .later }
def FnTellListOffsetsRequestUptoCardSaid : Prop := Claim7.holds Tryz.pinned (.plain (OpenSpec.upto fnTellListOffsetsRequestSpec)) fnTellListOffsetsRequestUptoCard

/-- THE SECOND FORM's CARD OF 'laws.FnTellJoinGroupResponse'. -/
def fnTellJoinGroupResponseUptoCard : Claim7 := { stood := { row := fnTellJoinGroupResponseUptoRow, standIns := [], harness := (true, "185ba373603844424e572d802be18e1dc4a88acf29562ee2631113284430c64f"), looks := false }, kinds := [], alts := [], laidByText := true, laidKinds := [.sentinel], laidTests := true, laidLooks := .later }
def FnTellJoinGroupResponseUptoCardSaid : Prop := Claim7.holds Tryz.pinned (.plain (OpenSpec.upto fnTellJoinGroupResponseSpec)) fnTellJoinGroupResponseUptoCard

/-- THE SECOND FORM's CARD OF 'laws.FnTellProduceResponse'. -/
def fnTellProduceResponseUptoCard : Claim7 := { stood := { row := fnTellProduceResponseUptoRow, standIns := [], harness := (true, "185ba373603844424e572d802be18e1dc4a88acf29562ee2631113284430c64f"), looks := false }, kinds := [], alts := [], laidByText := true, laidKinds := [.sentinel], laidTests := true, laidLooks := .later }
def FnTellProduceResponseUptoCardSaid : Prop := Claim7.holds Tryz.pinned (.plain (OpenSpec.upto fnTellProduceResponseSpec)) fnTellProduceResponseUptoCard
end Rows
end Go.Proofs.YtnfcfigefdbkhaaGreatDoor
