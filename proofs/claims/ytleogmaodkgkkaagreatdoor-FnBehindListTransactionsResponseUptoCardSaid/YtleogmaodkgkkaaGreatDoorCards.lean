/-
  DERIVED. GIVEN WITH THE SEED: THE CARDS: each row of YtleogmaodkgkkaaGreatDoorRows.lean that lists a variable, with what it lists TIED to the program's text (the seventh form; the later family's looks); each row that meets fmt, with fmt's text TOLD by the authors' own Lean function (tested against real Go, not proved from fmt's source: count such statements apart). THE CARD IS WHAT COUNTS. Prove the row's statement (the work); the ties are given (YtleogmaodkgkkaaGreatDoorTie.lean); close each card by the builder's one call (the guide's Derived/Test/ToyasCard.lean, 'card_holds'). Laid BY PROGRAM, IN A SANDBOX (cutbox-door.mjs). By AI agents, Wed Nov 11 2026. No macro, syntax, notation, axiom, sorry.
-/
import Derived.Test.YtleogmaodkgkkaaGreatDoorRows
import GoSem.ClaimSeven
namespace Go.Proofs.YtleogmaodkgkkaaGreatDoor
namespace Rows

/-- THE TIED CARD OF 'laws.FnBehindDescribeProducersRequest'. -/
def fnBehindDescribeProducersRequestCard : Claim7 := { stood := { row := fnBehindDescribeProducersRequestRow, standIns := [], harness := (true, "087e7d2af742c454f6e8cdcf5bdd6dc6b10303e08b3ab97d0bb0256fbd9c5092"), looks := false }, kinds := [], alts := [], laidByText := true, laidKinds := [.sentinel], laidTests := true, laidLooks := .later }
def FnBehindDescribeProducersRequestCardSaid : Prop := Claim7.holds Tryz.pinned (.plain (OpenSpec.ofChange fnBehindDescribeProducersRequestSpec)) fnBehindDescribeProducersRequestCard

/-- THE TIED CARD OF 'laws.FnBehindSASLAuthenticateResponse'. -/
def fnBehindSASLAuthenticateResponseCard : Claim7 := { stood := { row := fnBehindSASLAuthenticateResponseRow, standIns := [], harness := (true, "087e7d2af742c454f6e8cdcf5bdd6dc6b10303e08b3ab97d0bb0256fbd9c5092"), looks := false }, kinds := [], alts := [], laidByText := true, laidKinds := [.sentinel], laidTests := true, laidLooks := .later }
def FnBehindSASLAuthenticateResponseCardSaid : Prop := Claim7.holds Tryz.pinned (.plain (OpenSpec.ofChange fnBehindSASLAuthenticateResponseSpec)) fnBehindSASLAuthenticateResponseCard

/-- THE TIED CARD OF 'laws.FnBehindDeleteRecordsResponse'. -/
def fnBehindDeleteRecordsResponseCard : Claim7 := { stood := { row := fnBehindDeleteRecordsResponseRow, standIns := [], harness := (true, "087e7d2af742c454f6e8cdcf5bdd6dc6b10303e08b3ab97d0bb0256fbd9c5092"), looks := false }, kinds := [], alts := [], laidByText := true, laidKinds := [.sentinel], laidTests := true, laidLooks := .later }
def FnBehindDeleteRecordsResponseCardSaid : Prop := Claim7.holds Tryz.pinned (.plain (OpenSpec.ofChange fnBehindDeleteRecordsResponseSpec)) fnBehindDeleteRecordsResponseCard

/-- THE TIED CARD OF 'laws.FnBehindListTransactionsResponse'. -/
def fnBehindListTransactionsResponseCard : Claim7 := { stood := { row := fnBehindListTransactionsResponseRow, standIns := [], harness := (true, "087e7d2af742c454f6e8cdcf5bdd6dc6b10303e08b3ab97d0bb0256fbd9c5092"), looks := false }, kinds := [], alts := [], laidByText := true, laidKinds := [.sentinel], laidTests := true, laidLooks := .later }
def FnBehindListTransactionsResponseCardSaid : Prop := Claim7.holds Tryz.pinned (.plain (OpenSpec.ofChange fnBehindListTransactionsResponseSpec)) fnBehindListTransactionsResponseCard

/-- THE TIED CARD OF 'laws.FnBehindDeleteTopicsResponse'. -/
def fnBehindDeleteTopicsResponseCard : Claim7 := { stood := { row := fnBehindDeleteTopicsResponseRow, standIns := [], harness := (true, "087e7d2af742c454f6e8cdcf5bdd6dc6b10303e08b3ab97d0bb0256fbd9c5092"), looks := false }, kinds := [], alts := [], laidByText := true, laidKinds := [.sentinel], laidTests := true, laidLooks := .later }
def FnBehindDeleteTopicsResponseCardSaid : Prop := Claim7.holds Tryz.pinned (.plain (OpenSpec.ofChange fnBehindDeleteTopicsResponseSpec)) fnBehindDeleteTopicsResponseCard

/-- THE TIED CARD OF 'laws.FnBehindDescribeTransactionsResponse'. -/
def fnBehindDescribeTransactionsResponseCard : Claim7 := { stood := { row := fnBehindDescribeTransactionsResponseRow, standIns := [], harness := (true, "087e7d2af742c454f6e8cdcf5bdd6dc6b10303e08b3ab97d0bb0256fbd9c5092"), looks := false }, kinds := [], alts := [], laidByText := true, laidKinds := [.sentinel], laidTests := true, laidLooks := .later }
def FnBehindDescribeTransactionsResponseCardSaid : Prop := Claim7.holds Tryz.pinned (.plain (OpenSpec.ofChange fnBehindDescribeTransactionsResponseSpec)) fnBehindDescribeTransactionsResponseCard

/-- THE SECOND FORM's CARD OF 'laws.FnBehindDescribeProducersRequest'. -/
def fnBehindDescribeProducersRequestUptoCard : Claim7 := { stood := { row := fnBehindDescribeProducersRequestUptoRow, standIns := [], harness := (true, "087e7d2af742c454f6e8cdcf5bdd6dc6b10303e08b3ab97d0bb0256fbd9c5092"), looks := false }, kinds := [], alts := [], laidByText := true, laidKinds := [.sentinel], laidTests := true, laidLooks := .later }
def FnBehindDescribeProducersRequestUptoCardSaid : Prop := Claim7.holds Tryz.pinned (.plain (OpenSpec.upto fnBehindDescribeProducersRequestSpec)) fnBehindDescribeProducersRequestUptoCard

/-- THE SECOND FORM's CARD OF 'laws.FnBehindSASLAuthenticateResponse'. -/
def fnBehindSASLAuthenticateResponseUptoCard : Claim7 := { stood := { row := fnBehindSASLAuthenticateResponseUptoRow, standIns := [], harness := (true, "087e7d2af742c454f6e8cdcf5bdd6dc6b10303e08b3ab97d0bb0256fbd9c5092"), looks := false }, kinds := [], alts := [], laidByText := true, laidKinds := [.sentinel], laidTests := true, laidLooks := .later }
def FnBehindSASLAuthenticateResponseUptoCardSaid : Prop := Claim7.holds Tryz.pinned (.plain (OpenSpec.upto fnBehindSASLAuthenticateResponseSpec)) fnBehindSASLAuthenticateResponseUptoCard

/-- THE SECOND FORM's CARD OF 'laws.FnBehindDeleteRecordsResponse'. -/
def fnBehindDeleteRecordsResponseUptoCard : Claim7 := { stood := { row := fnBehindDeleteRecordsResponseUptoRow, standIns := [], harness := (true, "087e7d2af742c454f6e8cdcf5bdd6dc6b10303e08b3ab97d0bb0256fbd9c5092"), looks := false }, kinds := [], alts := [], laidByText := true, laidKinds := [.sentinel], laidTests := true, laidLooks := .later }
def FnBehindDeleteRecordsResponseUptoCardSaid : Prop := Claim7.holds Tryz.pinned (.plain (OpenSpec.upto fnBehindDeleteRecordsResponseSpec)) fnBehindDeleteRecordsResponseUptoCard

/-- THE SECOND FORM's CARD OF 'laws.FnBehindListTransactionsResponse'. -/
def fnBehindListTransactionsResponseUptoCard : Claim7 := { stood := { row := fnBehindListTransactionsResponseUptoRow, standIns := [], harness := (true, "087e7d2af742c454f6e8cdcf5bdd6dc6b10303e08b3ab97d0bb0256fbd9c5092"), looks := false }, kinds := [], alts := [], laidByText := true, laidKinds := [.sentinel], laidTests := true, laidLooks := .later }
def FnBehindListTransactionsResponseUptoCardSaid : Prop := Claim7.holds Tryz.pinned (.plain (OpenSpec.upto fnBehindListTransactionsResponseSpec)) fnBehindListTransactionsResponseUptoCard

/-- THE SECOND FORM's CARD OF 'laws.FnBehindDeleteTopicsResponse'. -/
def fnBehindDeleteTopicsResponseUptoCard : Claim7 := { stood := { row := fnBehindDeleteTopicsResponseUptoRow, standIns := [], harness := (true, "087e7d2af742c454f6e8cdcf5bdd6dc6b10303e08b3ab97d0bb0256fbd9c5092"), looks := false }, kinds := [], alts := [], laidByText := true, laidKinds := [.sentinel], laidTests := true, laidLooks := .later }
def FnBehindDeleteTopicsResponseUptoCardSaid : Prop := Claim7.holds Tryz.pinned (.plain (OpenSpec.upto fnBehindDeleteTopicsResponseSpec)) fnBehindDeleteTopicsResponseUptoCard

/-- THE SECOND FORM's CARD OF 'laws.FnBehindDescribeTransactionsResponse'. -/
def fnBehindDescribeTransactionsResponseUptoCard : Claim7 := { stood := { row := fnBehindDescribeTransactionsResponseUptoRow, standIns := [], harness := (true, "087e7d2af742c454f6e8cdcf5bdd6dc6b10303e08b3ab97d0bb0256fbd9c5092"), looks := false }, kinds := [], alts := [], laidByText := true, laidKinds := [.sentinel], laidTests := true, laidLooks := .later }
def FnBehindDescribeTransactionsResponseUptoCardSaid : Prop := Claim7.holds Tryz.pinned (.plain (OpenSpec.upto fnBehindDescribeTransactionsResponseSpec)) fnBehindDescribeTransactionsResponseUptoCard
end Rows
end Go.Proofs.YtleogmaodkgkkaaGreatDoor
