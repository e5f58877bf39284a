/-
  DERIVED. GIVEN WITH THE SEED: THE CARDS: each row of YtokkeelmccdcaaaGreatDoorRows.lean that lists a variable, with what it lists TIED to the program's text (the seventh form; the later family's looks); each row that meets fmt, with fmt's text TOLD by the authors' own Lean function (tested against real Go, not proved from fmt's source: count such statements apart). THE CARD IS WHAT COUNTS. Prove the row's statement (the work); the ties are given (YtokkeelmccdcaaaGreatDoorTie.lean); close each card by the builder's one call (the guide's Derived/Test/ToyasCard.lean, 'card_holds'). Laid BY PROGRAM, IN A SANDBOX (cutbox-door.mjs). By AI agents, Wed Nov 11 2026. No macro, syntax, notation, axiom, sorry.
-/
import Derived.Test.YtokkeelmccdcaaaGreatDoorRows
import GoSem.ClaimSeven
namespace Go.Proofs.YtokkeelmccdcaaaGreatDoor
namespace Rows

/-- THE TIED CARD OF 'laws.FnBehindShareFetchResponse'. -/
def fnBehindShareFetchResponseCard : Claim7 := { stood := { row := fnBehindShareFetchResponseRow, standIns := [], harness := (true, "eef24610c64fd8f6986587a5051e287966ed1c432cb8ee3dde05bd8249941dc7"), looks := false }, kinds := [], alts := [], laidByText := true, laidKinds := [.sentinel], laidTests := true, laidLooks := .later }
def FnBehindShareFetchResponseCardSaid : Prop := Claim7.holds Tryz.pinned (.plain (OpenSpec.ofChange fnBehindShareFetchResponseSpec)) fnBehindShareFetchResponseCard

/-- THE TIED CARD OF 'laws.FnBehindDeleteTopicsResponse'. -/
def fnBehindDeleteTopicsResponseCard : Claim7 := { stood := { row := fnBehindDeleteTopicsResponseRow, standIns := [], harness := (true, "eef24610c64fd8f6986587a5051e287966ed1c432cb8ee3dde05bd8249941dc7"), looks := false }, kinds := [], alts := [], laidByText := true, laidKinds := [.sentinel], laidTests := true, laidLooks := .later }
def FnBehindDeleteTopicsResponseCardSaid : Prop := Claim7.holds Tryz.pinned (.plain (OpenSpec.ofChange fnBehindDeleteTopicsResponseSpec)) fnBehindDeleteTopicsResponseCard

/-- THE TIED CARD OF 'laws.FnDefaultElectLeadersRequest'. -/
def fnDefaultElectLeadersRequestCard : Claim7 := { stood := { row := fnDefaultElectLeadersRequestRow, standIns := [], harness := (true, "eef24610c64fd8f6986587a5051e287966ed1c432cb8ee3dde05bd8249941dc7"), looks := false }, kinds := [], alts := [], laidByText := true, laidKinds := [.sentinel], laidTests := true, laidLooks := .later }
def FnDefaultElectLeadersRequestCardSaid : Prop := Claim7.holds Tryz.pinned (.plain (OpenSpec.ofChange fnDefaultElectLeadersRequestSpec)) fnDefaultElectLeadersRequestCard

/-- THE SECOND FORM's CARD OF 'laws.FnBehindShareFetchResponse'. -/
def fnBehindShareFetchResponseUptoCard : Claim7 := { stood := { row := fnBehindShareFetchResponseUptoRow, standIns := [], harness := (true, "eef24610c64fd8f6986587a5051e287966ed1c432cb8ee3dde05bd8249941dc7"), looks := false }, kinds := [], alts := [], laidByText := true, laidKinds := [.sentinel], laidTests := true, laidLooks := .later }
def FnBehindShareFetchResponseUptoCardSaid : Prop := Claim7.holds Tryz.pinned (.plain (OpenSpec.upto fnBehindShareFetchResponseSpec)) fnBehindShareFetchResponseUptoCard

/-- THE SECOND FORM's CARD OF 'laws.FnBehindDeleteTopicsResponse'. -/
def fnBehindDeleteTopicsResponseUptoCard : Claim7 := { stood := { row := fnBehindDeleteTopicsResponseUptoRow, standIns := [], harness := (true, "eef24610c64fd8f6986587a5051e287966ed1c432cb8ee3dde05bd8249941dc7"), looks := false }, kinds := [], alts := [], laidByText := true, laidKinds := [.sentinel], laidTests := true, laidLooks := .later }
def FnBehindDeleteTopicsResponseUptoCardSaid : Prop := Claim7.holds Tryz.pinned (.plain (OpenSpec.upto fnBehindDeleteTopicsResponseSpec)) fnBehindDeleteTopicsResponseUptoCard

/-- THE SECOND FORM's CARD OF 'laws.FnDefaultElectLeadersRequest'. -/
def fnDefaultElectLeadersRequestUptoCard : Claim7 := { stood := { row := fnDefaultElectLeadersRequestUptoRow, standIns := [], harness := (true, "eef24610c64fd8f6986587a5051e287966ed1c432cb8ee3dde05bd8249941dc7"), looks := false }, kinds := [], alts := [], laidByText := true, laidKinds := [.sentinel], laidTests := true, laidLooks := .later }
def FnDefaultElectLeadersRequestUptoCardSaid : Prop := Claim7.holds Tryz.pinned (.plain (OpenSpec.upto fnDefaultElectLeadersRequestSpec)) fnDefaultElectLeadersRequestUptoCard
end Rows
end Go.Proofs.YtokkeelmccdcaaaGreatDoor
