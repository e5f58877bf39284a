/-
  DERIVED. GIVEN WITH THE SEED: THE CARDS: each row of YtdfkkacpliangaaDoorRows.lean that lists a variable, with what it lists TIED to the program's text (the seventh form; the later family's looks); each row that meets fmt, with fmt's text TOLD by the authors' own Lean function (tested against real Go, not proved from fmt's source: count such statements apart). THE CARD IS WHAT COUNTS. Prove the row's statement (the work); the ties are given (YtdfkkacpliangaaDoorTie.lean); close each card by the builder's one call (the guide's Derived/Test/ToyasCard.lean, 'card_holds'). Laid BY PROGRAM, IN A SANDBOX (cutbox-door.mjs). By AI agents, Wed Nov 11 2026. No macro, syntax, notation, axiom, sorry.
-/
import Derived.Test.YtdfkkacpliangaaDoorRows
import GoSem.ClaimSeven
namespace Go.Proofs.YtdfkkacpliangaaDoor
namespace Rows

/-- THE TIED CARD OF 'laws.FnUnsafeStreamsGroupTopologyDescriptionUpdateResponse'. -/
def fnUnsafeStreamsGroupTopologyDescriptionUpdateResponseCard : Claim7 := { stood := { row := fnUnsafeStreamsGroupTopologyDescriptionUpdateResponseRow, standIns := [], harness := (true, "9f6a793ddeb0844a6c78969fa3fa365ce7b89a9193eff73995db7c129de84d31"), looks := false }, kinds := [], alts := [], laidByText := true, laidKinds := [.sentinel], laidTests := true, laidLooks := .later }
def FnUnsafeStreamsGroupTopologyDescriptionUpdateResponseCardSaid : Prop := Claim7.holds Tryd.pinned (.plain (OpenSpec.ofChange fnUnsafeStreamsGroupTopologyDescriptionUpdateResponseSpec)) fnUnsafeStreamsGroupTopologyDescriptionUpdateResponseCard

/-- THE TIED CARD OF 'laws.FnUnsafeApiVersionsRequest'. -/
def fnUnsafeApiVersionsRequestCard : Claim7 := { stood := { row := fnUnsafeApiVersionsRequestRow, standIns := [], harness := (true, "9f6a793ddeb0844a6c78969fa3fa365ce7b89a9193eff73995db7c129de84d31"), looks := false }, kinds := [], alts := [], laidByText := true, laidKinds := [.sentinel], laidTests := true, laidLooks := .later }
def FnUnsafeApiVersionsRequestCardSaid : Prop := Claim7.holds Tryd.pinned (.plain (OpenSpec.ofChange fnUnsafeApiVersionsRequestSpec)) fnUnsafeApiVersionsRequestCard

/-- THE TIED CARD OF 'laws.FnUnsafeDescribeDelegationTokenRequest'. -/
def fnUnsafeDescribeDelegationTokenRequestCard : Claim7 := { stood := { row := fnUnsafeDescribeDelegationTokenRequestRow, standIns := [], harness := (true, "9f6a793ddeb0844a6c78969fa3fa365ce7b89a9193eff73995db7c129de84d31"), looks := false }, kinds := [], alts := [], laidByText := true, laidKinds := [.sentinel], laidTests := true, laidLooks := .later }
def FnUnsafeDescribeDelegationTokenRequestCardSaid : Prop := Claim7.holds Tryd.pinned (.plain (OpenSpec.ofChange fnUnsafeDescribeDelegationTokenRequestSpec)) fnUnsafeDescribeDelegationTokenRequestCard

/-- THE SECOND FORM's CARD OF 'laws.FnUnsafeStreamsGroupTopologyDescriptionUpdateResponse'. -/
def fnUnsafeStreamsGroupTopologyDescriptionUpdateResponseUptoCard : Claim7 := { stood := { row := fnUnsafeStreamsGroupTopologyDescriptionUpdateResponseUptoRow, standIns := [], harness := (true, "9f6a793ddeb0844a6c78969fa3fa365ce7b89a9193eff73995db7c129de84d31"), looks := false }, kinds := [], alts := [], laidByText := true, laidKinds := [.sentinel], laidTests := true, laidLooks := .later }
def FnUnsafeStreamsGroupTopologyDescriptionUpdateResponseUptoCardSaid : Prop := Claim7.holds Tryd.pinned (.plain (OpenSpec.upto fnUnsafeStreamsGroupTopologyDescriptionUpdateResponseSpec)) fnUnsafeStreamsGroupTopologyDescriptionUpdateResponseUptoCard

/-- THE SECOND FORM's CARD OF 'laws.FnUnsafeApiVersionsRequest'. -/
def fnUnsafeApiVersionsRequestUptoCard : Claim7 := { stood := { row := fnUnsafeApiVersionsRequestUptoRow, standIns := [], harness := (true, "9f6a793ddeb0844a6c78969fa3fa365ce7b89a9193eff73995db7c129de84d31"), looks := false }, kinds := [], alts := [], laidByText := true, laidKinds := [.sentinel], laidTests := true, laidLooks := .later }
def FnUnsafeApiVersionsRequestUptoCardSaid : Prop := Claim7.holds Tryd.pinned (.plain (OpenSpec.upto fnUnsafeApiVersionsRequestSpec)) fnUnsafeApiVersionsRequestUptoCard

/-- THE SECOND FORM's CARD OF 'laws.FnUnsafeDescribeDelegationTokenRequest'. -/
def fnUnsafeDescribeDelegationTokenRequestUptoCard : Claim7 := { stood := { row := fnUnsafeDescribeDelegationTokenRequestUptoRow, standIns := [], harness := (true, "9f6a793ddeb0844a6c78969fa3fa365ce7b89a9193eff73995db7c129de84d31"), looks := false }, kinds := [], alts := [], laidByText := true, laidKinds := [.sentinel], laidTests := true, laidLooks := .later }
def FnUnsafeDescribeDelegationTokenRequestUptoCardSaid : Prop := Claim7.holds Tryd.pinned (.plain (OpenSpec.upto fnUnsafeDescribeDelegationTokenRequestSpec)) fnUnsafeDescribeDelegationTokenRequestUptoCard
end Rows
end Go.Proofs.YtdfkkacpliangaaDoor
