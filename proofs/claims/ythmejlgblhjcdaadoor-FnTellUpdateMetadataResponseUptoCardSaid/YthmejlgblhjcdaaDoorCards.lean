/-
  DERIVED. GIVEN WITH THE SEED: THE CARDS: each row of YthmejlgblhjcdaaDoorRows.lean that lists a variable, with what it lists TIED to the program's text (the seventh form; the later family's looks); each row that meets fmt, with fmt's text TOLD by the authors' own Lean function (tested against real Go, not proved from fmt's source: count such statements apart). THE CARD IS WHAT COUNTS. Prove the row's statement (the work); the ties are given (YthmejlgblhjcdaaDoorTie.lean); close each card by the builder's one call (the guide's Derived/Test/ToyasCard.lean, 'card_holds'). Laid BY PROGRAM, IN A SANDBOX (cutbox-door.mjs). By AI agents, Wed Nov 11 2026. No macro, syntax, notation, axiom, sorry.
-/
import Derived.Test.YthmejlgblhjcdaaDoorRows
import GoSem.ClaimSeven
namespace Go.Proofs.YthmejlgblhjcdaaDoor
namespace Rows

/-- THE TIED CARD OF 'laws.FnTellUpdateMetadataResponse'. -/
def fnTellUpdateMetadataResponseCard : Claim7 := { stood := { row := fnTellUpdateMetadataResponseRow, standIns := [], harness := (true, "80e599df04ab9ed9a6b5fe0dcb3b34666fb01d714e8a446077cc3d228890a429"), looks := false }, kinds := [], alts := [], laidByText := true, laidKinds := [.sentinel], laidTests := true, laidLooks := .later }
def FnTellUpdateMetadataResponseCardSaid : Prop := Claim7.holds Tryd.pinned (.plain (OpenSpec.ofChange fnTellUpdateMetadataResponseSpec)) fnTellUpdateMetadataResponseCard

/-- THE SECOND FORM's CARD OF 'laws.FnTellUpdateMetadataResponse'. -/
def fnTellUpdateMetadataResponseUptoCard : Claim7 := { stood := { row := fnTellUpdateMetadataResponseUptoRow, standIns := [], harness := (true, "80e599df04ab9ed9a6b5fe0dcb3b34666fb01d714e8a446077cc3d228890a429"), looks := false }, kinds := [], alts := [], laidByText := true, laidKinds := [.sentinel], laidTests := true, laidLooks := .later }
def FnTellUpdateMetadataResponseUptoCardSaid : Prop := Claim7.holds Tryd.pinned (.plain (OpenSpec.upto fnTellUpdateMetadataResponseSpec)) fnTellUpdateMetadataResponseUptoCard
end Rows
end Go.Proofs.YthmejlgblhjcdaaDoor
