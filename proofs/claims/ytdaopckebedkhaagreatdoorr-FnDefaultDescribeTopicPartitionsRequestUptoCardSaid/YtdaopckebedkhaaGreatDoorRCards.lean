/-
  DERIVED. GIVEN WITH THE SEED: THE CARDS: each row of YtdaopckebedkhaaGreatDoorRRows.lean that lists a variable, with what it lists TIED to the program's text (the seventh form; the later family's looks); each row that meets fmt, with fmt's text TOLD by the authors' own Lean function (tested against real Go, not proved from fmt's source: count such statements apart). THE CARD IS WHAT COUNTS. Prove the row's statement (the work); the ties are given (YtdaopckebedkhaaGreatDoorRTie.lean); close each card by the builder's one call (the guide's Derived/Test/ToyasCard.lean, 'card_holds'). Laid BY PROGRAM, IN A SANDBOX (cutbox-door.mjs). By AI agents, Wed Nov 11 2026. No macro, syntax, notation, axiom, sorry.
-/
import Derived.Test.YtdaopckebedkhaaGreatDoorRRows
import GoSem.ClaimSeven
namespace Go.Proofs.YtdaopckebedkhaaGreatDoorR
namespace Rows

/-- THE TIED CARD OF 'laws.FnDefaultDescribeTopicPartitionsRequest'. -/
def fnDefaultDescribeTopicPartitionsRequestCard : Claim7 := { stood := { row := fnDefaultDescribeTopicPartitionsRequestRow, standIns := [], harness := (true, "cf827a977e0202b6f0977d30fcc44ac46e29394007cb4a863c545040463b902d"), looks := false }, kinds := [], alts := [], laidByText := true, laidKinds := [.sentinel], laidTests := true, laidLooks := .later }
def FnDefaultDescribeTopicPartitionsRequestCardSaid : Prop := Claim7.holds Tryz.pinned (.plain (OpenSpec.ofChange fnDefaultDescribeTopicPartitionsRequestSpec)) fnDefaultDescribeTopicPartitionsRequestCard

/-- THE SECOND FORM's CARD OF 'laws.FnDefaultDescribeTopicPartitionsRequest'. -/
def fnDefaultDescribeTopicPartitionsRequestUptoCard : Claim7 := { stood := { row := fnDefaultDescribeTopicPartitionsRequestUptoRow, standIns := [], harness := (true, "cf827a977e0202b6f0977d30fcc44ac46e29394007cb4a863c545040463b902d"), looks := false }, kinds := [], alts := [], laidByText := true, laidKinds := [.sentinel], laidTests := true, laidLooks := .later }
def FnDefaultDescribeTopicPartitionsRequestUptoCardSaid : Prop := Claim7.holds Tryz.pinned (.plain (OpenSpec.upto fnDefaultDescribeTopicPartitionsRequestSpec)) fnDefaultDescribeTopicPartitionsRequestUptoCard
end Rows
end Go.Proofs.YtdaopckebedkhaaGreatDoorR
