/-
  DERIVED. GIVEN WITH THE SEED: THE CARDS: each row of YtokkeelmccdcaaaDoorRows.lean that lists a variable, with what it lists TIED to the program's text (the seventh form; the later family's looks); each row that meets fmt, with fmt's text TOLD by the authors' own Lean function (tested against real Go, not proved from fmt's source: count such statements apart). THE CARD IS WHAT COUNTS. Prove the row's statement (the work); the ties are given (YtokkeelmccdcaaaDoorTie.lean); close each card by the builder's one call (the guide's Derived/Test/ToyasCard.lean, 'card_holds'). Laid BY PROGRAM, IN A SANDBOX (cutbox-door.mjs). By AI agents, Wed Nov 11 2026. No macro, syntax, notation, axiom, sorry.
-/
import Derived.Test.YtokkeelmccdcaaaDoorRows
import GoSem.ClaimSeven
namespace Go.Proofs.YtokkeelmccdcaaaDoor
namespace Rows

/-- THE TIED CARD OF 'laws.FnUnsafeBrokerRegistrationRequest'. -/
def fnUnsafeBrokerRegistrationRequestCard : Claim7 := { stood := { row := fnUnsafeBrokerRegistrationRequestRow, standIns := [], harness := (true, "638abf1cfbdd04c85c8fc81c3686feeacbca6cb739353399dd1a5b478a13058f"), looks := false }, kinds := [], alts := [], laidByText := true, laidKinds := [.sentinel], laidTests := true, laidLooks := .later }
def FnUnsafeBrokerRegistrationRequestCardSaid : Prop := Claim7.holds Tryd.pinned (.plain (OpenSpec.ofChange fnUnsafeBrokerRegistrationRequestSpec)) fnUnsafeBrokerRegistrationRequestCard

/-- THE SECOND FORM's CARD OF 'laws.FnUnsafeBrokerRegistrationRequest'. -/
def fnUnsafeBrokerRegistrationRequestUptoCard : Claim7 := { stood := { row := fnUnsafeBrokerRegistrationRequestUptoRow, standIns := [], harness := (true, "638abf1cfbdd04c85c8fc81c3686feeacbca6cb739353399dd1a5b478a13058f"), looks := false }, kinds := [], alts := [], laidByText := true, laidKinds := [.sentinel], laidTests := true, laidLooks := .later }
def FnUnsafeBrokerRegistrationRequestUptoCardSaid : Prop := Claim7.holds Tryd.pinned (.plain (OpenSpec.upto fnUnsafeBrokerRegistrationRequestSpec)) fnUnsafeBrokerRegistrationRequestUptoCard
end Rows
end Go.Proofs.YtokkeelmccdcaaaDoor
