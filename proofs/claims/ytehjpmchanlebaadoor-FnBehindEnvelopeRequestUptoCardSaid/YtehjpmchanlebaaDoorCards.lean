/-
  DERIVED. GIVEN WITH THE SEED: THE CARDS: each row of YtehjpmchanlebaaDoorRows.lean that lists a variable, with what it lists TIED to the program's text (the seventh form; the later family's looks); each row that meets fmt, with fmt's text TOLD by the authors' own Lean function (tested against real Go, not proved from fmt's source: count such statements apart). THE CARD IS WHAT COUNTS. Prove the row's statement (the work); the ties are given (YtehjpmchanlebaaDoorTie.lean); close each card by the builder's one call (the guide's Derived/Test/ToyasCard.lean, 'card_holds'). Laid BY PROGRAM, IN A SANDBOX (cutbox-door.mjs). By AI agents, Wed Nov 11 2026. No macro, syntax, notation, axiom, sorry.
-/
import Derived.Test.YtehjpmchanlebaaDoorRows
import GoSem.ClaimSeven
namespace Go.Proofs.YtehjpmchanlebaaDoor
namespace Rows

/-- THE TIED CARD OF 'laws.FnBehindAddOffsetsToTxnResponse'. -/
def fnBehindAddOffsetsToTxnResponseCard : Claim7 := { stood := { row := fnBehindAddOffsetsToTxnResponseRow, standIns := [], harness := (true, "50468cd2ac75c6cc93e2eec3337d09d2464f4031b0b6315ccc5ae281ff47f59d"), looks := false }, kinds := [], alts := [], laidByText := true, laidKinds := [.sentinel], laidTests := true, laidLooks := .later }
def FnBehindAddOffsetsToTxnResponseCardSaid : Prop := Claim7.holds Tryd.pinned (.plain (OpenSpec.ofChange fnBehindAddOffsetsToTxnResponseSpec)) fnBehindAddOffsetsToTxnResponseCard

/-- THE TIED CARD OF 'laws.FnBehindExpireDelegationTokenResponse'. -/
def fnBehindExpireDelegationTokenResponseCard : Claim7 := { stood := { row := fnBehindExpireDelegationTokenResponseRow, standIns := [], harness := (true, "50468cd2ac75c6cc93e2eec3337d09d2464f4031b0b6315ccc5ae281ff47f59d"), looks := false }, kinds := [], alts := [], laidByText := true, laidKinds := [.sentinel], laidTests := true, laidLooks := .later }
def FnBehindExpireDelegationTokenResponseCardSaid : Prop := Claim7.holds Tryd.pinned (.plain (OpenSpec.ofChange fnBehindExpireDelegationTokenResponseSpec)) fnBehindExpireDelegationTokenResponseCard

/-- THE TIED CARD OF 'laws.FnBehindRenewDelegationTokenRequest'. -/
def fnBehindRenewDelegationTokenRequestCard : Claim7 := { stood := { row := fnBehindRenewDelegationTokenRequestRow, standIns := [], harness := (true, "50468cd2ac75c6cc93e2eec3337d09d2464f4031b0b6315ccc5ae281ff47f59d"), looks := false }, kinds := [], alts := [], laidByText := true, laidKinds := [.sentinel], laidTests := true, laidLooks := .later }
def FnBehindRenewDelegationTokenRequestCardSaid : Prop := Claim7.holds Tryd.pinned (.plain (OpenSpec.ofChange fnBehindRenewDelegationTokenRequestSpec)) fnBehindRenewDelegationTokenRequestCard

/-- THE TIED CARD OF 'laws.FnBehindEnvelopeRequest'. -/
def fnBehindEnvelopeRequestCard : Claim7 := { stood := { row := fnBehindEnvelopeRequestRow, standIns := [], harness := (true, "50468cd2ac75c6cc93e2eec3337d09d2464f4031b0b6315ccc5ae281ff47f59d"), looks := false }, kinds := [], alts := [], laidByText := true, laidKinds := [.sentinel], laidTests := true, laidLooks := .later }
def FnBehindEnvelopeRequestCardSaid : Prop := Claim7.holds Tryd.pinned (.plain (OpenSpec.ofChange fnBehindEnvelopeRequestSpec)) fnBehindEnvelopeRequestCard

/-- THE SECOND FORM's CARD OF 'laws.FnBehindAddOffsetsToTxnResponse'. -/
def fnBehindAddOffsetsToTxnResponseUptoCard : Claim7 := { stood := { row := fnBehindAddOffsetsToTxnResponseUptoRow, standIns := [], harness := (true, "50468cd2ac75c6cc93e2eec3337d09d2464f4031b0b6315ccc5ae281ff47f59d"), looks := false }, kinds := [], alts := [], laidByText := true, laidKinds := [.sentinel], laidTests := true, laidLooks := .later }
def FnBehindAddOffsetsToTxnResponseUptoCardSaid : Prop := Claim7.holds Tryd.pinned (.plain (OpenSpec.upto fnBehindAddOffsetsToTxnResponseSpec)) fnBehindAddOffsetsToTxnResponseUptoCard

/-- THE SECOND FORM's CARD OF 'laws.FnBehindExpireDelegationTokenResponse'. -/
def fnBehindExpireDelegationTokenResponseUptoCard : Claim7 := { stood := { row := fnBehindExpireDelegationTokenResponseUptoRow, standIns := [], harness := (true, "50468cd2ac75c6cc93e2eec3337d09d2464f4031b0b6315ccc5ae281ff47f59d"), looks := false }, kinds := [], alts := [], laidByText := true, laidKinds := [.sentinel], laidTests := true, laidLooks := .later }
def FnBehindExpireDelegationTokenResponseUptoCardSaid : Prop := Claim7.holds Tryd.pinned (.plain (OpenSpec.upto fnBehindExpireDelegationTokenResponseSpec)) fnBehindExpireDelegationTokenResponseUptoCard

/-- THE SECOND FORM's CARD OF 'laws.FnBehindRenewDelegationTokenRequest'. -/
def fnBehindRenewDelegationTokenRequestUptoCard : Claim7 := { stood := { row := fnBehindRenewDelegationTokenRequestUptoRow, standIns := [], harness := (true, "50468cd2ac75c6cc93e2eec3337d09d2464f4031b0b6315ccc5ae281ff47f59d"), looks := false }, kinds := [], alts := [], laidByText := true, laidKinds := [.sentinel], laidTests := true, laidLooks := .later }
def FnBehindRenewDelegationTokenRequestUptoCardSaid : Prop := Claim7.holds Tryd.pinned (.plain (OpenSpec.upto fnBehindRenewDelegationTokenRequestSpec)) fnBehindRenewDelegationTokenRequestUptoCard

/-- THE SECOND FORM's CARD OF 'laws.FnBehindEnvelopeRequest'. -/
def fnBehindEnvelopeRequestUptoCard : Claim7 := { stood := { row := fnBehindEnvelopeRequestUptoRow, standIns := [], harness := (true, "50468cd2ac75c6cc93e2eec3337d09d2464f4031b0b6315ccc5ae281ff47f59d"), looks := false }, kinds := [], alts := [], laidByText := true, laidKinds := [.sentinel], laidTests := true, laidLooks := .later }
def FnBehindEnvelopeRequestUptoCardSaid : Prop := Claim7.holds Tryd.pinned (.plain (OpenSpec.upto fnBehindEnvelopeRequestSpec)) fnBehindEnvelopeRequestUptoCard
end Rows
end Go.Proofs.YtehjpmchanlebaaDoor
