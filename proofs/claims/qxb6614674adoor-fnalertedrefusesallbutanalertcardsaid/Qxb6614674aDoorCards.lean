/-
  DERIVED. GIVEN WITH THE SEED: THE CARDS: each row of Qxb6614674aDoorRows.lean that lists a variable, with what it lists TIED to the program's text (the seventh form; the later family's looks); each row that meets fmt, with fmt's text TOLD by the authors' own Lean function (tested against real Go, not proved from fmt's source: count such statements apart). THE CARD IS WHAT COUNTS. Prove the row's statement (the work); the ties are given (Qxb6614674aDoorTie.lean); close each card by the builder's one call (the guide's Derived/Test/ToyasCard.lean, 'card_holds'). Laid BY PROGRAM, IN A SANDBOX (cutbox-door.mjs). By AI agents, Wed Nov 11 2026. No macro, syntax, notation, axiom, sorry.
-/
import Derived.Test.Qxb6614674aDoorRows
import GoSem.ClaimSeven
namespace Go.Proofs.Qxb6614674aDoor
namespace Rows

/-- THE TIED CARD OF 'zzlaws_internal_api_b1.FnAlertedFirstOpErrorDecides'. -/
def fnAlertedFirstOpErrorDecidesCard : Claim7 := { stood := { row := fnAlertedFirstOpErrorDecidesRow, standIns := [], harness := (true, "b991cb993861673db87445f7f7cc17a2995bc5adc40043a8af44eba828ca30a5"), looks := true }, kinds := [], alts := [], laidByText := true, laidKinds := [.handle], laidTests := true, laidLooks := .later }
def FnAlertedFirstOpErrorDecidesCardSaid : Prop := Claim7.holds Tryd.pinned (.plain (OpenSpec.ofChange fnAlertedFirstOpErrorDecidesSpec)) fnAlertedFirstOpErrorDecidesCard

/-- THE TIED CARD OF 'zzlaws_internal_api_b1.FnAlertedRefusesAllButAnAlert'. -/
def fnAlertedRefusesAllButAnAlertCard : Claim7 := { stood := { row := fnAlertedRefusesAllButAnAlertRow, standIns := [], harness := (true, "b991cb993861673db87445f7f7cc17a2995bc5adc40043a8af44eba828ca30a5"), looks := true }, kinds := [], alts := [], laidByText := true, laidKinds := [.handle], laidTests := true, laidLooks := .later }
def FnAlertedRefusesAllButAnAlertCardSaid : Prop := Claim7.holds Tryd.pinned (.plain (OpenSpec.ofChange fnAlertedRefusesAllButAnAlertSpec)) fnAlertedRefusesAllButAnAlertCard
end Rows
end Go.Proofs.Qxb6614674aDoor
