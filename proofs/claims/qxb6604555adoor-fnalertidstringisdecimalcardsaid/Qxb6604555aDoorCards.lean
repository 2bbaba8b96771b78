/-
  DERIVED. GIVEN WITH THE SEED: THE CARDS: each row of Qxb6604555aDoorRows.lean that lists a variable, with what it lists TIED to the program's text (the seventh form; the later family's looks); each row that meets fmt, with fmt's text TOLD by the authors' own Lean function (tested against real Go, not proved from fmt's source: count such statements apart). THE CARD IS WHAT COUNTS. Prove the row's statement (the work); the ties are given (Qxb6604555aDoorTie.lean); close each card by the builder's one call (the guide's Derived/Test/ToyasCard.lean, 'card_holds'). Laid BY PROGRAM, IN A SANDBOX (cutbox-door.mjs). By AI agents, Wed Nov 11 2026. No macro, syntax, notation, axiom, sorry.
-/
import Derived.Test.Qxb6604555aDoorRows
import GoSem.ClaimSeven
namespace Go.Proofs.Qxb6604555aDoor
namespace Rows

/-- THE TIED CARD OF 'zzlaws_pkg_engine_b1.FnAlertIDStringIsDecimal'. -/
def fnAlertIDStringIsDecimalCard : Claim7 := { stood := { row := fnAlertIDStringIsDecimalRow, standIns := [], harness := (true, "b4b511d021939c58ac3f6c5298bdb780e9096def9e0ea2298d7b274e16da5b40"), looks := false }, kinds := [], alts := [], laidByText := true, laidKinds := [.data, .data, .data], laidTests := true, laidLooks := .later }
def FnAlertIDStringIsDecimalCardSaid : Prop := Claim7.holds Tryd.pinned (.plain (OpenSpec.ofChange fnAlertIDStringIsDecimalSpec)) fnAlertIDStringIsDecimalCard

/-- THE TIED CARD OF 'zzlaws_pkg_engine_b1.FnAlertIDStringParsesBack'. -/
def fnAlertIDStringParsesBackCard : Claim7 := { stood := { row := fnAlertIDStringParsesBackRow, standIns := [], harness := (true, "b4b511d021939c58ac3f6c5298bdb780e9096def9e0ea2298d7b274e16da5b40"), looks := false }, kinds := [], alts := [], laidByText := true, laidKinds := [.data, .data, .data], laidTests := true, laidLooks := .later }
def FnAlertIDStringParsesBackCardSaid : Prop := Claim7.holds Tryd.pinned (.plain (OpenSpec.ofChange fnAlertIDStringParsesBackSpec)) fnAlertIDStringParsesBackCard
end Rows
end Go.Proofs.Qxb6604555aDoor
