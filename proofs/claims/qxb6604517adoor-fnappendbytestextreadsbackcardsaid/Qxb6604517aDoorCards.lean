/-
  DERIVED. GIVEN WITH THE SEED: THE CARDS: each row of Qxb6604517aDoorRows.lean that lists a variable, with what it lists TIED to the program's text (the seventh form; the later family's looks); each row that meets fmt, with fmt's text TOLD by the authors' own Lean function (tested against real Go, not proved from fmt's source: count such statements apart). THE CARD IS WHAT COUNTS. Prove the row's statement (the work); the ties are given (Qxb6604517aDoorTie.lean); close each card by the builder's one call (the guide's Derived/Test/ToyasCard.lean, 'card_holds'). Laid BY PROGRAM, IN A SANDBOX (cutbox-door.mjs). By AI agents, Wed Nov 11 2026. No macro, syntax, notation, axiom, sorry.
-/
import Derived.Test.Qxb6604517aDoorRows
import GoSem.ClaimSeven
namespace Go.Proofs.Qxb6604517aDoor
namespace Rows

/-- THE TIED CARD OF 'zzlaws_report_b1.FnAppendBytesMatchesNotationModel'. -/
def fnAppendBytesMatchesNotationModelCard : Claim7 := { stood := { row := fnAppendBytesMatchesNotationModelRow, standIns := [], harness := (true, "83deb8870f34764c145025ed0ba23604ab8144403d20bb884dfad5dad7ed0501"), looks := false }, kinds := [], alts := [], laidByText := true, laidKinds := [.data, .data, .data, .called, .called, .zero], laidTests := true, laidLooks := .later }
def FnAppendBytesMatchesNotationModelCardSaid : Prop := Claim7.holds Tryd.pinned (.plain (OpenSpec.ofChange fnAppendBytesMatchesNotationModelSpec)) fnAppendBytesMatchesNotationModelCard

/-- THE TIED CARD OF 'zzlaws_report_b1.FnAppendBytesTextReadsBack'. -/
def fnAppendBytesTextReadsBackCard : Claim7 := { stood := { row := fnAppendBytesTextReadsBackRow, standIns := [], harness := (true, "83deb8870f34764c145025ed0ba23604ab8144403d20bb884dfad5dad7ed0501"), looks := false }, kinds := [], alts := [], laidByText := true, laidKinds := [.data, .data, .data, .called, .called, .zero], laidTests := true, laidLooks := .later }
def FnAppendBytesTextReadsBackCardSaid : Prop := Claim7.holds Tryd.pinned (.plain (OpenSpec.ofChange fnAppendBytesTextReadsBackSpec)) fnAppendBytesTextReadsBackCard
end Rows
end Go.Proofs.Qxb6604517aDoor
