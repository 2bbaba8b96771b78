/-
  DERIVED. GIVEN WITH THE SEED: THE CARDS: each row of Qxb6602894aDoorRows.lean that lists a variable, with what it lists TIED to the program's text (the seventh form; the later family's looks); each row that meets fmt, with fmt's text TOLD by the authors' own Lean function (tested against real Go, not proved from fmt's source: count such statements apart). THE CARD IS WHAT COUNTS. Prove the row's statement (the work); the ties are given (Qxb6602894aDoorTie.lean); close each card by the builder's one call (the guide's Derived/Test/ToyasCard.lean, 'card_holds'). Laid BY PROGRAM, IN A SANDBOX (cutbox-door.mjs). By AI agents, Wed Nov 11 2026. No macro, syntax, notation, axiom, sorry.
-/
import Derived.Test.Qxb6602894aDoorRows
import GoSem.ClaimSeven
namespace Go.Proofs.Qxb6602894aDoor
namespace Rows

/-- THE TIED CARD OF 'zzlaws_root_b1.FnAppendFixedMatchesModel'. -/
def fnAppendFixedMatchesModelCard : Claim7 := { stood := { row := fnAppendFixedMatchesModelRow, standIns := [], harness := (true, "1301e32bad3e2a1487750cf93f38fd7b842ecc225bde35ee53cdd859e830ef19"), looks := false }, kinds := [], alts := [], laidByText := true, laidKinds := [.data, .data, .data], laidTests := true, laidLooks := .later }
def FnAppendFixedMatchesModelCardSaid : Prop := Claim7.holds Tryd.pinned (.plain (OpenSpec.ofChange fnAppendFixedMatchesModelSpec)) fnAppendFixedMatchesModelCard

/-- THE TIED CARD OF 'zzlaws_root_b1.FnAppendFixedReadsBack'. -/
def fnAppendFixedReadsBackCard : Claim7 := { stood := { row := fnAppendFixedReadsBackRow, standIns := [], harness := (true, "1301e32bad3e2a1487750cf93f38fd7b842ecc225bde35ee53cdd859e830ef19"), looks := false }, kinds := [], alts := [], laidByText := true, laidKinds := [.data, .data, .data], laidTests := true, laidLooks := .later }
def FnAppendFixedReadsBackCardSaid : Prop := Claim7.holds Tryd.pinned (.plain (OpenSpec.ofChange fnAppendFixedReadsBackSpec)) fnAppendFixedReadsBackCard
end Rows
end Go.Proofs.Qxb6602894aDoor
