/-
  DERIVED. GIVEN WITH THE SEED: THE CARDS: each row of Qxb6603499aFmtRows.lean that lists a variable, with what it lists TIED to the program's text (the seventh form; the later family's looks); each row that meets fmt, with fmt's text TOLD by the authors' own Lean function (tested against real Go, not proved from fmt's source: count such statements apart). THE CARD IS WHAT COUNTS. Prove the row's statement (the work); the ties are given (Qxb6603499aFmtTie.lean); close each card by the builder's one call (the guide's Derived/Test/ToyasCard.lean, 'card_holds'). Laid BY PROGRAM, IN A SANDBOX (cutbox-door.mjs). By AI agents, Wed Nov 11 2026. No macro, syntax, notation, axiom, sorry.
-/
import Derived.Test.Qxb6603499aFmtRows
import GoSem.ClaimSeven
namespace Go.Proofs.Qxb6603499aFmt
namespace Rows

/-- THE TOLD CARD OF 'zzlaws_root_b1.FnOhmsMatchesReducedFractionModel'. -/
def fnOhmsMatchesReducedFractionModelCard : Claim7 := { stood := { row := fnOhmsMatchesReducedFractionModelRow, standIns := [], harness := (true, "eef31f77e806c3a25fae63fa16ed516af63a362eba39ce9a3ec8585885650751"), looks := false }, told := true, goes := false }
def FnOhmsMatchesReducedFractionModelToldSaid : Prop := Claim7.holds Tryf.pinned (.plain (OpenSpec.ofChange fnOhmsMatchesReducedFractionModelSpec)) fnOhmsMatchesReducedFractionModelCard
/-- ITS FALSE NEIGHBOUR. Refute it at one input. -/
def FnOhmsMatchesReducedFractionModelToldWrongFalsely : Prop := Claim7.holds Tryf.pinned (.plain (OpenSpec.ofChange fnOhmsMatchesReducedFractionModelWrong)) fnOhmsMatchesReducedFractionModelCard

/-- THE TOLD CARD OF 'zzlaws_root_b1.FnOhmsStepsAndOddness'. -/
def fnOhmsStepsAndOddnessCard : Claim7 := { stood := { row := fnOhmsStepsAndOddnessRow, standIns := [], harness := (true, "eef31f77e806c3a25fae63fa16ed516af63a362eba39ce9a3ec8585885650751"), looks := false }, told := true, goes := false }
def FnOhmsStepsAndOddnessToldSaid : Prop := Claim7.holds Tryf.pinned (.plain (OpenSpec.ofChange fnOhmsStepsAndOddnessSpec)) fnOhmsStepsAndOddnessCard
/-- ITS FALSE NEIGHBOUR. Refute it at one input. -/
def FnOhmsStepsAndOddnessToldWrongFalsely : Prop := Claim7.holds Tryf.pinned (.plain (OpenSpec.ofChange fnOhmsStepsAndOddnessWrong)) fnOhmsStepsAndOddnessCard
end Rows
end Go.Proofs.Qxb6603499aFmt
