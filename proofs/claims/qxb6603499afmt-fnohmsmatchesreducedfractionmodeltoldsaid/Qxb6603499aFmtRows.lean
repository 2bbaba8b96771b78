/-
  No cell of these rows narrows 'for every input' (looked for: loops, veiled, ifaces, maps, wideKeys, modest, calm, conditions, laid).
  DERIVED. THE GIVEN ROWS OF THIS SEAT. 2 by the template 'for every input the law returns true; each argument reads behind the call as it read before'; 0 by the template 'total and deterministic' (their statements: Qxb6603499aFmtTotals.lean).
  GIVEN WITH THE SEED: the statements are not yours to turn. If you find one false, say at which input.
  Laid BY PROGRAM, IN A SANDBOX (cutbox-rows.mjs): the forced cells as the released guide's own fill.sh prints them over the translation 72e58ec6405a26d0… (all of the seat's roots in one cut). By AI agents, Wed Nov 11 2026. No macro, syntax, notation, axiom, sorry.
-/
import Derived.Test.Qxb6603499aFmtChecked
import GoSem.Claim
import GoSem.ClaimJoined
import GoSem.ClaimMapViews
import Derived.JoinedTies
import Derived.KernelRfl
namespace Go.Proofs.Qxb6603499aFmt
/- THE CELL 'sum', in the pinned program and in every row, IS THE sha256 OF THE DUMP (.gsa) THAT Qxb6603499aFmtProg.lean LOADS. Nothing in Lean hashes anything: it is a label: what it is worth is what the hold of that sum in a sandbox is worth. -/
noncomputable def Tryf.pinned : Pinned := { name := "qxb6603499afmt", sum := "72e58ec6405a26d0a927230479a3458db7b07275300f10d07d17437cda8d4452", checked := Tryf.checked }
namespace Rows
def none {H : Type} : Left H := { results := [], args := [] }

/-- 'zzlaws_root_b1.FnOhmsMatchesReducedFractionModel': WHATEVER THE INPUT: true; the input reads as it did. -/
def fnOhmsMatchesReducedFractionModelSpec : ChangeSpec := { name := "fnOhmsMatchesReducedFractionModel", fn := fun _ => fun
  | [d1, d2] => { results := [.lit (.bool true)], args := [d1, d2] }
  | _ => none }
def fnOhmsMatchesReducedFractionModelRow : OpenClaim := { program := "qxb6603499afmt", sum := "72e58ec6405a26d0a927230479a3458db7b07275300f10d07d17437cda8d4452", func := "example.com/steady-rtd/steady-rtd/zzlaws_root_b1.FnOhmsMatchesReducedFractionModel", spec := "fnOhmsMatchesReducedFractionModel", stops := ["fmt.errorf"], inPlace := ["fmt.errorf"], apart := false }
/-- NO THEOREM (fmt's text is open here; it may be false): for the released tool's asking of the row's closed facts alone. THE STATEMENT IS 'FnOhmsMatchesReducedFractionModelToldSaid' (Qxb6603499aFmtCards.lean). -/
def FnOhmsMatchesReducedFractionModelFormAsk : Prop := fnOhmsMatchesReducedFractionModelRow.holds Tryf.pinned (OpenSpec.ofChange fnOhmsMatchesReducedFractionModelSpec)

/-- ITS FALSE NEIGHBOUR: 'it returns false'. Refute it at one input. -/
def fnOhmsMatchesReducedFractionModelWrong : ChangeSpec := { name := "fnOhmsMatchesReducedFractionModel", fn := fun _ => fun
  | [d1, d2] => { results := [.lit (.bool false)], args := [d1, d2] }
  | _ => none }
def FnOhmsMatchesReducedFractionModelWrongFormAsk : Prop := fnOhmsMatchesReducedFractionModelRow.holds Tryf.pinned (OpenSpec.ofChange fnOhmsMatchesReducedFractionModelWrong)

/-- 'zzlaws_root_b1.FnOhmsStepsAndOddness': WHATEVER THE INPUT: true; the input reads as it did. -/
def fnOhmsStepsAndOddnessSpec : ChangeSpec := { name := "fnOhmsStepsAndOddness", fn := fun _ => fun
  | [d1, d2] => { results := [.lit (.bool true)], args := [d1, d2] }
  | _ => none }
def fnOhmsStepsAndOddnessRow : OpenClaim := { program := "qxb6603499afmt", sum := "72e58ec6405a26d0a927230479a3458db7b07275300f10d07d17437cda8d4452", func := "example.com/steady-rtd/steady-rtd/zzlaws_root_b1.FnOhmsStepsAndOddness", spec := "fnOhmsStepsAndOddness", stops := ["fmt.errorf"], inPlace := ["fmt.errorf"], apart := false }
/-- NO THEOREM (fmt's text is open here; it may be false): for the released tool's asking of the row's closed facts alone. THE STATEMENT IS 'FnOhmsStepsAndOddnessToldSaid' (Qxb6603499aFmtCards.lean). -/
def FnOhmsStepsAndOddnessFormAsk : Prop := fnOhmsStepsAndOddnessRow.holds Tryf.pinned (OpenSpec.ofChange fnOhmsStepsAndOddnessSpec)

/-- ITS FALSE NEIGHBOUR: 'it returns false'. Refute it at one input. -/
def fnOhmsStepsAndOddnessWrong : ChangeSpec := { name := "fnOhmsStepsAndOddness", fn := fun _ => fun
  | [d1, d2] => { results := [.lit (.bool false)], args := [d1, d2] }
  | _ => none }
def FnOhmsStepsAndOddnessWrongFormAsk : Prop := fnOhmsStepsAndOddnessRow.holds Tryf.pinned (OpenSpec.ofChange fnOhmsStepsAndOddnessWrong)

end Rows
end Go.Proofs.Qxb6603499aFmt
