import Derived.Test.Qxb6604555aDoorRows
import Derived.Test.Qxb6604555aDoorShelf
import Derived.WalkKit
namespace Go.Proofs.Qxb6604555aDoor
open Go.RowKit

/-- The name of the library's table of powers of ten, as the row spells it. -/
def powName : String := Rows.fnAlertIDStringParsesBackRow.named.headD ""

/-- What the walks ask of the method String. -/
def StrSaid : Prop := ∀ (n : Int) (w : World), -9223372036854775808 ≤ n → n ≤ 9223372036854775807 → Lib.TabIs Tryd.prog w powName .u64 Lib.pow10Tab →
  Calls Tryd.prog 5 #[.int .i64 n] w fun e w' => ∃ s : ByteArray, e = .returned (.string s) ∧ s.data.toList = Lib.itoa n ∧ Below w.heap.size w w'

theorem below_grow (w : World) (k : Nat) (os : Array Obj) : Below w.heap.size w (Sort.grow (w.drewN k) os) :=
  ⟨rfl, rfl, rfl, by simp [Sort.grow], fun i hi => by
    show (w.heap ++ os)[i]? = _
    rw [Array.getElem?_append_left hi]⟩

theorem itoa7 (n : Int) (h0 : -9223372036854775808 ≤ n) (h1 : n ≤ 9223372036854775807) (w : World) (htab : Lib.TabIs Tryd.prog w powName .u64 Lib.pow10Tab) :
    Calls Tryd.prog 7 #[.int .i64 n] w fun e w' => e = .returned (.string ⟨(Lib.itoa n).toArray⟩) ∧ Below w.heap.size w w' :=
  (Any.strconv_Itoa Tryd.laysM171 n h0 h1 w htab).mono fun _ _ ⟨he, k, os, hw⟩ => ⟨he, hw ▸ below_grow w k os⟩

theorem str_said : StrSaid := by
  intro n w h0 h1 htab
  go_enter Tryd.func5, Tryd.ntmps5
  go_wp2_with (go_at_call 7; refine (itoa7 n h0 h1 _ htab).mono ?_; rintro e w' ⟨rfl, hb⟩)
  go_ret
  exact ⟨_, rfl, rfl, hb⟩
end Go.Proofs.Qxb6604555aDoor
