import Derived.Test.Qxb6604555aDoorRows
import Derived.Test.Qxb6604555aDoorStr
import Derived.ProofKit
import Derived.LaidMore
import Derived.OpenShut
import Derived.Stop.Joined
import Derived.Stop.LaidErr
import Derived.Lib.ItoaMem
import Derived.Test.Qxb6604555aDoorTie
import Derived.Test.Qxb6604555aDoorCards
namespace Go.Proofs.Qxb6604555aDoor
open Go.ChangeShapes Go.WideShapes Go.ChangeAt Go.WideMaps Go.WideElems Go.RowKit

theorem own : ownKnob Tryd.prog.godebug = none := by kernel_rfl

theorem gPow : Tryd.prog.globalNamed powName = some 0 := by kernel_rfl
theorem tPow : (Tryd.prog.globals[0]?).map (·.type) = some 36 := by kernel_rfl
theorem cells26 : Tryd.prog.cellsOf 26 = 1 := by kernel_rfl
theorem cells36 : Tryd.prog.cellsOf 36 = 20 := by kernel_rfl
theorem powData : (Rows.laid_internal_strconv_uint64pow10 : DataW Unit) = Lib.tabData .u64 Lib.pow10Tab := by kernel_rfl

theorem pow_of_laid {W : World} (h : laidMetH Tryd.prog Rows.fnAlertIDStringParsesBackRow.laid W) : Lib.TabIs Tryd.prog W powName .u64 Lib.pow10Tab := by
  rw [MakeChecks.laidMetH_plain _ _ _ (by kernel_rfl)] at h
  have h2 : laidMet Tryd.prog [(powName, Rows.laid_internal_strconv_uint64pow10)] W := h.tail.tail
  rw [powData] at h2
  exact Lib.tabIs_of_head gPow tPow Tryd.underlying36 Tryd.underlying26 cells26 cells36 h2

theorem door_met (os : Os) (args : Array Value) : laidMetH Tryd.prog Rows.fnAlertIDStringParsesBackRow.laid ((World.doorLaid Tryd.prog 400 os).forCall (fun _ _ => 0) ⟨#[], args, []⟩).memory :=
  laidMetH_of_parts3 (fuel := 8) (laidMet_of_run' 8 (by kernel_rfl) (by kernel_rfl)) (by kernel_rfl) (by kernel_rfl)

end Go.Proofs.Qxb6604555aDoor
