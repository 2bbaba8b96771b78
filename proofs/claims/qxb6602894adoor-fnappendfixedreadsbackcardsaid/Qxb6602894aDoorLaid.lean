import Derived.Test.Qxb6602894aDoorLaw3
import Derived.LaidMore
import Derived.Stop.Joined
import Derived.Stop.LaidErr
import Derived.Test.Qxb6602894aDoorTie
import Derived.Test.Qxb6602894aDoorCards
namespace Go.Proofs.Qxb6602894aDoor
open Go.ChangeShapes Go.WideShapes Go.ChangeAt Go.WideMaps Go.WideElems Go.RowKit

theorem own : ownKnob Tryd.prog.godebug = none := by kernel_rfl
theorem laidOut : laidOutB Tryd.prog = true := by kernel_rfl

theorem gPow : Tryd.prog.globalNamed powName = some 0 := by kernel_rfl
theorem tPow : (Tryd.prog.globals[0]?).map (·.type) = some 42 := by kernel_rfl
theorem cells23 : Tryd.prog.cellsOf 23 = 1 := by kernel_rfl
theorem cells42 : Tryd.prog.cellsOf 42 = 20 := by kernel_rfl
theorem powData : (Rows.laid_internal_strconv_uint64pow10 : DataW Unit) = Lib.tabData .u64 Lib.pow10Tab := by kernel_rfl

theorem pow_of_laid {W : World} (h : laidMetH Tryd.prog Rows.fnAppendFixedMatchesModelRow.laid W) : Lib.TabIs Tryd.prog W powName .u64 Lib.pow10Tab := by
  rw [MakeChecks.laidMetH_plain _ _ _ (by kernel_rfl)] at h
  have h2 : laidMet Tryd.prog [(powName, Rows.laid_internal_strconv_uint64pow10)] W := h.tail.tail
  rw [powData] at h2
  exact Lib.tabIs_of_head gPow tPow Tryd.underlying42 Tryd.underlying23 cells23 cells42 h2

theorem door_met (os : Os) (args : Array Value) : laidMetH Tryd.prog Rows.fnAppendFixedMatchesModelRow.laid ((World.doorLaid Tryd.prog 400 os).forCall (fun _ _ => 0) ⟨#[], args, []⟩).memory :=
  laidMetH_of_parts3 (fuel := 8) (laidMet_of_run' 8 (by kernel_rfl) (by kernel_rfl)) (by kernel_rfl) (by kernel_rfl)

section
variable {H : Type} {enc : TypeId × Value → H} {P : Program} {w : World} {base : Nat} {spare : Nat → Bool} {held : Bool}
theorem trodAll_five {t0 t1 t2 t3 t4 : TypeId} {args : Array Value} {ds : List (DataW H)} {ps : List MemPlace} (h : DataW.TrodAll enc P w base spare held [t0, t1, t2, t3, t4] args.toList ds ps) :
    ∃ v0 v1 v2 v3 v4 d0 d1 d2 d3 d4 p0 p1 p2 p3 p4, args = #[v0, v1, v2, v3, v4] ∧ ds = [d0, d1, d2, d3, d4] ∧ ps = p0 ++ (p1 ++ (p2 ++ (p3 ++ p4))) ∧ DataW.Trod enc P w base spare held t0 v0 d0 p0 ∧ DataW.Trod enc P w base spare held t1 v1 d1 p1 ∧ DataW.Trod enc P w base spare held t2 v2 d2 p2 ∧ DataW.Trod enc P w base spare held t3 v3 d3 p3 ∧ DataW.Trod enc P w base spare held t4 v4 d4 p4 := by
  obtain ⟨v0, r0, d0, e0, p0, q0, h0, rfl, rfl, k0, h⟩ := trodAll_cons h
  obtain ⟨v1, r1, d1, e1, p1, q1, rfl, rfl, rfl, k1, h⟩ := trodAll_cons h
  obtain ⟨v2, r2, d2, e2, p2, q2, rfl, rfl, rfl, k2, h⟩ := trodAll_cons h
  obtain ⟨v3, r3, d3, e3, p3, q3, rfl, rfl, rfl, k3, h⟩ := trodAll_cons h
  obtain ⟨v4, r4, d4, e4, p4, q4, rfl, rfl, rfl, k4, h⟩ := trodAll_cons h
  obtain ⟨rfl, rfl, rfl⟩ := trodAll_nil h
  refine ⟨v0, v1, v2, v3, v4, d0, d1, d2, d3, d4, p0, p1, p2, p3, p4, ?_, rfl, by simp, k0, k1, k2, k3, k4⟩
  cases args
  simp at h0
  rw [h0]

theorem trodAll_mk5 {t0 t1 t2 t3 t4 : TypeId} {v0 v1 v2 v3 v4 : Value} {d0 d1 d2 d3 d4 : DataW H} {p0 p1 p2 p3 p4 : List MemPlace}
    (k0 : DataW.Trod enc P w base spare held t0 v0 d0 p0) (k1 : DataW.Trod enc P w base spare held t1 v1 d1 p1) (k2 : DataW.Trod enc P w base spare held t2 v2 d2 p2) (k3 : DataW.Trod enc P w base spare held t3 v3 d3 p3) (k4 : DataW.Trod enc P w base spare held t4 v4 d4 p4) :
    DataW.TrodAll enc P w base spare held [t0, t1, t2, t3, t4] [v0, v1, v2, v3, v4] [d0, d1, d2, d3, d4] (p0 ++ (p1 ++ (p2 ++ (p3 ++ p4)))) :=
  trodAll_cons_mk k0 (trodAll_cons_mk k1 (trodAll_cons_mk k2 (trodAll_cons_mk k3 (trodAll_mk1 k4))))
end
end Go.Proofs.Qxb6602894aDoor
