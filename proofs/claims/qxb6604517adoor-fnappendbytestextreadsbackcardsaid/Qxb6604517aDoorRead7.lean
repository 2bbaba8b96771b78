import Derived.Test.Qxb6604517aDoorRead6
namespace Go.Proofs.Qxb6604517aDoor
open Go.RowKit

set_option maxHeartbeats 1600000 in
set_option maxRecDepth 100000 in
/-- parseWords of the empty text. -/
theorem pwords_none (w : World) (a : Option Addr) (cap : Nat) (dot : Bool) :
    Calls Tryd.prog 24 #[.slice a 0 cap, .bool dot] w fun e w' => e = .returned (.tuple #[aggW (fun _ => 0), .int .i64 0, .bool true]) ∧ Below w.heap.size w w' := by
  obtain ⟨f, hf⟩ : ∃ f : Nat → Int, f = fun _ => 0 := ⟨_, rfl⟩
  have hf0 : ∀ k, f k = 0 := fun k => by rw [hf]
  have hG : BN 49 8 .u16 f (w.heap.size + 1) 0 ((w.alloc (.cells #[.int .u16 0, .int .u16 0, .int .u16 0, .int .u16 0, .int .u16 0, .int .u16 0, .int .u16 0, .int .u16 0] 49)).alloc (.cells #[.int .u16 0, .int .u16 0, .int .u16 0, .int .u16 0, .int .u16 0, .int .u16 0, .int .u16 0, .int .u16 0] 49)) := by
    have h := BN.fresh (ty := 49) (n := 8) (q := .u16) (f := f) (w.alloc (.cells #[.int .u16 0, .int .u16 0, .int .u16 0, .int .u16 0, .int .u16 0, .int .u16 0, .int .u16 0, .int .u16 0] 49)) #[.int .u16 0, .int .u16 0, .int .u16 0, .int .u16 0, .int .u16 0, .int .u16 0, .int .u16 0, .int .u16 0] rfl eight
    simpa using h
  have hZ : BN 49 8 .u16 f w.heap.size 0 ((w.alloc (.cells #[.int .u16 0, .int .u16 0, .int .u16 0, .int .u16 0, .int .u16 0, .int .u16 0, .int .u16 0, .int .u16 0] 49)).alloc (.cells #[.int .u16 0, .int .u16 0, .int .u16 0, .int .u16 0, .int .u16 0, .int .u16 0, .int .u16 0, .int .u16 0] 49)) := (BN.fresh (n := 8) (q := .u16) w #[.int .u16 0, .int .u16 0, .int .u16 0, .int .u16 0, .int .u16 0, .int .u16 0, .int .u16 0, .int .u16 0] rfl eight).alloc _
  have HB := Lib.hid (show Below w.heap.size w ((w.alloc (.cells #[.int .u16 0, .int .u16 0, .int .u16 0, .int .u16 0, .int .u16 0, .int .u16 0, .int .u16 0, .int .u16 0] 49)).alloc (.cells #[.int .u16 0, .int .u16 0, .int .u16 0, .int .u16 0, .int .u16 0, .int .u16 0, .int .u16 0, .int .u16 0] 49)) from ((Below.refl _ _).alloc (Nat.le_refl _) _).alloc (by simp) _)
  have g0 := hG.zero 0 (by omega) (by omega)
  have g1 := hG.zero 1 (by omega) (by omega)
  have g2 := hG.zero 2 (by omega) (by omega)
  have g3 := hG.zero 3 (by omega) (by omega)
  have g4 := hG.zero 4 (by omega) (by omega)
  have g5 := hG.zero 5 (by omega) (by omega)
  have g6 := hG.zero 6 (by omega) (by omega)
  have g7 := hG.zero 7 (by omega) (by omega)
  have z0 := hZ.zero 0 (by omega) (by omega)
  have z1 := hZ.zero 1 (by omega) (by omega)
  have z2 := hZ.zero 2 (by omega) (by omega)
  have z3 := hZ.zero 3 (by omega) (by omega)
  have z4 := hZ.zero 4 (by omega) (by omega)
  have z5 := hZ.zero 5 (by omega) (by omega)
  have z6 := hZ.zero 6 (by omega) (by omega)
  have z7 := hZ.zero 7 (by omega) (by omega)
  have f0 := hZ.free 0
  have f1 := hZ.free 1
  have f2 := hZ.free 2
  have f3 := hZ.free 3
  have f4 := hZ.free 4
  have f5 := hZ.free 5
  have f6 := hZ.free 6
  have f7 := hZ.free 7
  rw [← hf]
  clear hG hZ hf
  go_enter Tryd.func24, Tryd.ntmps24
  go_wp2
  exact bodyPost_ret (v := .tuple #[aggW f, .int .i64 0, .bool true]) (by simp [results, Tryd.results24, go_sem, aggW, hf0]) rfl ⟨rfl, HB.out⟩
end Go.Proofs.Qxb6604517aDoor
