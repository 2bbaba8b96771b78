import Derived.Test.Qxb6604517aDoorNetFrom4
namespace Go.Proofs.Qxb6604517aDoor
open Go.RowKit

theorem at29 (b o cap : Nat) (W : World) : (Instr.arrayAt 29 (.slice (some ⟨b, o, none⟩) 4 cap)).run Tryd.prog W = .ok (.pointer (some ⟨b, o, none⟩)) W := by kernel_rfl
theorem at32 (b o cap : Nat) (W : World) : (Instr.arrayAt 32 (.slice (some ⟨b, o, none⟩) 16 cap)).run Tryd.prog W = .ok (.pointer (some ⟨b, o, none⟩)) W := by kernel_rfl

set_option maxRecDepth 100000 in
set_option maxHeartbeats 1600000 in
theorem slice4_any (B : Nat) (a4 a6 : Addr) (p q r s : UInt8) (b o cap : Nat) (w : World) (hz : Zs B w a4 a6) (hB : B ≤ w.heap.size) (hb : b < w.heap.size)
    (c0 : w.cell? ⟨b, o, none⟩ = some (.int .u8 (p.toNat : Int))) (c1 : w.cell? ⟨b, o + 1, none⟩ = some (.int .u8 (q.toNat : Int))) (c2 : w.cell? ⟨b, o + 2, none⟩ = some (.int .u8 (r.toNat : Int))) (c3 : w.cell? ⟨b, o + 3, none⟩ = some (.int .u8 (s.toNat : Int))) :
    Calls Tryd.prog 28 #[.slice (some ⟨b, o, none⟩) 4 cap] w fun e w' => e = .returned (.tuple #[.agg #[.int .u64 0, .int .u64 (lo4 p q r s), .pointer (some a4)], .bool true]) ∧ Below w.heap.size w w' := by
  have hb' : b < w.heap.size + 1 := by omega
  have hat := fun W => at29 b o cap W
  go_enter Tryd.func28, Tryd.ntmps28
  go_wp2_with fail
  refine (from4_any B a4 a6 p q r s _ (hz.alloc hB _)).mono ?_
  rintro e w1 ⟨rfl, b1⟩
  have K1 : w1.heap[w.heap.size]? = some (.cells #[.int .u64 0, .int .u64 0, .pointer none] 64 (0, 0)) := by
    rw [b1.block _ (by simp)]; exact heap_alloc_new w _
  obtain ⟨p0, p1, p2⟩ := box_cells K1
  have f2 : ∀ j, w1.frozen? ⟨w.heap.size, j, none⟩ = false := fun j => by simp [World.frozen?, K1]
  have HBL := Lib.hid (((Below.refl w.heap.size w).alloc (Nat.le_refl _) (.cells #[.int .u64 0, .int .u64 0, .pointer none] 64)).trans (b1.mono (by simp)))
  clear b1 K1 hz hB hat
  go_wp2
  refine bodyPost_ret (v := .tuple #[.agg #[.int .u64 0, .int .u64 (lo4 p q r s), .pointer (some a4)], .bool true]) (by simp [results, Tryd.results28, go_sem, p0, p1, p2]) rfl ⟨rfl, ?_⟩
  exact ((HBL.out.setCell (Nat.le_refl _) _).setCell (Nat.le_refl _) _).setCell (Nat.le_refl _) _

set_option maxRecDepth 100000 in
set_option maxHeartbeats 3200000 in
theorem slice16_any (B : Nat) (a4 a6 : Addr) (x0 x1 x2 x3 x4 x5 x6 x7 x8 x9 x10 x11 x12 x13 x14 x15 : UInt8) (b o cap : Nat) (w : World) (hz : Zs B w a4 a6) (hB : B ≤ w.heap.size) (hb : b < w.heap.size)
    (c0 : w.cell? ⟨b, o, none⟩ = some (.int .u8 (x0.toNat : Int))) (c1 : w.cell? ⟨b, o + 1, none⟩ = some (.int .u8 (x1.toNat : Int))) (c2 : w.cell? ⟨b, o + 2, none⟩ = some (.int .u8 (x2.toNat : Int))) (c3 : w.cell? ⟨b, o + 3, none⟩ = some (.int .u8 (x3.toNat : Int))) (c4 : w.cell? ⟨b, o + 4, none⟩ = some (.int .u8 (x4.toNat : Int))) (c5 : w.cell? ⟨b, o + 5, none⟩ = some (.int .u8 (x5.toNat : Int))) (c6 : w.cell? ⟨b, o + 6, none⟩ = some (.int .u8 (x6.toNat : Int))) (c7 : w.cell? ⟨b, o + 7, none⟩ = some (.int .u8 (x7.toNat : Int))) (c8 : w.cell? ⟨b, o + 8, none⟩ = some (.int .u8 (x8.toNat : Int))) (c9 : w.cell? ⟨b, o + 9, none⟩ = some (.int .u8 (x9.toNat : Int))) (c10 : w.cell? ⟨b, o + 10, none⟩ = some (.int .u8 (x10.toNat : Int))) (c11 : w.cell? ⟨b, o + 11, none⟩ = some (.int .u8 (x11.toNat : Int))) (c12 : w.cell? ⟨b, o + 12, none⟩ = some (.int .u8 (x12.toNat : Int))) (c13 : w.cell? ⟨b, o + 13, none⟩ = some (.int .u8 (x13.toNat : Int))) (c14 : w.cell? ⟨b, o + 14, none⟩ = some (.int .u8 (x14.toNat : Int))) (c15 : w.cell? ⟨b, o + 15, none⟩ = some (.int .u8 (x15.toNat : Int))) :
    Calls Tryd.prog 28 #[.slice (some ⟨b, o, none⟩) 16 cap] w fun e w' => e = .returned (.tuple #[.agg #[.int .u64 (be8 x0 x1 x2 x3 x4 x5 x6 x7), .int .u64 (be8 x8 x9 x10 x11 x12 x13 x14 x15), .pointer (some a6)], .bool true]) ∧ Below w.heap.size w w' := by
  have hb' : b < w.heap.size + 1 := by omega
  have hat := fun W => at32 b o cap W
  have hf := fun (W : World) (h : Zs B W a4 a6) => from16_any B a4 a6 x0 x1 x2 x3 x4 x5 x6 x7 x8 x9 x10 x11 x12 x13 x14 x15 W h
  obtain ⟨A, hA⟩ : ∃ A, A = be8 x0 x1 x2 x3 x4 x5 x6 x7 := ⟨_, rfl⟩
  obtain ⟨C, hC⟩ : ∃ C, C = be8 x8 x9 x10 x11 x12 x13 x14 x15 := ⟨_, rfl⟩
  rw [← hA, ← hC]
  rw [← hA, ← hC] at hf
  have HF := Lib.hid hf
  clear hA hC hf
  go_enter Tryd.func28, Tryd.ntmps28
  go_wp2_with fail
  refine (HF.out _ (hz.alloc hB _)).mono ?_
  clear c0 c1 c2 c3 c4 c5 c6 c7 c8 c9 c10 c11 c12 c13 c14 c15
  rintro e w1 ⟨rfl, b1⟩
  have K1 : w1.heap[w.heap.size]? = some (.cells #[.int .u64 0, .int .u64 0, .pointer none] 64 (0, 0)) := by
    rw [b1.block _ (by simp)]; exact heap_alloc_new w _
  obtain ⟨p0, p1, p2⟩ := box_cells K1
  have f2 : ∀ j, w1.frozen? ⟨w.heap.size, j, none⟩ = false := fun j => by simp [World.frozen?, K1]
  have HBL := Lib.hid (((Below.refl w.heap.size w).alloc (Nat.le_refl _) (.cells #[.int .u64 0, .int .u64 0, .pointer none] 64)).trans (b1.mono (by simp)))
  clear b1 K1 hz hB hat
  go_wp2
  refine bodyPost_ret (v := .tuple #[.agg #[.int .u64 A, .int .u64 C, .pointer (some a6)], .bool true]) (by simp [results, Tryd.results28, go_sem, p0, p1, p2]) rfl ⟨rfl, ?_⟩
  exact ((HBL.out.setCell (Nat.le_refl _) _).setCell (Nat.le_refl _) _).setCell (Nat.le_refl _) _

set_option maxHeartbeats 800000 in
theorem sliceNo_any (a : Option Addr) (n cap : Nat) (w : World) (h4 : n ≠ 4) (h16 : n ≠ 16) :
    Calls Tryd.prog 28 #[.slice a n cap] w fun e w' => e = .returned (.tuple #[.agg #[.int .u64 0, .int .u64 0, .pointer none], .bool false]) ∧ Below w.heap.size w w' := by
  have g4 : ((n : Int) == 4) = false := beq_eq_false_iff_ne.2 (by omega)
  have g16 : ((n : Int) == 16) = false := beq_eq_false_iff_ne.2 (by omega)
  go_enter Tryd.func28, Tryd.ntmps28
  go_wp2
  refine bodyPost_ret (v := .tuple #[.agg #[.int .u64 0, .int .u64 0, .pointer none], .bool false]) (by simp [results, Tryd.results28, go_sem]) rfl ⟨rfl, ?_⟩
  repeat (first | exact Below.refl _ _ | refine Below.setCell ?_ (by simp) _ | refine Below.alloc ?_ (by simp) _)
end Go.Proofs.Qxb6604517aDoor
