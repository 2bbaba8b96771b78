import Derived.Test.Qxb6604517aDoorNetTo6
import Derived.Lib.EndianBits
namespace Go.Proofs.Qxb6604517aDoor
open Go.RowKit

/-- Eight bytes, the greatest first, as a number. -/
def be8 (b0 b1 b2 b3 b4 b5 b6 b7 : UInt8) : Int := (b7.toNat : Int) + (b6.toNat : Int) * 256 + (b5.toNat : Int) * 65536 + (b4.toNat : Int) * 16777216 + (b3.toNat : Int) * 4294967296 + (b2.toNat : Int) * 1099511627776 + (b1.toNat : Int) * 281474976710656 + (b0.toNat : Int) * 72057594037927936

set_option maxHeartbeats 8000000 in
set_option maxRecDepth 100000 in
theorem be64_any (g o c : Nat) (b0 b1 b2 b3 b4 b5 b6 b7 : UInt8) (w : World)
    (c0 : w.cell? ⟨g, o, none⟩ = some (.int .u8 b0.toNat)) (c1 : w.cell? ⟨g, o + 1, none⟩ = some (.int .u8 b1.toNat)) (c2 : w.cell? ⟨g, o + 2, none⟩ = some (.int .u8 b2.toNat)) (c3 : w.cell? ⟨g, o + 3, none⟩ = some (.int .u8 b3.toNat)) (c4 : w.cell? ⟨g, o + 4, none⟩ = some (.int .u8 b4.toNat)) (c5 : w.cell? ⟨g, o + 5, none⟩ = some (.int .u8 b5.toNat)) (c6 : w.cell? ⟨g, o + 6, none⟩ = some (.int .u8 b6.toNat)) (c7 : w.cell? ⟨g, o + 7, none⟩ = some (.int .u8 b7.toNat)) :
    Calls Tryd.prog 40 #[.slice (some ⟨g, o, none⟩) 8 c] w fun e w' => e = .returned (.int .u64 (be8 b0 b1 b2 b3 b4 b5 b6 b7)) ∧ ∃ k, w' = w.drewN k := by
  have h0 : b0.toNat < 256 := b0.toNat_lt
  have h1 : b1.toNat < 256 := b1.toNat_lt
  have h2 : b2.toNat < 256 := b2.toNat_lt
  have h3 : b3.toNat < 256 := b3.toNat_lt
  have h4 : b4.toNat < 256 := b4.toNat_lt
  have h5 : b5.toNat < 256 := b5.toNat_lt
  have h6 : b6.toNat < 256 := b6.toNat_lt
  have h7 : b7.toNat < 256 := b7.toNat_lt
  go_enter Tryd.func40, Tryd.ntmps40
  go_wp2
  go_quiet (fail)
  go_wp2
  go_ret
  refine ⟨?_, _, rfl⟩
  simp (disch := omega) only [u64_or8, u64_or16, u64_or24, u64_or32, u64_or40, u64_or48, u64_or56]
  rfl

/-- A box that holds sixteen bytes. -/
def box16 (x0 x1 x2 x3 x4 x5 x6 x7 x8 x9 x10 x11 x12 x13 x14 x15 : UInt8) : Array Value := #[.int .u8 (x0.toNat : Int), .int .u8 (x1.toNat : Int), .int .u8 (x2.toNat : Int), .int .u8 (x3.toNat : Int), .int .u8 (x4.toNat : Int), .int .u8 (x5.toNat : Int), .int .u8 (x6.toNat : Int), .int .u8 (x7.toNat : Int), .int .u8 (x8.toNat : Int), .int .u8 (x9.toNat : Int), .int .u8 (x10.toNat : Int), .int .u8 (x11.toNat : Int), .int .u8 (x12.toNat : Int), .int .u8 (x13.toNat : Int), .int .u8 (x14.toNat : Int), .int .u8 (x15.toNat : Int)]

theorem box16_cells {w : World} {K : Nat} {x0 x1 x2 x3 x4 x5 x6 x7 x8 x9 x10 x11 x12 x13 x14 x15 : UInt8} (h : w.heap[K]? = some (.cells (box16 x0 x1 x2 x3 x4 x5 x6 x7 x8 x9 x10 x11 x12 x13 x14 x15) 32 (0, 0))) :
    w.cell? ⟨K, 0, none⟩ = some (.int .u8 (x0.toNat : Int)) ∧ w.cell? ⟨K, 1, none⟩ = some (.int .u8 (x1.toNat : Int)) ∧ w.cell? ⟨K, 2, none⟩ = some (.int .u8 (x2.toNat : Int)) ∧ w.cell? ⟨K, 3, none⟩ = some (.int .u8 (x3.toNat : Int)) ∧ w.cell? ⟨K, 4, none⟩ = some (.int .u8 (x4.toNat : Int)) ∧ w.cell? ⟨K, 5, none⟩ = some (.int .u8 (x5.toNat : Int)) ∧ w.cell? ⟨K, 6, none⟩ = some (.int .u8 (x6.toNat : Int)) ∧ w.cell? ⟨K, 7, none⟩ = some (.int .u8 (x7.toNat : Int)) ∧ w.cell? ⟨K, 8, none⟩ = some (.int .u8 (x8.toNat : Int)) ∧ w.cell? ⟨K, 9, none⟩ = some (.int .u8 (x9.toNat : Int)) ∧ w.cell? ⟨K, 10, none⟩ = some (.int .u8 (x10.toNat : Int)) ∧ w.cell? ⟨K, 11, none⟩ = some (.int .u8 (x11.toNat : Int)) ∧ w.cell? ⟨K, 12, none⟩ = some (.int .u8 (x12.toNat : Int)) ∧ w.cell? ⟨K, 13, none⟩ = some (.int .u8 (x13.toNat : Int)) ∧ w.cell? ⟨K, 14, none⟩ = some (.int .u8 (x14.toNat : Int)) ∧ w.cell? ⟨K, 15, none⟩ = some (.int .u8 (x15.toNat : Int)) := by
  simp [World.cell?, h, box16]

theorem be64_lo (w : World) (K : Nat) (x0 x1 x2 x3 x4 x5 x6 x7 x8 x9 x10 x11 x12 x13 x14 x15 : UInt8) (h : w.heap[K]? = some (.cells (box16 x0 x1 x2 x3 x4 x5 x6 x7 x8 x9 x10 x11 x12 x13 x14 x15) 32 (0, 0))) :
    Calls Tryd.prog 40 #[.slice (some ⟨K, 0, none⟩) 8 16] w fun e w' => e = .returned (.int .u64 (be8 x0 x1 x2 x3 x4 x5 x6 x7)) ∧ ∃ k, w' = w.drewN k := by
  obtain ⟨c0, c1, c2, c3, c4, c5, c6, c7, c8, c9, c10, c11, c12, c13, c14, c15⟩ := box16_cells h
  exact be64_any K 0 16 x0 x1 x2 x3 x4 x5 x6 x7 w c0 c1 c2 c3 c4 c5 c6 c7
theorem be64_hi (w : World) (K : Nat) (x0 x1 x2 x3 x4 x5 x6 x7 x8 x9 x10 x11 x12 x13 x14 x15 : UInt8) (h : w.heap[K]? = some (.cells (box16 x0 x1 x2 x3 x4 x5 x6 x7 x8 x9 x10 x11 x12 x13 x14 x15) 32 (0, 0))) :
    Calls Tryd.prog 40 #[.slice (some ⟨K, 8, none⟩) 8 8] w fun e w' => e = .returned (.int .u64 (be8 x8 x9 x10 x11 x12 x13 x14 x15)) ∧ ∃ k, w' = w.drewN k := by
  obtain ⟨c0, c1, c2, c3, c4, c5, c6, c7, c8, c9, c10, c11, c12, c13, c14, c15⟩ := box16_cells h
  exact be64_any K 8 8 x8 x9 x10 x11 x12 x13 x14 x15 w c8 c9 c10 c11 c12 c13 c14 c15

theorem below_drewN {B : Nat} {a w : World} (h : Below B a w) (k : Nat) : Below B a (w.drewN k) := ⟨h.os, h.tape, h.output, h.size, h.block⟩

set_option maxHeartbeats 1600000 in
theorem from16_any (B : Nat) (a4 a6 : Addr) (x0 x1 x2 x3 x4 x5 x6 x7 x8 x9 x10 x11 x12 x13 x14 x15 : UInt8) (w : World) (hz : Zs B w a4 a6) :
    Calls Tryd.prog 34 #[.agg #[.int .u8 (x0.toNat : Int), .int .u8 (x1.toNat : Int), .int .u8 (x2.toNat : Int), .int .u8 (x3.toNat : Int), .int .u8 (x4.toNat : Int), .int .u8 (x5.toNat : Int), .int .u8 (x6.toNat : Int), .int .u8 (x7.toNat : Int), .int .u8 (x8.toNat : Int), .int .u8 (x9.toNat : Int), .int .u8 (x10.toNat : Int), .int .u8 (x11.toNat : Int), .int .u8 (x12.toNat : Int), .int .u8 (x13.toNat : Int), .int .u8 (x14.toNat : Int), .int .u8 (x15.toNat : Int)]] w fun e w' => e = .returned (.agg #[.int .u64 (be8 x0 x1 x2 x3 x4 x5 x6 x7), .int .u64 (be8 x8 x9 x10 x11 x12 x13 x14 x15), .pointer (some a6)]) ∧ Below w.heap.size w w' := by
  have c6 := hz.c6
  obtain ⟨l0, l1, l2⟩ := hz.lt
  have l2' : 2 < w.heap.size + 1 := by omega
  obtain ⟨A, hA⟩ : ∃ A, A = be8 x0 x1 x2 x3 x4 x5 x6 x7 := ⟨_, rfl⟩
  obtain ⟨C, hC⟩ : ∃ C, C = be8 x8 x9 x10 x11 x12 x13 x14 x15 := ⟨_, rfl⟩
  have hlo : Hid (∀ W : World, W.heap[w.heap.size]? = some (.cells (box16 x0 x1 x2 x3 x4 x5 x6 x7 x8 x9 x10 x11 x12 x13 x14 x15) 32 (0, 0)) → Calls Tryd.prog 40 #[.slice (some ⟨w.heap.size, 0, none⟩) 8 16] W fun e w' => e = .returned (.int .u64 A) ∧ ∃ k, w' = W.drewN k) := fun W h => by
    rw [hA]; exact be64_lo _ _ x0 x1 x2 x3 x4 x5 x6 x7 x8 x9 x10 x11 x12 x13 x14 x15 h
  have hhi : Hid (∀ W : World, W.heap[w.heap.size]? = some (.cells (box16 x0 x1 x2 x3 x4 x5 x6 x7 x8 x9 x10 x11 x12 x13 x14 x15) 32 (0, 0)) → Calls Tryd.prog 40 #[.slice (some ⟨w.heap.size, 8, none⟩) 8 8] W fun e w' => e = .returned (.int .u64 C) ∧ ∃ k, w' = W.drewN k) := fun W h => by
    rw [hC]; exact be64_hi _ _ x0 x1 x2 x3 x4 x5 x6 x7 x8 x9 x10 x11 x12 x13 x14 x15 h
  have hblk : Hid (∀ o, ((w.alloc (.cells (box16 x0 x1 x2 x3 x4 x5 x6 x7 x8 x9 x10 x11 x12 x13 x14 x15) 32)).alloc o).heap[w.heap.size]? = some (.cells (box16 x0 x1 x2 x3 x4 x5 x6 x7 x8 x9 x10 x11 x12 x13 x14 x15) 32 (0, 0))) := fun o => by
    rw [Below.heap_alloc _ _ _ (by simp)]; exact heap_alloc_new w _
  unfold box16 at hlo hhi hblk
  rw [← hA, ← hC]
  clear hA hC hz
  go_enter Tryd.func34, Tryd.ntmps34
  go_wp2
  go_region_with (first | (go_at_call_of 40 (Value.slice (some ⟨w.heap.size, 0, none⟩) 8 16); refine (hlo.out _ ?_).mono ?_; exact hblk.out _; rintro e w' ⟨rfl, k, rfl⟩) | (go_at_call_of 40 (Value.slice (some ⟨w.heap.size, 8, none⟩) 8 8); refine (hhi.out _ ?_).mono ?_; exact hblk.out _; rintro e w' ⟨rfl, k, rfl⟩))
  all_goals
    go_wp2
    refine bodyPost_ret (v := .agg #[.int .u64 A, .int .u64 C, .pointer (some a6)]) (by simp [results, Tryd.results34, go_sem]) rfl ⟨rfl, ?_⟩
    repeat (first | exact Below.refl _ _ | refine Below.setCell ?_ (by simp) _ | refine Below.alloc ?_ (by simp) _ | refine Below.drew ?_ | refine below_drewN ?_ _)
end Go.Proofs.Qxb6604517aDoor
