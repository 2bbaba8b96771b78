import Derived.Test.Qxb6604517aDoorNetText
import Derived.LaidEqlPtr
namespace Go.Proofs.Qxb6604517aDoor
open Go.RowKit

theorem part60 (p : Option Addr) (w : World) : (Go.part 60 #[.pointer p] 0).run Tryd.prog w = .ok (.pointer p) w := by kernel_rfl
theorem info79 : (Tryd.prog.info? 79).map (fun i => i.size) = some 2 := by kernel_rfl

theorem run_zin (d : Nat) (w : World) (p q : Option Addr) (b : Bool) (h : (Op.equalIn (d + 1) 60 (.pointer p) (.pointer q)).run Tryd.prog w = .ok b w) :
    (Op.equalIn (d + 2) 62 (.agg #[.pointer p]) (.agg #[.pointer q])).run Tryd.prog w = .ok b w := by
  rw [Op.equalIn]
  simp [run_underlying Tryd.underlying62, part60, h]
  cases b <;> rfl

theorem run_zeql (w : World) (p q : Option Addr) (b : Bool) (h : ∀ d, (Op.equalIn (d + 1) 60 (.pointer p) (.pointer q)).run Tryd.prog w = .ok b w) :
    (binOp .eql 62 (.agg #[.pointer p]) (.agg #[.pointer q])).run Tryd.prog w = .ok (.bool b) w := by
  simp only [binOp]
  simp [Op.equal, Op.maxDepth, run_zin 9998 w p q b (h 9998)]
theorem run_zneq (w : World) (p q : Option Addr) (b : Bool) (h : ∀ d, (Op.equalIn (d + 1) 60 (.pointer p) (.pointer q)).run Tryd.prog w = .ok b w) :
    (binOp .neq 62 (.agg #[.pointer p]) (.agg #[.pointer q])).run Tryd.prog w = .ok (.bool !b) w := by
  simp only [binOp]
  simp [Op.equal, Op.maxDepth, run_zin 9998 w p q b (h 9998)]

/-- The three handles of package netip: z0 nil, z4 and z6noz pointers to two cells that differ; their blocks are plain; all of it lies below block B. -/
structure Zs (B : Nat) (w : World) (a4 a6 : Addr) : Prop where
  c0 : w.cell? ⟨0, 0, none⟩ = some (.pointer none)
  c4 : w.cell? ⟨1, 0, none⟩ = some (.pointer (some a4))
  c6 : w.cell? ⟨2, 0, none⟩ = some (.pointer (some a6))
  ne : a4 ≠ a6
  b4 : ∃ c t, w.heap[a4.block]? = some (.cells c t (0, 0))
  b6 : ∃ c t, w.heap[a6.block]? = some (.cells c t (0, 0))
  lt2 : 2 < B
  lt4 : a4.block < B
  lt6 : a6.block < B

theorem Zs.on {B : Nat} {w w' : World} {a4 a6 : Addr} (h : Zs B w a4 a6) (hb : Below B w w') : Zs B w' a4 a6 := by
  obtain ⟨c0, c4, c6, ne, ⟨x4, t4, b4⟩, ⟨x6, t6, b6⟩, l2, l4, l6⟩ := h
  refine ⟨?_, ?_, ?_, ne, ⟨x4, t4, ?_⟩, ⟨x6, t6, ?_⟩, l2, l4, l6⟩
  · rw [hb.cell (p := ⟨0, 0, none⟩) (show 0 < B by omega)]; exact c0
  · rw [hb.cell (p := ⟨1, 0, none⟩) (show 1 < B by omega)]; exact c4
  · rw [hb.cell (p := ⟨2, 0, none⟩) l2]; exact c6
  · rw [hb.block _ l4]; exact b4
  · rw [hb.block _ l6]; exact b6

theorem peq_same (w : World) (a : Addr) (d : Nat) : (Op.equalIn (d + 1) 60 (.pointer (some a)) (.pointer (some a))).run Tryd.prog w = .ok true w := by
  obtain ⟨i, hi, hs⟩ := Option.map_eq_some_iff.1 info79
  simp [Op.equalIn, run_underlying Tryd.underlying60, sizeOf, typeInfo, hi, run_sameAddr_same]
theorem peq_other {w : World} {a b : Addr} (hne : a ≠ b) (ha : ∃ c t, w.heap[a.block]? = some (.cells c t (0, 0))) (hb : ∃ c t, w.heap[b.block]? = some (.cells c t (0, 0))) (d : Nat) : (Op.equalIn (d + 1) 60 (.pointer (some a)) (.pointer (some b))).run Tryd.prog w = .ok false w := by
  obtain ⟨i, hi, hs⟩ := Option.map_eq_some_iff.1 info79
  obtain ⟨ca, ta, ha⟩ := ha
  obtain ⟨cb, tb, hb⟩ := hb
  simp [Op.equalIn, run_underlying Tryd.underlying60, sizeOf, typeInfo, hi, hs, run_sameAddr_other w hne ha hb]
theorem peq_nil (w : World) (a : Addr) (d : Nat) : (Op.equalIn (d + 1) 60 (.pointer (some a)) (.pointer none)).run Tryd.prog w = .ok false w := by
  simp [Op.equalIn, run_underlying Tryd.underlying60]

theorem Zs.lt {B : Nat} {w : World} {a4 a6 : Addr} (h : Zs B w a4 a6) : 0 < w.heap.size ∧ 1 < w.heap.size ∧ 2 < w.heap.size := by
  have l6 := World.block_lt_of_cell? w _ h.c6
  simp only at l6
  omega

theorem Zs.alloc {B : Nat} {w : World} {a4 a6 : Addr} (h : Zs B w a4 a6) (hB : B ≤ w.heap.size) (o : Obj) : Zs B (w.alloc o) a4 a6 := h.on ((Below.refl _ _).alloc hB o)

/-- z6noz against z4: they differ. -/
theorem Zs.p64 {B : Nat} {w : World} {a4 a6 : Addr} (h : Zs B w a4 a6) (d : Nat) : (Op.equalIn (d + 1) 60 (.pointer (some a6)) (.pointer (some a4))).run Tryd.prog w = .ok false w := peq_other h.ne.symm h.b6 h.b4 d

set_option maxRecDepth 100000 in
set_option maxHeartbeats 400000 in
theorem is6_yes (B : Nat) (hi lo : Int) (a4 a6 : Addr) (w : World) (hz : Zs B w a4 a6) (hB : B ≤ w.heap.size) :
    Calls Tryd.prog 43 #[.agg #[.int .u64 hi, .int .u64 lo, .pointer (some a6)]] w fun e w' => e = .returned (.bool true) ∧ Below w.heap.size w w' := by
  have c0 := hz.c0
  have c4 := hz.c4
  obtain ⟨l0, l1, l2⟩ := hz.lt
  have q4 := fun d o => (hz.alloc hB o).p64 d
  have q0 := fun d w => peq_nil w a6 d
  clear hz hB
  go_enter Tryd.func43, Tryd.ntmps43
  go_wp2
  go_ret
  exact ⟨rfl, (Below.refl _ _).alloc (Nat.le_refl _) _⟩

set_option maxHeartbeats 400000 in
theorem is4In6_any (B : Nat) (hi lo : Int) (a4 a6 : Addr) (w : World) (hz : Zs B w a4 a6) (hB : B ≤ w.heap.size) :
    Calls Tryd.prog 36 #[.agg #[.int .u64 hi, .int .u64 lo, .pointer (some a6)]] w fun e w' => e = .returned (.bool (hi == 0 && (lo / 4294967296 == 65535))) ∧ Below w.heap.size w w' := by
  go_enter Tryd.func36, Tryd.ntmps36
  go_wp2_with fail
  refine (is6_yes B hi lo a4 a6 _ (hz.alloc hB _) (by simp; omega)).mono ?_
  rintro e w1 ⟨rfl, hb⟩
  have hc : ∀ j, w1.cell? ⟨w.heap.size, j, none⟩ = (w.alloc (.cells #[.int .u64 hi, .int .u64 lo, .pointer (some a6)] 64)).cell? ⟨w.heap.size, j, none⟩ := fun j => hb.cell (p := ⟨w.heap.size, j, none⟩) (by simp)
  have hc0 : w1.cell? ⟨w.heap.size, 0, none⟩ = some (.int .u64 hi) := by rw [hc]; simp
  have hc1 : w1.cell? ⟨w.heap.size, 1, none⟩ = some (.int .u64 lo) := by rw [hc]; simp
  have hbb : Below w.heap.size w w1 := ((Below.refl _ _).alloc (Nat.le_refl _) _).trans (hb.mono (by simp))
  clear hc hb hz hB
  go_wp2
  · have hh : hi = 0 := by assumption
    go_ret
    exact ⟨by rw [hh]; rfl, hbb⟩
  · have hh : ¬ hi = 0 := by assumption
    go_ret
    exact ⟨by rw [show (hi == 0) = false from by simp [hh]]; rfl, hbb⟩

set_option maxHeartbeats 400000 in
theorem v4_0 (hi lo : Int) (z : Option Addr) (w : World) :
    Calls Tryd.prog 42 #[.agg #[.int .u64 hi, .int .u64 lo, .pointer z], .int .u8 0] w fun e w' => e = .returned (.int .u8 (lo / 16777216 % 256)) ∧ Below w.heap.size w w' := by
  go_enter Tryd.func42, Tryd.ntmps42
  go_wp2
  go_ret
  exact ⟨rfl, (Below.refl _ _).alloc (Nat.le_refl _) _⟩

set_option maxHeartbeats 400000 in
theorem v4_1 (hi lo : Int) (z : Option Addr) (w : World) :
    Calls Tryd.prog 42 #[.agg #[.int .u64 hi, .int .u64 lo, .pointer z], .int .u8 1] w fun e w' => e = .returned (.int .u8 (lo / 65536 % 256)) ∧ Below w.heap.size w w' := by
  go_enter Tryd.func42, Tryd.ntmps42
  go_wp2
  go_ret
  exact ⟨rfl, (Below.refl _ _).alloc (Nat.le_refl _) _⟩

set_option maxHeartbeats 400000 in
theorem v4_2 (hi lo : Int) (z : Option Addr) (w : World) :
    Calls Tryd.prog 42 #[.agg #[.int .u64 hi, .int .u64 lo, .pointer z], .int .u8 2] w fun e w' => e = .returned (.int .u8 (lo / 256 % 256)) ∧ Below w.heap.size w w' := by
  go_enter Tryd.func42, Tryd.ntmps42
  go_wp2
  go_ret
  exact ⟨rfl, (Below.refl _ _).alloc (Nat.le_refl _) _⟩

set_option maxHeartbeats 400000 in
theorem v4_3 (hi lo : Int) (z : Option Addr) (w : World) :
    Calls Tryd.prog 42 #[.agg #[.int .u64 hi, .int .u64 lo, .pointer z], .int .u8 3] w fun e w' => e = .returned (.int .u8 (lo % 256)) ∧ Below w.heap.size w w' := by
  go_enter Tryd.func42, Tryd.ntmps42
  go_wp2
  go_ret
  exact ⟨rfl, (Below.refl _ _).alloc (Nat.le_refl _) _⟩

end Go.Proofs.Qxb6604517aDoor
