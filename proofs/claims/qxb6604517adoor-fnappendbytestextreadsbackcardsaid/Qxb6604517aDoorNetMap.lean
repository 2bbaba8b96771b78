import Derived.Test.Qxb6604517aDoorNetTo4
namespace Go.Proofs.Qxb6604517aDoor
open Go.RowKit

set_option maxHeartbeats 800000 in
theorem unmap_any (B : Nat) (lo : Int) (a4 a6 : Addr) (w : World) (hz : Zs B w a4 a6) (hB : B ≤ w.heap.size) (hlo : lo / 4294967296 = 65535) :
    Calls Tryd.prog 44 #[.agg #[.int .u64 0, .int .u64 lo, .pointer (some a6)]] w fun e w' => e = .returned (.agg #[.int .u64 0, .int .u64 lo, .pointer (some a4)]) ∧ Below w.heap.size w w' := by
  have HLO := Lib.hid hlo
  clear hlo
  go_enter Tryd.func44, Tryd.ntmps44
  go_wp2_with fail
  refine (is4In6_any B 0 lo a4 a6 _ (by exact ((hz.alloc hB _).alloc (by simp; omega) _)) (by simp; omega)).mono ?_
  rintro e w1 ⟨rfl, hb⟩
  rw [show ((0 : Int) == 0 && lo / 4294967296 == 65535) = true from by rw [HLO.out]; rfl]
  have hs := hb.size
  have z1 : Zs B w1 a4 a6 := (((hz.alloc hB _).alloc (by simp; omega) _).on (hb.mono (by simp; omega)))
  have K1 : w1.heap[w.heap.size]? = some (.cells #[.int .u64 0, .int .u64 lo, .pointer (some a6)] 64 (0, 0)) := by
    rw [hb.block _ (by simp; omega), Below.heap_alloc _ _ _ (by simp)]; exact heap_alloc_new w _
  have K2 : w1.heap[w.heap.size + 1]? = some (.cells #[.int .u64 0, .int .u64 0, .pointer none] 64 (0, 0)) := by
    rw [hb.block _ (by simp)]
    have := heap_alloc_new (w.alloc (.cells #[.int .u64 0, .int .u64 lo, .pointer (some a6)] 64)) (.cells #[.int .u64 0, .int .u64 0, .pointer none] 64)
    simpa using this
  obtain ⟨p0, p1, p2⟩ := box_cells K1
  obtain ⟨q0, q1, q2⟩ := box_cells K2
  have f1 : w1.frozen? ⟨w.heap.size, 2, none⟩ = false := by simp [World.frozen?, K1]
  have f2 : ∀ j, w1.frozen? ⟨w.heap.size + 1, j, none⟩ = false := fun j => by simp [World.frozen?, K2]
  have c4 := z1.c4
  have HBL := Lib.hid (((Below.refl w.heap.size w).alloc (Nat.le_refl _) (.cells #[.int .u64 0, .int .u64 lo, .pointer (some a6)] 64)).alloc (by simp) (.cells #[.int .u64 0, .int .u64 0, .pointer none] 64) |>.trans (hb.mono (by simp; omega)))
  clear hb hz K1 K2 hs hB z1
  go_wp2
  refine bodyPost_ret (v := .agg #[.int .u64 0, .int .u64 lo, .pointer (some a4)]) (by simp [results, Tryd.results44, go_sem, q0, q1, q2]) rfl ⟨rfl, ?_⟩
  exact (((HBL.out.setCell (Nat.le_refl _) _).setCell (by simp) _).setCell (by simp) _).setCell (by simp) _

/-- "::ffff:" -/
def mappedHead : List UInt8 := [58, 58, 102, 102, 102, 102, 58]

set_option maxRecDepth 100000 in
set_option maxHeartbeats 800000 in
theorem to4In6_any (B : Nat) (w : World) (v : Value) (l : List UInt8) (lo : Int) (a4 a6 : Addr) (p q r s : UInt8) (hz : Zs B w a4 a6) (hd : Dst B w v l) (hB : B ≤ w.heap.size) (hl : l.length ≤ 100000000) (hlo : lo / 4294967296 = 65535)
    (hp : lo / 16777216 % 256 = (p.toNat : Int)) (hq : lo / 65536 % 256 = (q.toNat : Int)) (hr : lo / 256 % 256 = (r.toNat : Int)) (hs : lo % 256 = (s.toNat : Int)) :
    Calls Tryd.prog 37 #[.agg #[.int .u64 0, .int .u64 lo, .pointer (some a6)], v] w fun e w' => ∃ v', e = .returned v' ∧ Own B w' v' (l ++ (mappedHead ++ dotted p.toNat q.toNat r.toNat s.toNat)) ∧ Step B w w' := by
  obtain ⟨L1, e1⟩ : ∃ L, L = l ++ mappedHead := ⟨_, rfl⟩
  have l1 : L1.length = l.length + 7 := by rw [e1]; simp [mappedHead]
  have eF : l ++ (mappedHead ++ dotted p.toNat q.toNat r.toNat s.toNat) = L1 ++ dotted p.toNat q.toNat r.toNat s.toNat := by rw [e1]; simp
  have E1 := Lib.hid e1
  have EF := Lib.hid eF
  have HL1 := Lib.hid l1
  have HLO := Lib.hid hlo
  have HP := Lib.hid hp
  have HQ := Lib.hid hq
  have HR := Lib.hid hr
  have HS := Lib.hid hs
  clear e1 eF l1 hlo hp hq hr hs
  have sB : B ≤ (w.alloc (.cells #[.int .u64 0, .int .u64 lo, .pointer (some a6)] 64)).heap.size := by simp; omega
  have SB := Lib.hid sB
  clear sB
  go_enter Tryd.func37, Tryd.ntmps37
  go_wp2_with (at_builtin; refine wpList_append_str rfl _ _ rfl B v l rfl (hd.alloc _) SB.out ⟨#[58, 58, 102, 102, 102, 102, 58]⟩ rfl L1 E1.out (by decide) (show l.length + 7 ≤ 140737488355328 by omega) ?_)
  intro v1 w1 o1 b1
  have K1 := b1.other w.heap.size _ _ _ (heap_alloc_new w (.cells #[.int .u64 0, .int .u64 lo, .pointer (some a6)] 64)) (by decide)
  have z1 : Zs B w1 a4 a6 := (hz.alloc hB _).on b1.below
  have S1 : Step B w w1 := (Step.alloc hB _).trans b1
  obtain ⟨m0, m1, m2⟩ := box_cells K1
  clear b1 hz hd
  go_wp2_with fail
  refine (unmap_any B lo a4 a6 w1 z1 (Nat.le_trans hB S1.size) HLO.out).mono ?_
  rintro e w2 ⟨rfl, b2⟩
  have S2 : Step B w w2 := S1.trans (Step.of b2 (Nat.le_trans hB S1.size))
  have K2 : w2.heap[w.heap.size]? = _ := (b2.block _ (lt_of_block K1)).trans K1
  have z2 : Zs B w2 a4 a6 := z1.on (b2.mono (Nat.le_trans hB S1.size))
  have o2 : Dst B w2 v1 L1 := (Dst.own o1).on b2
  clear S1 K1 z1 o1 b2 m0 m1 m2
  go_wp2_with fail
  refine (to4_any B w2 v1 L1 0 lo (some a4) p q r s o2 (Nat.le_trans hB S2.size) (by rw [HL1.out]; omega) HP.out HQ.out HR.out HS.out).mono ?_
  rintro e w3 ⟨v3, rfl, o3, b3⟩
  have S3 : Step B w w3 := S2.trans b3
  have K3 := b3.other _ _ _ _ K2 (by decide)
  have z3 : Zs B w3 a4 a6 := z2.on b3.below
  obtain ⟨m0, m1, m2⟩ := box_cells K3
  have c6 := z3.c6
  have q0 := fun d w => peq_same w a6 d
  clear S2 K2 z2 o2 b3 K3 z3 SB hB
  go_wp2
  go_ret
  exact ⟨v3, rfl, by rw [EF.out]; exact o3, S3⟩
end Go.Proofs.Qxb6604517aDoor
