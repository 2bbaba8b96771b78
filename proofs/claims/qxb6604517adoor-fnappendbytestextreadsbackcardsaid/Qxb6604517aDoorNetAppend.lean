import Derived.Test.Qxb6604517aDoorNetSlice
namespace Go.Proofs.Qxb6604517aDoor
open Go.RowKit

theorem lo4_p (p q r s : UInt8) : lo4 p q r s / 16777216 % 256 = (p.toNat : Int) ∧ lo4 p q r s / 65536 % 256 = (q.toNat : Int) ∧ lo4 p q r s / 256 % 256 = (r.toNat : Int) ∧ lo4 p q r s % 256 = (s.toNat : Int) := by
  have hp := p.toNat_lt
  have hq := q.toNat_lt
  have hr := r.toNat_lt
  have hs := s.toNat_lt
  unfold lo4
  omega

set_option maxRecDepth 100000 in
set_option maxHeartbeats 800000 in
theorem appendTo_4 (B : Nat) (w : World) (v : Value) (l : List UInt8) (a4 a6 : Addr) (p q r s : UInt8) (hz : Zs B w a4 a6) (hd : Dst B w v l) (hB : B ≤ w.heap.size) (hl : l.length ≤ 100000000) :
    Calls Tryd.prog 29 #[.agg #[.int .u64 0, .int .u64 (lo4 p q r s), .pointer (some a4)], v] w fun e w' => ∃ v', e = .returned v' ∧ Own B w' v' (l ++ dotted p.toNat q.toNat r.toNat s.toNat) ∧ Step B w w' := by
  obtain ⟨e1, e2, e3, e4⟩ := lo4_p p q r s
  obtain ⟨lo, hlo⟩ : ∃ lo, lo = lo4 p q r s := ⟨_, rfl⟩
  rw [← hlo]
  rw [← hlo] at e1 e2 e3 e4
  have HC := Lib.hid (fun (W : World) (d : Dst B W v l) (b : B ≤ W.heap.size) => to4_any B W v l 0 lo (some a4) p q r s d b (by omega) e1 e2 e3 e4)
  have c0 := hz.c0
  have c4 := hz.c4
  obtain ⟨l0, l1, l2⟩ := hz.lt
  have q0 := fun d w => peq_nil w a4 d
  have q4 := fun d w => peq_same w a4 d
  have HD := Lib.hid hd
  have HB := Lib.hid hB
  clear e1 e2 e3 e4 hlo hz hd hB
  go_enter Tryd.func29, Tryd.ntmps29
  go_wp2_with fail
  refine (HC.out _ (HD.out.alloc _) (by have := HB.out; simp; omega)).mono ?_
  rintro e w1 ⟨v1, rfl, o1, b1⟩
  go_wp2
  go_ret
  exact ⟨v1, rfl, o1, (Step.alloc HB.out _).trans b1⟩

set_option maxRecDepth 100000 in
set_option maxHeartbeats 800000 in
theorem appendTo_map (B : Nat) (w : World) (v : Value) (l : List UInt8) (a4 a6 : Addr) (lo : Int) (p q r s : UInt8) (hz : Zs B w a4 a6) (hd : Dst B w v l) (hB : B ≤ w.heap.size) (hl : l.length ≤ 100000000) (hlo : lo / 4294967296 = 65535)
    (e1 : lo / 16777216 % 256 = (p.toNat : Int)) (e2 : lo / 65536 % 256 = (q.toNat : Int)) (e3 : lo / 256 % 256 = (r.toNat : Int)) (e4 : lo % 256 = (s.toNat : Int)) :
    Calls Tryd.prog 29 #[.agg #[.int .u64 0, .int .u64 lo, .pointer (some a6)], v] w fun e w' => ∃ v', e = .returned v' ∧ Own B w' v' (l ++ (mappedHead ++ dotted p.toNat q.toNat r.toNat s.toNat)) ∧ Step B w w' := by
  have HC := Lib.hid (fun (W : World) (z : Zs B W a4 a6) (d : Dst B W v l) (b : B ≤ W.heap.size) => to4In6_any B W v l lo a4 a6 p q r s z d b hl hlo e1 e2 e3 e4)
  have c0 := hz.c0
  have c4 := hz.c4
  obtain ⟨l0, l1, l2⟩ := hz.lt
  have q0 := fun d w => peq_nil w a6 d
  have q4 := fun d o => (hz.alloc hB o).p64 d
  have HD := Lib.hid hd
  have HB := Lib.hid hB
  have HZ := Lib.hid hz
  have HLO := Lib.hid hlo
  clear e1 e2 e3 e4 hz hd hB hlo
  go_enter Tryd.func29, Tryd.ntmps29
  go_wp2_with fail
  refine (is4In6_any B 0 lo a4 a6 _ (HZ.out.alloc HB.out _) (by have := HB.out; simp; omega)).mono ?_
  rintro e w1 ⟨rfl, b1⟩
  rw [show ((0 : Int) == 0 && lo / 4294967296 == 65535) = true from by rw [HLO.out]; rfl]
  have s1 : B ≤ (w.alloc (.cells #[.int .u64 0, .int .u64 lo, .pointer (some a6)] 64)).heap.size := by have := HB.out; simp; omega
  have K1 : w1.heap[w.heap.size]? = _ := (b1.block _ (by simp)).trans (heap_alloc_new w _)
  obtain ⟨m0, m1, m2⟩ := box_cells K1
  have Z1 := Lib.hid ((HZ.out.alloc HB.out (.cells #[.int .u64 0, .int .u64 lo, .pointer (some a6)] 64)).on (b1.mono s1))
  have D1 := Lib.hid ((HD.out.alloc (.cells #[.int .u64 0, .int .u64 lo, .pointer (some a6)] 64)).on b1)
  have S1 := Lib.hid ((Step.alloc HB.out (.cells #[.int .u64 0, .int .u64 lo, .pointer (some a6)] 64)).trans (Step.of b1 s1))
  clear b1 s1 K1 q4 q0
  go_wp2_with fail
  refine (HC.out _ Z1.out D1.out (Nat.le_trans HB.out S1.out.size)).mono ?_
  rintro e w2 ⟨v2, rfl, o2, b2⟩
  go_wp2
  go_ret
  exact ⟨v2, rfl, o2, S1.out.trans b2⟩

set_option maxRecDepth 100000 in
set_option maxHeartbeats 800000 in
theorem appendTo_6 (B : Nat) (w : World) (v : Value) (l : List UInt8) (a4 a6 : Addr) (hi lo : Int) (hz : Zs B w a4 a6) (hd : Dst B w v l) (hB : B ≤ w.heap.size) (hl : l.length ≤ 100000000) (hno : (hi == 0 && lo / 4294967296 == 65535) = false) :
    Calls Tryd.prog 29 #[.agg #[.int .u64 hi, .int .u64 lo, .pointer (some a6)], v] w fun e w' => ∃ v', e = .returned v' ∧ Own B w' v' (l ++ text6 (fun t => (grp hi lo t).toNat) (nst (zf hi lo) 8).1 (nst (zf hi lo) 8).2) ∧ Step B w w' := by
  have HC := Lib.hid (fun (W : World) (z : Zs B W a4 a6) (d : Dst B W v l) (b : B ≤ W.heap.size) => to6_any B W v l hi lo a4 a6 z d b hl)
  have c0 := hz.c0
  have c4 := hz.c4
  obtain ⟨l0, l1, l2⟩ := hz.lt
  have q0 := fun d w => peq_nil w a6 d
  have q4 := fun d o => (hz.alloc hB o).p64 d
  have HD := Lib.hid hd
  have HB := Lib.hid hB
  have HZ := Lib.hid hz
  have HNO := Lib.hid hno
  clear hz hd hB hno
  go_enter Tryd.func29, Tryd.ntmps29
  go_wp2_with fail
  refine (is4In6_any B hi lo a4 a6 _ (HZ.out.alloc HB.out _) (by have := HB.out; simp; omega)).mono ?_
  rintro e w1 ⟨rfl, b1⟩
  rw [HNO.out]
  have s1 : B ≤ (w.alloc (.cells #[.int .u64 hi, .int .u64 lo, .pointer (some a6)] 64)).heap.size := by have := HB.out; simp; omega
  have K1 : w1.heap[w.heap.size]? = _ := (b1.block _ (by simp)).trans (heap_alloc_new w _)
  obtain ⟨m0, m1, m2⟩ := box_cells K1
  have Z1 := Lib.hid ((HZ.out.alloc HB.out (.cells #[.int .u64 hi, .int .u64 lo, .pointer (some a6)] 64)).on (b1.mono s1))
  have D1 := Lib.hid ((HD.out.alloc (.cells #[.int .u64 hi, .int .u64 lo, .pointer (some a6)] 64)).on b1)
  have S1 := Lib.hid ((Step.alloc HB.out (.cells #[.int .u64 hi, .int .u64 lo, .pointer (some a6)] 64)).trans (Step.of b1 s1))
  clear b1 s1 K1 q4 q0
  go_wp2_with fail
  refine (HC.out _ Z1.out D1.out (Nat.le_trans HB.out S1.out.size)).mono ?_
  rintro e w2 ⟨v2, rfl, o2, b2⟩
  go_wp2
  go_ret
  exact ⟨v2, rfl, o2, S1.out.trans b2⟩
end Go.Proofs.Qxb6604517aDoor
