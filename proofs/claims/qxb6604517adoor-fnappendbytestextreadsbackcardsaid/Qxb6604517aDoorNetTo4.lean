import Derived.Test.Qxb6604517aDoorNetZ
namespace Go.Proofs.Qxb6604517aDoor
open Go.RowKit

/-- A box of an Addr stands. -/
theorem box_cells {w : World} {k : Nat} {x y z : Value} (h : w.heap[k]? = some (.cells #[x, y, z] 64 (0, 0))) : w.cell? ⟨k, 0, none⟩ = some x ∧ w.cell? ⟨k, 1, none⟩ = some y ∧ w.cell? ⟨k, 2, none⟩ = some z := by
  simp [World.cell?, h]

set_option maxHeartbeats 800000 in
theorem to4_any (B : Nat) (w : World) (v : Value) (l : List UInt8) (hi lo : Int) (zp : Option Addr) (p q r s : UInt8) (hd : Dst B w v l) (hB : B ≤ w.heap.size) (hl : l.length ≤ 1000000000)
    (hp : lo / 16777216 % 256 = (p.toNat : Int)) (hq : lo / 65536 % 256 = (q.toNat : Int)) (hr : lo / 256 % 256 = (r.toNat : Int)) (hs : lo % 256 = (s.toNat : Int)) :
    Calls Tryd.prog 35 #[.agg #[.int .u64 hi, .int .u64 lo, .pointer zp], v] w fun e w' => ∃ v', e = .returned v' ∧ Own B w' v' (l ++ dotted p.toNat q.toNat r.toNat s.toNat) ∧ Step B w w' := by
  have kp := p.toNat_lt
  have kq := q.toNat_lt
  have kr := r.toNat_lt
  have ks := s.toNat_lt
  have dp := decDigits_len3 p.toNat kp
  have dq := decDigits_len3 q.toNat kq
  have dr := decDigits_len3 r.toNat kr
  obtain ⟨L1, e1⟩ : ∃ L, L = l ++ Lib.decDigits p.toNat ++ [46] := ⟨_, rfl⟩
  obtain ⟨L2, e2⟩ : ∃ L, L = L1 ++ Lib.decDigits q.toNat ++ [46] := ⟨_, rfl⟩
  obtain ⟨L3, e3⟩ : ∃ L, L = L2 ++ Lib.decDigits r.toNat ++ [46] := ⟨_, rfl⟩
  have l1 : L1.length ≤ l.length + 21 := by rw [e1]; simp; omega
  have l2 : L2.length ≤ l.length + 42 := by rw [e2]; simp; omega
  have l3 : L3.length ≤ l.length + 63 := by rw [e3]; simp; omega
  have eF : l ++ dotted p.toNat q.toNat r.toNat s.toNat = L3 ++ Lib.decDigits s.toNat := by rw [e3, e2, e1]; simp [dotted]
  have E1 := Lib.hid e1
  have E2 := Lib.hid e2
  have E3 := Lib.hid e3
  have EF := Lib.hid eF
  have HP := Lib.hid hp
  have HQ := Lib.hid hq
  have HR := Lib.hid hr
  have HS := Lib.hid hs
  clear e1 e2 e3 eF hp hq hr hs
  go_enter Tryd.func35, Tryd.ntmps35
  go_wp2_with fail
  refine (v4_0 hi lo zp _).mono ?_
  rintro e u1 ⟨rfl, x1⟩
  rw [HP.out]
  have X1 : Step B w u1 := (Step.alloc hB _).trans (Step.of x1 (by simp; omega))
  have K1 : u1.heap[w.heap.size]? = some (.cells #[.int .u64 hi, .int .u64 lo, .pointer zp] 64 (0, 0)) := by rw [x1.block _ (by simp)]; exact heap_alloc_new w _
  have D1 : Dst B u1 v l := hd.on (((Below.refl _ _).alloc (Nat.le_refl _) _).trans (x1.mono (by simp)))
  clear x1 hd
  go_wp2_with fail
  refine (ndec_any B u1 v l (p.toNat : Int) D1 (Nat.le_trans hB X1.size) (by omega) (by omega) (by omega)).mono ?_
  rintro e w1 ⟨v1, rfl, o1, b1⟩
  rw [Int.toNat_natCast] at o1
  have S1 : Step B w w1 := X1.trans b1
  have J1 := b1.other _ _ _ _ K1 (by decide)
  clear X1 K1 D1 b1
  have s1 : B ≤ w1.heap.size := Nat.le_trans hB S1.size
  go_wp2_with (at_builtin; refine wpList_append1 rfl _ _ rfl B v1 _ rfl (Dst.own o1) s1 46 46 rfl L1 E1.out rfl (by simp; omega) ?_)
  intro y1 z1 p1 d1
  have T1 : Step B w z1 := S1.trans d1
  have G1 := d1.other _ _ _ _ J1 (by decide)
  obtain ⟨m1, n1, h1⟩ := box_cells G1
  clear S1 J1 d1 o1 s1
  go_wp2_with fail
  refine (v4_1 hi lo zp _).mono ?_
  rintro e u2 ⟨rfl, x2⟩
  rw [HQ.out]
  have X2 : Step B w u2 := T1.trans (Step.of x2 (Nat.le_trans hB T1.size))
  have K2 : u2.heap[w.heap.size]? = some (.cells #[.int .u64 hi, .int .u64 lo, .pointer zp] 64 (0, 0)) := by rw [x2.block _ (lt_of_block G1)]; exact G1
  have D2 : Dst B u2 y1 L1 := (Dst.own p1).on x2
  clear x2 p1 G1 T1 m1 n1 h1
  go_wp2_with fail
  refine (ndec_any B u2 y1 L1 (q.toNat : Int) D2 (Nat.le_trans hB X2.size) (by omega) (by omega) (by omega)).mono ?_
  rintro e w2 ⟨v2, rfl, o2, b2⟩
  rw [Int.toNat_natCast] at o2
  have S2 : Step B w w2 := X2.trans b2
  have J2 := b2.other _ _ _ _ K2 (by decide)
  clear X2 K2 D2 b2
  have s2 : B ≤ w2.heap.size := Nat.le_trans hB S2.size
  go_wp2_with (at_builtin; refine wpList_append1 rfl _ _ rfl B v2 _ rfl (Dst.own o2) s2 46 46 rfl L2 E2.out rfl (by simp; omega) ?_)
  intro y2 z2 p2 d2
  have T2 : Step B w z2 := S2.trans d2
  have G2 := d2.other _ _ _ _ J2 (by decide)
  obtain ⟨m2, n2, h2⟩ := box_cells G2
  clear S2 J2 d2 o2 s2
  go_wp2_with fail
  refine (v4_2 hi lo zp _).mono ?_
  rintro e u3 ⟨rfl, x3⟩
  rw [HR.out]
  have X3 : Step B w u3 := T2.trans (Step.of x3 (Nat.le_trans hB T2.size))
  have K3 : u3.heap[w.heap.size]? = some (.cells #[.int .u64 hi, .int .u64 lo, .pointer zp] 64 (0, 0)) := by rw [x3.block _ (lt_of_block G2)]; exact G2
  have D3 : Dst B u3 y2 L2 := (Dst.own p2).on x3
  clear x3 p2 G2 T2 m2 n2 h2
  go_wp2_with fail
  refine (ndec_any B u3 y2 L2 (r.toNat : Int) D3 (Nat.le_trans hB X3.size) (by omega) (by omega) (by omega)).mono ?_
  rintro e w3 ⟨v3, rfl, o3, b3⟩
  rw [Int.toNat_natCast] at o3
  have S3 : Step B w w3 := X3.trans b3
  have J3 := b3.other _ _ _ _ K3 (by decide)
  clear X3 K3 D3 b3
  have s3 : B ≤ w3.heap.size := Nat.le_trans hB S3.size
  go_wp2_with (at_builtin; refine wpList_append1 rfl _ _ rfl B v3 _ rfl (Dst.own o3) s3 46 46 rfl L3 E3.out rfl (by simp; omega) ?_)
  intro y3 z3 p3 d3
  have T3 : Step B w z3 := S3.trans d3
  have G3 := d3.other _ _ _ _ J3 (by decide)
  obtain ⟨m3, n3, h3⟩ := box_cells G3
  clear S3 J3 d3 o3 s3
  go_wp2_with fail
  refine (v4_3 hi lo zp _).mono ?_
  rintro e u4 ⟨rfl, x4⟩
  rw [HS.out]
  have X4 : Step B w u4 := T3.trans (Step.of x4 (Nat.le_trans hB T3.size))
  have K4 : u4.heap[w.heap.size]? = some (.cells #[.int .u64 hi, .int .u64 lo, .pointer zp] 64 (0, 0)) := by rw [x4.block _ (lt_of_block G3)]; exact G3
  have D4 : Dst B u4 y3 L3 := (Dst.own p3).on x4
  clear x4 p3 G3 T3 m3 n3 h3
  go_wp2_with fail
  refine (ndec_any B u4 y3 L3 (s.toNat : Int) D4 (Nat.le_trans hB X4.size) (by omega) (by omega) (by omega)).mono ?_
  rintro e w4 ⟨v4, rfl, o4, b4⟩
  rw [Int.toNat_natCast] at o4
  have S4 : Step B w w4 := X4.trans b4
  have J4 := b4.other _ _ _ _ K4 (by decide)
  clear X4 K4 D4 b4
  go_wp2
  go_ret
  exact ⟨v4, rfl, by rw [EF.out]; exact o4, S4⟩
end Go.Proofs.Qxb6604517aDoor
