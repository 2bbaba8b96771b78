import Derived.Test.Qxb6604517aDoorAbDec
import Derived.Test.Qxb6604517aDoorNetSlice
namespace Go.Proofs.Qxb6604517aDoor
open Go.RowKit

set_option maxHeartbeats 1600000 in
set_option maxRecDepth 100000 in
theorem ab_4 (B : Nat) (A : Int) (hA : A = 8 ∨ A = 9) (a4 a6 : Addr) (v : Value) (l : List UInt8) (x : Value) (p q r s : UInt8) (w : World) (hz : Zs B w a4 a6) (hd : Dst B w v l) (hx : Rd w.heap.size w x [p, q, r, s]) (hB : B ≤ w.heap.size) (hl : l.length ≤ 10000000) :
    Calls Tryd.prog 23 #[v, .int .u8 A, x] w fun e w' => ∃ v', e = .returned v' ∧ Dst B w' v' (l ++ dotted p.toNat q.toNat r.toNat s.toNat) ∧ Step B w w' := by
  obtain ⟨a, b, o, cap, rfl, h1, h2⟩ := hx
  obtain ⟨rfl, hbl⟩ := h1 (by simp)
  have c0 := h2 0 (by simp)
  have c1 := h2 1 (by simp)
  have c2 := h2 2 (by simp)
  have c3 := h2 3 (by simp)
  have H28 := Lib.hid (slice4_any B a4 a6 p q r s b o cap w hz hB hbl (by simpa using c0) (by simpa using c1) (by simpa using c2) (by simpa using c3))
  have HZ := Lib.hid hz
  obtain ⟨LO, hLO⟩ : ∃ L, L = lo4 p q r s := ⟨_, rfl⟩
  have H29 := Lib.hid (fun (W : World) (z : Zs B W a4 a6) (d : Dst B W v l) (h : B ≤ W.heap.size) => appendTo_4 B W v l a4 a6 p q r s z d h (by omega))
  rw [← hLO] at H28 H29
  rw [show [p, q, r, s].length = 4 from rfl]
  clear hLO h1 h2 c0 c1 c2 c3 hz
  rcases hA with rfl | rfl
  · go_enter Tryd.func23, Tryd.ntmps23
    go_wp2_with fail
    refine H28.out.mono ?_
    rintro e w1 ⟨rfl, hb1⟩
    go_wp2_with fail
    have hb2 := hb1.alloc hb1.size (.cells #[.int .u64 0, .int .u64 LO, .pointer (some a4)] 64)
    refine (H29.out _ (HZ.out.on (hb2.mono hB)) (hd.on hb2) (Nat.le_trans hB hb2.size)).mono ?_
    rintro e w3 ⟨v3, rfl, o3, b3⟩
    go_wp2
    go_ret
    exact ⟨v3, rfl, Dst.own o3, (Step.of hb2 hB).trans b3⟩
  · go_enter Tryd.func23, Tryd.ntmps23
    go_wp2_with fail
    refine H28.out.mono ?_
    rintro e w1 ⟨rfl, hb1⟩
    go_wp2_with fail
    have hb2 := hb1.alloc hb1.size (.cells #[.int .u64 0, .int .u64 LO, .pointer (some a4)] 64)
    refine (H29.out _ (HZ.out.on (hb2.mono hB)) (hd.on hb2) (Nat.le_trans hB hb2.size)).mono ?_
    rintro e w3 ⟨v3, rfl, o3, b3⟩
    go_wp2
    go_ret
    exact ⟨v3, rfl, Dst.own o3, (Step.of hb2 hB).trans b3⟩

set_option maxHeartbeats 1600000 in
set_option maxRecDepth 100000 in
theorem ab_map (B : Nat) (A : Int) (hA : A = 8 ∨ A = 9) (a4 a6 : Addr) (v : Value) (l : List UInt8) (x : Value) (x0 x1 x2 x3 x4 x5 x6 x7 x8 x9 x10 x11 x12 x13 x14 x15 : UInt8) (w : World) (hz : Zs B w a4 a6) (hd : Dst B w v l) (hx : Rd w.heap.size w x [x0, x1, x2, x3, x4, x5, x6, x7, x8, x9, x10, x11, x12, x13, x14, x15]) (hB : B ≤ w.heap.size) (hl : l.length ≤ 10000000)
    (hhi : be8 x0 x1 x2 x3 x4 x5 x6 x7 = 0) (hlo : be8 x8 x9 x10 x11 x12 x13 x14 x15 / 4294967296 = 65535) :
    Calls Tryd.prog 23 #[v, .int .u8 A, x] w fun e w' => ∃ v', e = .returned v' ∧ Dst B w' v' (l ++ (mappedHead ++ dotted x12.toNat x13.toNat x14.toNat x15.toNat)) ∧ Step B w w' := by
  obtain ⟨a, b, o, cap, rfl, h1, h2⟩ := hx
  obtain ⟨rfl, hbl⟩ := h1 (by simp)
  have c0 : w.cell? ⟨b, o, none⟩ = some (.int .u8 (x0.toNat : Int)) := h2 0 (by simp)
  have c1 : w.cell? ⟨b, o + 1, none⟩ = some (.int .u8 (x1.toNat : Int)) := h2 1 (by simp)
  have c2 : w.cell? ⟨b, o + 2, none⟩ = some (.int .u8 (x2.toNat : Int)) := h2 2 (by simp)
  have c3 : w.cell? ⟨b, o + 3, none⟩ = some (.int .u8 (x3.toNat : Int)) := h2 3 (by simp)
  have c4 : w.cell? ⟨b, o + 4, none⟩ = some (.int .u8 (x4.toNat : Int)) := h2 4 (by simp)
  have c5 : w.cell? ⟨b, o + 5, none⟩ = some (.int .u8 (x5.toNat : Int)) := h2 5 (by simp)
  have c6 : w.cell? ⟨b, o + 6, none⟩ = some (.int .u8 (x6.toNat : Int)) := h2 6 (by simp)
  have c7 : w.cell? ⟨b, o + 7, none⟩ = some (.int .u8 (x7.toNat : Int)) := h2 7 (by simp)
  have c8 : w.cell? ⟨b, o + 8, none⟩ = some (.int .u8 (x8.toNat : Int)) := h2 8 (by simp)
  have c9 : w.cell? ⟨b, o + 9, none⟩ = some (.int .u8 (x9.toNat : Int)) := h2 9 (by simp)
  have c10 : w.cell? ⟨b, o + 10, none⟩ = some (.int .u8 (x10.toNat : Int)) := h2 10 (by simp)
  have c11 : w.cell? ⟨b, o + 11, none⟩ = some (.int .u8 (x11.toNat : Int)) := h2 11 (by simp)
  have c12 : w.cell? ⟨b, o + 12, none⟩ = some (.int .u8 (x12.toNat : Int)) := h2 12 (by simp)
  have c13 : w.cell? ⟨b, o + 13, none⟩ = some (.int .u8 (x13.toNat : Int)) := h2 13 (by simp)
  have c14 : w.cell? ⟨b, o + 14, none⟩ = some (.int .u8 (x14.toNat : Int)) := h2 14 (by simp)
  have c15 : w.cell? ⟨b, o + 15, none⟩ = some (.int .u8 (x15.toNat : Int)) := h2 15 (by simp)
  have H28 := Lib.hid (slice16_any B a4 a6 x0 x1 x2 x3 x4 x5 x6 x7 x8 x9 x10 x11 x12 x13 x14 x15 b o cap w hz hB hbl c0 c1 c2 c3 c4 c5 c6 c7 c8 c9 c10 c11 c12 c13 c14 c15)
  have HZ := Lib.hid hz
  have e1 : be8 x8 x9 x10 x11 x12 x13 x14 x15 / 16777216 % 256 = (x12.toNat : Int) := by
    have := x8.toNat_lt; have := x9.toNat_lt; have := x10.toNat_lt; have := x11.toNat_lt; have := x12.toNat_lt; have := x13.toNat_lt; have := x14.toNat_lt; have := x15.toNat_lt
    unfold be8; omega
  have e2 : be8 x8 x9 x10 x11 x12 x13 x14 x15 / 65536 % 256 = (x13.toNat : Int) := by
    have := x8.toNat_lt; have := x9.toNat_lt; have := x10.toNat_lt; have := x11.toNat_lt; have := x12.toNat_lt; have := x13.toNat_lt; have := x14.toNat_lt; have := x15.toNat_lt
    unfold be8; omega
  have e3 : be8 x8 x9 x10 x11 x12 x13 x14 x15 / 256 % 256 = (x14.toNat : Int) := by
    have := x8.toNat_lt; have := x9.toNat_lt; have := x10.toNat_lt; have := x11.toNat_lt; have := x12.toNat_lt; have := x13.toNat_lt; have := x14.toNat_lt; have := x15.toNat_lt
    unfold be8; omega
  have e4 : be8 x8 x9 x10 x11 x12 x13 x14 x15 % 256 = (x15.toNat : Int) := by
    have := x8.toNat_lt; have := x9.toNat_lt; have := x10.toNat_lt; have := x11.toNat_lt; have := x12.toNat_lt; have := x13.toNat_lt; have := x14.toNat_lt; have := x15.toNat_lt
    unfold be8; omega
  have H29 := Lib.hid (fun (W : World) (z : Zs B W a4 a6) (d : Dst B W v l) (h : B ≤ W.heap.size) => appendTo_map B W v l a4 a6 (be8 x8 x9 x10 x11 x12 x13 x14 x15) x12 x13 x14 x15 z d h (by omega) hlo e1 e2 e3 e4)
  rw [hhi] at H28
  obtain ⟨LO, hLO⟩ : ∃ L, L = be8 x8 x9 x10 x11 x12 x13 x14 x15 := ⟨_, rfl⟩
  rw [← hLO] at H28 H29
  clear e1 e2 e3 e4 hlo hhi hLO
  rw [show [x0, x1, x2, x3, x4, x5, x6, x7, x8, x9, x10, x11, x12, x13, x14, x15].length = 16 from rfl]
  clear h1 h2 c0 c1 c2 c3 c4 c5 c6 c7 c8 c9 c10 c11 c12 c13 c14 c15 hz
  rcases hA with rfl | rfl
  · go_enter Tryd.func23, Tryd.ntmps23
    go_wp2_with fail
    refine H28.out.mono ?_
    rintro e w1 ⟨rfl, hb1⟩
    go_wp2_with fail
    have hb2 := hb1.alloc hb1.size (.cells #[.int .u64 0, .int .u64 LO, .pointer (some a6)] 64)
    refine (H29.out _ (HZ.out.on (hb2.mono hB)) (hd.on hb2) (Nat.le_trans hB hb2.size)).mono ?_
    rintro e w3 ⟨v3, rfl, o3, b3⟩
    go_wp2
    go_ret
    exact ⟨v3, rfl, Dst.own o3, (Step.of hb2 hB).trans b3⟩
  · go_enter Tryd.func23, Tryd.ntmps23
    go_wp2_with fail
    refine H28.out.mono ?_
    rintro e w1 ⟨rfl, hb1⟩
    go_wp2_with fail
    have hb2 := hb1.alloc hb1.size (.cells #[.int .u64 0, .int .u64 LO, .pointer (some a6)] 64)
    refine (H29.out _ (HZ.out.on (hb2.mono hB)) (hd.on hb2) (Nat.le_trans hB hb2.size)).mono ?_
    rintro e w3 ⟨v3, rfl, o3, b3⟩
    go_wp2
    go_ret
    exact ⟨v3, rfl, Dst.own o3, (Step.of hb2 hB).trans b3⟩

set_option maxHeartbeats 1600000 in
set_option maxRecDepth 100000 in
theorem ab_16 (B : Nat) (A : Int) (hA : A = 8 ∨ A = 9) (a4 a6 : Addr) (v : Value) (l : List UInt8) (x : Value) (x0 x1 x2 x3 x4 x5 x6 x7 x8 x9 x10 x11 x12 x13 x14 x15 : UInt8) (w : World) (hz : Zs B w a4 a6) (hd : Dst B w v l) (hx : Rd w.heap.size w x [x0, x1, x2, x3, x4, x5, x6, x7, x8, x9, x10, x11, x12, x13, x14, x15]) (hB : B ≤ w.heap.size) (hl : l.length ≤ 10000000)
    (hno : (be8 x0 x1 x2 x3 x4 x5 x6 x7 == 0 && be8 x8 x9 x10 x11 x12 x13 x14 x15 / 4294967296 == 65535) = false) :
    Calls Tryd.prog 23 #[v, .int .u8 A, x] w fun e w' => ∃ v', e = .returned v' ∧ Dst B w' v' (l ++ text6 (fun t => (grp (be8 x0 x1 x2 x3 x4 x5 x6 x7) (be8 x8 x9 x10 x11 x12 x13 x14 x15) t).toNat) (nst (zf (be8 x0 x1 x2 x3 x4 x5 x6 x7) (be8 x8 x9 x10 x11 x12 x13 x14 x15)) 8).1 (nst (zf (be8 x0 x1 x2 x3 x4 x5 x6 x7) (be8 x8 x9 x10 x11 x12 x13 x14 x15)) 8).2) ∧ Step B w w' := by
  obtain ⟨a, b, o, cap, rfl, h1, h2⟩ := hx
  obtain ⟨rfl, hbl⟩ := h1 (by simp)
  have c0 : w.cell? ⟨b, o, none⟩ = some (.int .u8 (x0.toNat : Int)) := h2 0 (by simp)
  have c1 : w.cell? ⟨b, o + 1, none⟩ = some (.int .u8 (x1.toNat : Int)) := h2 1 (by simp)
  have c2 : w.cell? ⟨b, o + 2, none⟩ = some (.int .u8 (x2.toNat : Int)) := h2 2 (by simp)
  have c3 : w.cell? ⟨b, o + 3, none⟩ = some (.int .u8 (x3.toNat : Int)) := h2 3 (by simp)
  have c4 : w.cell? ⟨b, o + 4, none⟩ = some (.int .u8 (x4.toNat : Int)) := h2 4 (by simp)
  have c5 : w.cell? ⟨b, o + 5, none⟩ = some (.int .u8 (x5.toNat : Int)) := h2 5 (by simp)
  have c6 : w.cell? ⟨b, o + 6, none⟩ = some (.int .u8 (x6.toNat : Int)) := h2 6 (by simp)
  have c7 : w.cell? ⟨b, o + 7, none⟩ = some (.int .u8 (x7.toNat : Int)) := h2 7 (by simp)
  have c8 : w.cell? ⟨b, o + 8, none⟩ = some (.int .u8 (x8.toNat : Int)) := h2 8 (by simp)
  have c9 : w.cell? ⟨b, o + 9, none⟩ = some (.int .u8 (x9.toNat : Int)) := h2 9 (by simp)
  have c10 : w.cell? ⟨b, o + 10, none⟩ = some (.int .u8 (x10.toNat : Int)) := h2 10 (by simp)
  have c11 : w.cell? ⟨b, o + 11, none⟩ = some (.int .u8 (x11.toNat : Int)) := h2 11 (by simp)
  have c12 : w.cell? ⟨b, o + 12, none⟩ = some (.int .u8 (x12.toNat : Int)) := h2 12 (by simp)
  have c13 : w.cell? ⟨b, o + 13, none⟩ = some (.int .u8 (x13.toNat : Int)) := h2 13 (by simp)
  have c14 : w.cell? ⟨b, o + 14, none⟩ = some (.int .u8 (x14.toNat : Int)) := h2 14 (by simp)
  have c15 : w.cell? ⟨b, o + 15, none⟩ = some (.int .u8 (x15.toNat : Int)) := h2 15 (by simp)
  have H28 := Lib.hid (slice16_any B a4 a6 x0 x1 x2 x3 x4 x5 x6 x7 x8 x9 x10 x11 x12 x13 x14 x15 b o cap w hz hB hbl c0 c1 c2 c3 c4 c5 c6 c7 c8 c9 c10 c11 c12 c13 c14 c15)
  have HZ := Lib.hid hz
  have H29 := Lib.hid (fun (W : World) (z : Zs B W a4 a6) (d : Dst B W v l) (h : B ≤ W.heap.size) => appendTo_6 B W v l a4 a6 (be8 x0 x1 x2 x3 x4 x5 x6 x7) (be8 x8 x9 x10 x11 x12 x13 x14 x15) z d h (by omega) hno)
  obtain ⟨LO, hLO⟩ : ∃ L, L = be8 x8 x9 x10 x11 x12 x13 x14 x15 := ⟨_, rfl⟩
  obtain ⟨HI, hHI⟩ : ∃ L, L = be8 x0 x1 x2 x3 x4 x5 x6 x7 := ⟨_, rfl⟩
  rw [← hLO, ← hHI] at H28 H29 ⊢
  clear hno hLO hHI
  rw [show [x0, x1, x2, x3, x4, x5, x6, x7, x8, x9, x10, x11, x12, x13, x14, x15].length = 16 from rfl]
  clear h1 h2 c0 c1 c2 c3 c4 c5 c6 c7 c8 c9 c10 c11 c12 c13 c14 c15 hz
  rcases hA with rfl | rfl
  · go_enter Tryd.func23, Tryd.ntmps23
    go_wp2_with fail
    refine H28.out.mono ?_
    rintro e w1 ⟨rfl, hb1⟩
    go_wp2_with fail
    have hb2 := hb1.alloc hb1.size (.cells #[.int .u64 HI, .int .u64 LO, .pointer (some a6)] 64)
    refine (H29.out _ (HZ.out.on (hb2.mono hB)) (hd.on hb2) (Nat.le_trans hB hb2.size)).mono ?_
    rintro e w3 ⟨v3, rfl, o3, b3⟩
    go_wp2
    go_ret
    exact ⟨v3, rfl, Dst.own o3, (Step.of hb2 hB).trans b3⟩
  · go_enter Tryd.func23, Tryd.ntmps23
    go_wp2_with fail
    refine H28.out.mono ?_
    rintro e w1 ⟨rfl, hb1⟩
    go_wp2_with fail
    have hb2 := hb1.alloc hb1.size (.cells #[.int .u64 HI, .int .u64 LO, .pointer (some a6)] 64)
    refine (H29.out _ (HZ.out.on (hb2.mono hB)) (hd.on hb2) (Nat.le_trans hB hb2.size)).mono ?_
    rintro e w3 ⟨v3, rfl, o3, b3⟩
    go_wp2
    go_ret
    exact ⟨v3, rfl, Dst.own o3, (Step.of hb2 hB).trans b3⟩
end Go.Proofs.Qxb6604517aDoor
