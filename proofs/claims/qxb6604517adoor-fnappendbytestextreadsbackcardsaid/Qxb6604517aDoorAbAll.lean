import Derived.Test.Qxb6604517aDoorNotation
import Derived.Test.Qxb6604517aDoorAbAddr
namespace Go.Proofs.Qxb6604517aDoor
open Go.RowKit

theorem grp_at (hi lo : Int) : grp hi lo 0 = hi / 281474976710656 % 65536 ∧ grp hi lo 1 = hi / 4294967296 % 65536 ∧ grp hi lo 2 = hi / 65536 % 65536 ∧ grp hi lo 3 = hi % 65536 ∧ grp hi lo 4 = lo / 281474976710656 % 65536 ∧ grp hi lo 5 = lo / 4294967296 % 65536 ∧ grp hi lo 6 = lo / 65536 % 65536 ∧ grp hi lo 7 = lo % 65536 :=
  ⟨rfl, rfl, rfl, rfl, rfl, rfl, rfl, rfl⟩
theorem be8_parts (x0 x1 x2 x3 x4 x5 x6 x7 : UInt8) : (be8 x0 x1 x2 x3 x4 x5 x6 x7 / 281474976710656 % 65536).toNat = x0.toNat * 256 + x1.toNat ∧ (be8 x0 x1 x2 x3 x4 x5 x6 x7 / 4294967296 % 65536).toNat = x2.toNat * 256 + x3.toNat ∧ (be8 x0 x1 x2 x3 x4 x5 x6 x7 / 65536 % 65536).toNat = x4.toNat * 256 + x5.toNat ∧ (be8 x0 x1 x2 x3 x4 x5 x6 x7 % 65536).toNat = x6.toNat * 256 + x7.toNat := by
  have l0 := x0.toNat_lt; have l1 := x1.toNat_lt; have l2 := x2.toNat_lt; have l3 := x3.toNat_lt; have l4 := x4.toNat_lt; have l5 := x5.toNat_lt; have l6 := x6.toNat_lt; have l7 := x7.toNat_lt
  unfold be8
  generalize x0.toNat = a0 at *
  generalize x1.toNat = a1 at *
  generalize x2.toNat = a2 at *
  generalize x3.toNat = a3 at *
  generalize x4.toNat = a4 at *
  generalize x5.toNat = a5 at *
  generalize x6.toNat = a6 at *
  generalize x7.toNat = a7 at *
  refine ⟨?_, ?_, ?_, ?_⟩ <;> omega

theorem grp_gq (x0 x1 x2 x3 x4 x5 x6 x7 x8 x9 x10 x11 x12 x13 x14 x15 : UInt8) (k : Nat) : (grp (be8 x0 x1 x2 x3 x4 x5 x6 x7) (be8 x8 x9 x10 x11 x12 x13 x14 x15) k).toNat = gq [x0, x1, x2, x3, x4, x5, x6, x7, x8, x9, x10, x11, x12, x13, x14, x15] k := by
  obtain ⟨a0, a1, a2, a3⟩ := be8_parts x0 x1 x2 x3 x4 x5 x6 x7
  obtain ⟨a4, a5, a6, a7⟩ := be8_parts x8 x9 x10 x11 x12 x13 x14 x15
  generalize be8 x0 x1 x2 x3 x4 x5 x6 x7 = hi at *
  generalize be8 x8 x9 x10 x11 x12 x13 x14 x15 = lo at *
  obtain ⟨g0, g1, g2, g3, g4, g5, g6, g7⟩ := grp_at hi lo
  have : k = 0 ∨ k = 1 ∨ k = 2 ∨ k = 3 ∨ k = 4 ∨ k = 5 ∨ k = 6 ∨ k = 7 ∨ 8 ≤ k := by omega
  rcases this with rfl | rfl | rfl | rfl | rfl | rfl | rfl | rfl | h
  · rw [g0]; exact a0
  · rw [g1]; exact a1
  · rw [g2]; exact a2
  · rw [g3]; exact a3
  · rw [g4]; exact a4
  · rw [g5]; exact a5
  · rw [g6]; exact a6
  · rw [g7]; exact a7
  · unfold grp grps gq
    rw [List.getD_eq_getElem?_getD, List.getElem?_eq_none (by simpa using h), List.getD_eq_getElem?_getD, List.getElem?_eq_none (by simp; omega), List.getD_eq_getElem?_getD, List.getElem?_eq_none (by simp; omega)]
    rfl

theorem zf_gq (x0 x1 x2 x3 x4 x5 x6 x7 x8 x9 x10 x11 x12 x13 x14 x15 : UInt8) : zf (be8 x0 x1 x2 x3 x4 x5 x6 x7) (be8 x8 x9 x10 x11 x12 x13 x14 x15) = fun k => gq [x0, x1, x2, x3, x4, x5, x6, x7, x8, x9, x10, x11, x12, x13, x14, x15] k == 0 := by
  funext k
  have h := grp_gq x0 x1 x2 x3 x4 x5 x6 x7 x8 x9 x10 x11 x12 x13 x14 x15 k
  have hb := grp_bd (be8 x0 x1 x2 x3 x4 x5 x6 x7) (be8 x8 x9 x10 x11 x12 x13 x14 x15) k
  unfold zf
  by_cases e : gq [x0, x1, x2, x3, x4, x5, x6, x7, x8, x9, x10, x11, x12, x13, x14, x15] k = 0
  · rw [beq_iff_eq.2 e, beq_iff_eq]; omega
  · rw [beq_eq_false_iff_ne.2 e, beq_eq_false_iff_ne]; omega

theorem u8_zero (x : UInt8) (h : x.toNat = 0) : x = 0 := UInt8.toNat_inj.1 h
theorem u8_ff (x : UInt8) (h : x.toNat = 255) : x = 255 := UInt8.toNat_inj.1 h

theorem map_gq (x0 x1 x2 x3 x4 x5 x6 x7 x8 x9 x10 x11 x12 x13 x14 x15 : UInt8) : (be8 x0 x1 x2 x3 x4 x5 x6 x7 == 0 && be8 x8 x9 x10 x11 x12 x13 x14 x15 / 4294967296 == 65535) = ((([x0, x1, x2, x3, x4, x5, x6, x7, x8, x9, x10, x11, x12, x13, x14, x15] : List UInt8).getD 10 0 == 255 && ([x0, x1, x2, x3, x4, x5, x6, x7, x8, x9, x10, x11, x12, x13, x14, x15] : List UInt8).getD 11 0 == 255) && (([x0, x1, x2, x3, x4, x5, x6, x7, x8, x9, x10, x11, x12, x13, x14, x15] : List UInt8).take 10).all (fun c => c == 0)) := by
  have l0 := x0.toNat_lt
  have l1 := x1.toNat_lt
  have l2 := x2.toNat_lt
  have l3 := x3.toNat_lt
  have l4 := x4.toNat_lt
  have l5 := x5.toNat_lt
  have l6 := x6.toNat_lt
  have l7 := x7.toNat_lt
  have l8 := x8.toNat_lt
  have l9 := x9.toNat_lt
  have l10 := x10.toNat_lt
  have l11 := x11.toNat_lt
  have l12 := x12.toNat_lt
  have l13 := x13.toNat_lt
  have l14 := x14.toNat_lt
  have l15 := x15.toNat_lt
  show (be8 x0 x1 x2 x3 x4 x5 x6 x7 == 0 && be8 x8 x9 x10 x11 x12 x13 x14 x15 / 4294967296 == 65535) = ((x10 == 255 && x11 == 255) && [x0, x1, x2, x3, x4, x5, x6, x7, x8, x9].all (fun c => c == 0))
  rw [Bool.eq_iff_iff]
  simp only [Bool.and_eq_true, beq_iff_eq, List.all_cons, List.all_nil, and_true]
  constructor
  · rintro ⟨h1, h2⟩
    unfold be8 at h1 h2
    exact ⟨⟨u8_ff _ (by omega), u8_ff _ (by omega)⟩, u8_zero _ (by omega), u8_zero _ (by omega), u8_zero _ (by omega), u8_zero _ (by omega), u8_zero _ (by omega), u8_zero _ (by omega), u8_zero _ (by omega), u8_zero _ (by omega), u8_zero _ (by omega), u8_zero _ (by omega)⟩
  · rintro ⟨⟨rfl, rfl⟩, rfl, rfl, rfl, rfl, rfl, rfl, rfl, rfl, rfl, rfl⟩
    unfold be8
    refine ⟨by simp, ?_⟩
    have e0 : (0 : UInt8).toNat = 0 := rfl
    have ef : (255 : UInt8).toNat = 255 := rfl
    rw [e0, ef]
    omega

theorem list4 (t : List UInt8) (h : t.length = 4) : t = [t.getD 0 0, t.getD 1 0, t.getD 2 0, t.getD 3 0] := by
  match t, h with
  | [a, b, c, d], _ => rfl
theorem list16 (t : List UInt8) (h : t.length = 16) : ∃ x0 x1 x2 x3 x4 x5 x6 x7 x8 x9 x10 x11 x12 x13 x14 x15, t = [x0, x1, x2, x3, x4, x5, x6, x7, x8, x9, x10, x11, x12, x13, x14, x15] := by
  match t, h with
  | [x0, x1, x2, x3, x4, x5, x6, x7, x8, x9, x10, x11, x12, x13, x14, x15], _ => exact ⟨x0, x1, x2, x3, x4, x5, x6, x7, x8, x9, x10, x11, x12, x13, x14, x15, rfl⟩

/-- report.appendBytes. -/
theorem ab_any (B : Nat) (A : Int) (a4 a6 : Addr) (v : Value) (l : List UInt8) (x : Value) (t : List UInt8) (w : World) (hz : Zs B w a4 a6) (htab : Lib.TabIs Tryd.prog w powName .u64 Lib.pow10Tab) (hd : Dst B w v l) (hx : Rd B w x t) (hB : B ≤ w.heap.size) (hl : l.length ≤ 10000000) (ht : t.length ≤ 10000000) :
    Calls Tryd.prog 23 #[v, .int .u8 A, x] w fun e w' => ∃ v', e = .returned v' ∧ Dst B w' v' (l ++ notn A t) ∧ Step B w w' := by
  have hx' := hx.mono hB
  unfold notn
  by_cases h4 : (A = 8 ∨ A = 9) ∧ t.length = 4
  · rw [if_pos h4]
    rw [list4 t h4.2] at hx'
    exact ab_4 B A h4.1 a4 a6 v l x _ _ _ _ w hz hd hx' hB hl
  · rw [if_neg h4]
    by_cases h16 : (A = 8 ∨ A = 9) ∧ t.length = 16
    · rw [if_pos h16]
      obtain ⟨x0, x1, x2, x3, x4, x5, x6, x7, x8, x9, x10, x11, x12, x13, x14, x15, rfl⟩ := list16 t h16.2
      unfold ipText
      have hm := map_gq x0 x1 x2 x3 x4 x5 x6 x7 x8 x9 x10 x11 x12 x13 x14 x15
      by_cases hy : ((([x0, x1, x2, x3, x4, x5, x6, x7, x8, x9, x10, x11, x12, x13, x14, x15] : List UInt8).getD 10 0 == 255 && ([x0, x1, x2, x3, x4, x5, x6, x7, x8, x9, x10, x11, x12, x13, x14, x15] : List UInt8).getD 11 0 == 255) && (([x0, x1, x2, x3, x4, x5, x6, x7, x8, x9, x10, x11, x12, x13, x14, x15] : List UInt8).take 10).all (fun c => c == 0)) = true
      · rw [if_pos hy]
        rw [hy] at hm
        simp only [Bool.and_eq_true, beq_iff_eq] at hm
        exact ab_map B A h16.1 a4 a6 v l x x0 x1 x2 x3 x4 x5 x6 x7 x8 x9 x10 x11 x12 x13 x14 x15 w hz hd hx' hB hl hm.1 hm.2
      · rw [if_neg hy]
        rw [Bool.eq_false_iff.2 hy] at hm
        have H := ab_16 B A h16.1 a4 a6 v l x x0 x1 x2 x3 x4 x5 x6 x7 x8 x9 x10 x11 x12 x13 x14 x15 w hz hd hx' hB hl hm
        rw [zf_gq, show (fun k => (grp (be8 x0 x1 x2 x3 x4 x5 x6 x7) (be8 x8 x9 x10 x11 x12 x13 x14 x15) k).toNat) = gq [x0, x1, x2, x3, x4, x5, x6, x7, x8, x9, x10, x11, x12, x13, x14, x15] from funext (grp_gq x0 x1 x2 x3 x4 x5 x6 x7 x8 x9 x10 x11 x12 x13 x14 x15)] at H
        exact H
    · rw [if_neg h16]
      by_cases hh : A = 4 ∨ A = 5
      · rw [if_pos hh]; exact ab_hex B A hh v l x t w hd hx hB hl ht
      · rw [if_neg hh]
        by_cases h8 : A = 8 ∨ A = 9
        · exact ab_decNo B A h8 v l x t w hd hx' hB hl ht (fun e => h4 ⟨h8, e⟩) (fun e => h16 ⟨h8, e⟩) htab
        · exact ab_dec B A ⟨fun e => h8 (Or.inl e), fun e => h8 (Or.inr e), fun e => hh (Or.inl e), fun e => hh (Or.inr e)⟩ v l x t w hd hx' hB hl ht htab
end Go.Proofs.Qxb6604517aDoor
