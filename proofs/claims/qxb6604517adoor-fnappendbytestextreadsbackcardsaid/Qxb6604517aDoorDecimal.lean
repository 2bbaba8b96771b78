import Derived.Test.Qxb6604517aDoorSlices
import Derived.Test.Qxb6604517aDoorPlain
namespace Go.Proofs.Qxb6604517aDoor
open Go.RowKit

set_option maxHeartbeats 400000 in
/-- decimalModel(dst, n) appends n's decimal numeral. -/
theorem decimal_any (B : Nat) (w : World) (v : Value) (l : List UInt8) (n : Nat) (N : Int) (hN : N = (n : Int)) (hd : Dst B w v l) (hB : B ≤ w.heap.size) (hn : n < 18446744073709551616) (hl : l.length ≤ 1099511627776) :
    Calls Tryd.prog 21 #[v, .int .u64 N] w fun e w' => ∃ v', e = .returned v' ∧ Own B w' v' (l ++ Lib.decDigits n) ∧ Step B w w' := by
  have h20 := decDigits_len20 n hn
  have hN0 : 0 ≤ N := by omega
  have hN1 : N ≤ 18446744073709551615 := by omega
  have HN : Hid (N = (n : Int)) := hN
  have H20 := Lib.hid h20
  have HB := Lib.hid hB
  clear hN hn h20 hB
  go_enter Tryd.func21, Tryd.ntmps21
  go_wp2
  go_loopw [1, 6] (fun u i wr => ∃ (j : Nat) (a : Int) (tl : List UInt8), i = .int .i64 j ∧ u = .int .u64 a ∧ 0 ≤ a ∧ a ≤ 18446744073709551615 ∧ BufAt w.heap.size 57 20 j tl wr ∧ Below w.heap.size w wr ∧ Hid (Lib.decDigits n = Lib.decDigits a.toNat ++ tl)) (fun _ i _ => (intOf i).toNat)
  case atStart => exact ⟨20, N, [], rfl, rfl, hN0, hN1, BufAt.fresh w 57 _ 20 rfl, (Below.refl _ _).alloc (Nat.le_refl _) _, by show Lib.decDigits n = Lib.decDigits N.toNat ++ []; rw [HN.out]; simp⟩
  case round =>
    obtain ⟨j, a, tl, rfl, rfl, ha0, ha1, hBuf, hb, hdd⟩ := hrel
    have hlen := hBuf.len
    have hle : (Lib.decDigits a.toNat).length + tl.length ≤ 20 := by
      have := congrArg List.length hdd.out
      have := H20.out.2
      simp at *; omega
    have hx1 := (decDigits_len20 a.toNat (by omega)).1
    obtain ⟨i, rfl⟩ : ∃ i, j = i + 1 := ⟨j - 1, by omega⟩
    have hi : (i : Int) < 20 := by omega
    obtain ⟨y, hy⟩ := hBuf.has i (by omega)
    have hf := hBuf.free i
    obtain ⟨c, hc⟩ : ∃ c, c = UInt8.ofNat (48 + a.toNat % 10) := ⟨_, rfl⟩
    have hput := Lib.hid (hBuf.put c (48 + a % 10) (by rw [hc, digit_toNat _ (by omega)]; omega))
    have hb2 := Lib.hid (hb.setCell (p := ⟨w.heap.size, i, none⟩) (Nat.le_refl _) (.int .u8 (48 + a % 10)))
    have HC := Lib.hid hc
    clear hBuf hle hx1 hlen hN0 hN1 hb hc
    by_cases h10 : 10 ≤ a
    · have hz : (a / 10 == 0) = false := beq_eq_false_iff_ne.2 (by omega)
      go_wp2
      go_roundw
      case rel =>
        refine ⟨i, a / 10, c :: tl, rfl, rfl, by omega, by omega, hput.out, hb2.out, ?_⟩
        show Lib.decDigits n = _
        rw [hdd.out, decDigits_step a.toNat (by omega), show (a / 10).toNat = a.toNat / 10 from by omega, HC.out]; simp
      case measure => simp [intOf]
    · have hz : (a / 10 == 0) = true := beq_iff_eq.2 (by omega)
      have hdg : Lib.decDigits n = c :: tl := by
        rw [hdd.out, decDigits_small a.toNat (by omega), HC.out]; rfl
      obtain ⟨L, hL⟩ : ∃ L, L = l ++ c :: tl := ⟨_, rfl⟩
      have HD := Lib.hid hdg
      have HL := Lib.hid hL
      have hdst := Lib.hid (hd.on hb2.out)
      have hi' : ¬ i = 20 := by omega
      have hile : (i : Int) ≤ 20 := by omega
      have hlen2 := hput.out.len
      have ha9 : a ≤ 9 := by omega
      have HBs := Lib.hid (Nat.le_trans HB.out hb2.out.size)
      have HM := Lib.hid (show 20 - i = (c :: tl).length by omega)
      have HLim := Lib.hid (show l.length + (c :: tl).length ≤ 140737488355328 by omega)
      clear hdg hd ha1 h10 hL hlen2
      go_wp2_with (at_builtin; refine wpList_append_dst rfl _ _ rfl B v l rfl hdst.out HBs.out ⟨w.heap.size, i, none⟩ _ _ (c :: tl) L HL.out rfl HM.out hput.out.cells (by simp) HLim.out ?_)
      intro v' w' ho hbw
      go_wp2
      go_ret
      refine ⟨v', rfl, by rw [HD.out, ← HL.out]; exact ho, ?_⟩
      exact (Step.of hb2.out HB.out).trans hbw

/-- Four numbers with dots between. -/
def dotted (p q r s : Nat) : List UInt8 := Lib.decDigits p ++ [46] ++ Lib.decDigits q ++ [46] ++ Lib.decDigits r ++ [46] ++ Lib.decDigits s

theorem decDigits_len3 (u : Nat) (h : u < 256) : (Lib.decDigits u).length ≤ 20 := (decDigits_len20 u (by omega)).2

set_option maxHeartbeats 800000 in
theorem dotted_any (B : Nat) (w : World) (v : Value) (l : List UInt8) (p q r s : UInt8) (hd : Dst B w v l) (hB : B ≤ w.heap.size) (hl : l.length ≤ 1000000000) :
    Calls Tryd.prog 18 #[v, .int .u8 (p.toNat : Int), .int .u8 (q.toNat : Int), .int .u8 (r.toNat : Int), .int .u8 (s.toNat : Int)] w fun e w' => ∃ v', e = .returned v' ∧ Own B w' v' (l ++ dotted p.toNat q.toNat r.toNat s.toNat) ∧ Step B w w' := by
  have hp := p.toNat_lt
  have hq := q.toNat_lt
  have hr := r.toNat_lt
  have hs := s.toNat_lt
  have dp := decDigits_len3 p.toNat hp
  have dq := decDigits_len3 q.toNat hq
  have dr := decDigits_len3 r.toNat hr
  obtain ⟨L1, e1⟩ : ∃ L, L = l ++ Lib.decDigits p.toNat ++ [46] := ⟨_, rfl⟩
  obtain ⟨L2, e2⟩ : ∃ L, L = L1 ++ Lib.decDigits q.toNat ++ [46] := ⟨_, rfl⟩
  obtain ⟨L3, e3⟩ : ∃ L, L = L2 ++ Lib.decDigits r.toNat ++ [46] := ⟨_, rfl⟩
  have l1 : L1.length ≤ l.length + 21 := by rw [e1]; simp; omega
  have l2 : L2.length ≤ l.length + 42 := by rw [e2]; simp; omega
  have l3 : L3.length ≤ l.length + 63 := by rw [e3]; simp; omega
  have eF : l ++ dotted p.toNat q.toNat r.toNat s.toNat = L3 ++ Lib.decDigits s.toNat := by rw [e3, e2, e1]; simp [dotted]
  have E1 := Lib.hid e1
  have E2 := Lib.hid e2
  have E3 := Lib.hid e3
  have EF := Lib.hid eF
  clear e1 e2 e3 eF
  go_enter Tryd.func18, Tryd.ntmps18
  go_wp2_with fail
  refine (decimal_any B _ v l p.toNat _ rfl hd hB (by omega) (by omega)).mono ?_
  rintro e w1 ⟨v1, rfl, o1, b1⟩
  have s1 : B ≤ w1.heap.size := Nat.le_trans hB b1.size
  go_wp2_with (at_builtin; refine wpList_append1 rfl _ _ rfl B v1 _ rfl (Dst.own o1) s1 46 46 rfl L1 E1.out rfl (by simp; omega) ?_)
  intro v2 w2 o2 b2
  have s2 : B ≤ w2.heap.size := Nat.le_trans s1 b2.size
  go_wp2_with fail
  refine (decimal_any B _ v2 L1 q.toNat _ rfl (Dst.own o2) s2 (by omega) (by omega)).mono ?_
  rintro e w3 ⟨v3, rfl, o3, b3⟩
  have s3 : B ≤ w3.heap.size := Nat.le_trans s2 b3.size
  go_wp2_with (at_builtin; refine wpList_append1 rfl _ _ rfl B v3 _ rfl (Dst.own o3) s3 46 46 rfl L2 E2.out rfl (by simp; omega) ?_)
  intro v4 w4 o4 b4
  have s4 : B ≤ w4.heap.size := Nat.le_trans s3 b4.size
  go_wp2_with fail
  refine (decimal_any B _ v4 L2 r.toNat _ rfl (Dst.own o4) s4 (by omega) (by omega)).mono ?_
  rintro e w5 ⟨v5, rfl, o5, b5⟩
  have s5 : B ≤ w5.heap.size := Nat.le_trans s4 b5.size
  go_wp2_with (at_builtin; refine wpList_append1 rfl _ _ rfl B v5 _ rfl (Dst.own o5) s5 46 46 rfl L3 E3.out rfl (by simp; omega) ?_)
  intro v6 w6 o6 b6
  have s6 : B ≤ w6.heap.size := Nat.le_trans s5 b6.size
  go_wp2_with fail
  refine (decimal_any B _ v6 L3 s.toNat _ rfl (Dst.own o6) s6 (by omega) (by omega)).mono ?_
  rintro e w7 ⟨v7, rfl, o7, b7⟩
  go_wp2
  go_ret
  exact ⟨v7, rfl, by rw [EF.out]; exact o7, ((((((b1.trans b2).trans b3).trans b4).trans b5).trans b6).trans b7)⟩
end Go.Proofs.Qxb6604517aDoor
