import Derived.Test.Qxb6604517aDoorDecimal
import Derived.Laws.BitsAllLaws
namespace Go.Proofs.Qxb6604517aDoor
open Go.RowKit

/-- A hex digit, small letters. -/
def hexd (x : Nat) : UInt8 := if x < 10 then UInt8.ofNat (48 + x) else UInt8.ofNat (87 + x)
theorem hexd_toNat (x : Nat) (h : x < 16) : (hexd x).toNat = if x < 10 then 48 + x else 87 + x := by
  unfold hexd; split <;> simp <;> omega

set_option maxHeartbeats 400000 in
theorem hexDigit_any (x : Int) (w : World) (h0 : 0 ≤ x) (h1 : x < 16) :
    Calls Tryd.prog 27 #[.int .u8 x] w fun e w' => e = .returned (.int .u8 ((hexd x.toNat).toNat : Int)) ∧ w' = w := by
  have hh := hexd_toNat x.toNat (by omega)
  go_enter Tryd.func27, Tryd.ntmps27
  go_wp2
  all_goals
    go_ret
    refine ⟨?_, rfl⟩
    show Ending.returned (Value.int .u8 _) = Ending.returned (Value.int .u8 _)
    congr 2
    rw [hh]
    first | (rw [if_pos (by omega)]; omega) | (rw [if_neg (by omega)]; omega)

/-- A uint16 in hex, no leading nought. -/
def hex16 (x : Nat) : List UInt8 :=
  if x < 16 then [hexd x] else if x < 256 then [hexd (x / 16), hexd (x % 16)] else if x < 4096 then [hexd (x / 256), hexd (x / 16 % 16), hexd (x % 16)] else [hexd (x / 4096), hexd (x / 256 % 16), hexd (x / 16 % 16), hexd (x % 16)]

theorem hex16_small (x : Nat) (h : x < 16) : hex16 x = [hexd (x % 16)] := by unfold hex16; rw [if_pos h, Nat.mod_eq_of_lt h]
theorem hex16_step (x : Nat) (h0 : 16 ≤ x) (h : x < 65536) : hex16 x = hex16 (x / 16) ++ [hexd (x % 16)] := by
  unfold hex16
  rw [if_neg (show ¬ x < 16 by omega)]
  by_cases h1 : x < 256
  · rw [if_pos h1, if_pos (show x / 16 < 16 by omega)]; rfl
  · rw [if_neg h1, if_neg (show ¬ x / 16 < 16 by omega)]
    by_cases h2 : x < 4096
    · rw [if_pos h2, if_pos (show x / 16 < 256 by omega), show x / 16 / 16 = x / 256 by omega]; rfl
    · rw [if_neg h2, if_neg (show ¬ x / 16 < 256 by omega), if_pos (show x / 16 < 4096 by omega), show x / 16 / 256 = x / 4096 by omega, show x / 16 / 16 = x / 256 by omega]; rfl
theorem hex16_len (x : Nat) : 1 ≤ (hex16 x).length ∧ (hex16 x).length ≤ 4 := by
  unfold hex16; split
  · simp
  · split
    · simp
    · split <;> simp

theorem and15_u16 (a : Int) (h0 : 0 ≤ a) (h1 : a < 65536) : bits .and .u16 a 15 = a % 16 := by
  rw [u16_and a 15 h0 h1 (by omega) (by omega), show (15 : Int).toNat = 15 from rfl, nat_mask4]
  omega

set_option maxHeartbeats 400000 in
theorem hex16_any (B : Nat) (w : World) (v : Value) (l : List UInt8) (N : Int) (hd : Dst B w v l) (hB : B ≤ w.heap.size) (h0 : 0 ≤ N) (h1 : N < 65536) (hl : l.length ≤ 1099511627776) :
    Calls Tryd.prog 26 #[v, .int .u16 N] w fun e w' => ∃ v', e = .returned v' ∧ Own B w' v' (l ++ hex16 N.toNat) ∧ Step B w w' := by
  have H20 := Lib.hid (hex16_len N.toNat)
  have HB := Lib.hid hB
  clear hB
  go_enter Tryd.func26, Tryd.ntmps26
  go_wp2
  go_loopw [1, 6] (fun u i wr => ∃ (j : Nat) (a : Int) (tl : List UInt8), i = .int .i64 j ∧ u = .int .u16 a ∧ 0 ≤ a ∧ a < 65536 ∧ BufAt w.heap.size 29 4 j tl wr ∧ Below w.heap.size w wr ∧ Hid (hex16 N.toNat = hex16 a.toNat ++ tl)) (fun _ i _ => (intOf i).toNat)
  case atStart => exact ⟨4, N, [], rfl, rfl, h0, h1, BufAt.fresh w 29 _ 4 rfl, (Below.refl _ _).alloc (Nat.le_refl _) _, by show hex16 N.toNat = hex16 N.toNat ++ []; simp⟩
  case round =>
    obtain ⟨j, a, tl, rfl, rfl, ha0, ha1, hBuf, hb, hdd⟩ := hrel
    have hlen := hBuf.len
    have hle : (hex16 a.toNat).length + tl.length ≤ 4 := by
      have := congrArg List.length hdd.out
      have := H20.out.2
      simp at *; omega
    have hx1 := (hex16_len a.toNat).1
    obtain ⟨i, rfl⟩ : ∃ i, j = i + 1 := ⟨j - 1, by omega⟩
    have hi : (i : Int) < 4 := by omega
    obtain ⟨y, hy⟩ := hBuf.has i (by omega)
    have hf := hBuf.free i
    obtain ⟨c, hc⟩ : ∃ c, c = hexd (a % 16).toNat := ⟨_, rfl⟩
    have hput := Lib.hid (hBuf.put c (c.toNat : Int) rfl)
    have hb2 := Lib.hid (hb.setCell (p := ⟨w.heap.size, i, none⟩) (Nat.le_refl _) (.int .u8 (c.toNat : Int)))
    have h15 := and15_u16 a ha0 ha1
    have hc2 : Calls Tryd.prog 27 #[.int .u8 (a % 16)] wr fun e w' => e = .returned (.int .u8 (c.toNat : Int)) ∧ w' = wr := by rw [hc]; exact hexDigit_any (a % 16) wr (by omega) (by omega)
    have HC2 := Lib.hid hc2
    have HC := Lib.hid hc
    clear hBuf hle hx1 hlen h0 h1 hb hc hc2
    by_cases h10 : 16 ≤ a
    · have hz : (a / 16 == 0) = false := beq_eq_false_iff_ne.2 (by omega)
      go_wp2_with (go_at_call 27; refine HC2.out.mono ?_; rintro e w' ⟨rfl, rfl⟩)
      go_roundw
      case rel =>
        refine ⟨i, a / 16, c :: tl, rfl, rfl, by omega, by omega, hput.out, hb2.out, ?_⟩
        show hex16 N.toNat = _
        rw [hdd.out, hex16_step a.toNat (by omega) (by omega), show (a / 16).toNat = a.toNat / 16 from by omega, HC.out, show (a % 16).toNat = a.toNat % 16 from by omega]; simp
      case measure => simp [intOf]
    · have hz : (a / 16 == 0) = true := beq_iff_eq.2 (by omega)
      have hdg : hex16 N.toNat = c :: tl := by
        rw [hdd.out, hex16_small a.toNat (by omega), HC.out, show (a % 16).toNat = a.toNat % 16 from by omega]; rfl
      obtain ⟨L, hL⟩ : ∃ L, L = l ++ c :: tl := ⟨_, rfl⟩
      have HD := Lib.hid hdg
      have HL := Lib.hid hL
      have hdst := Lib.hid (hd.on hb2.out)
      have hi' : ¬ i = 4 := by omega
      have hile : (i : Int) ≤ 4 := by omega
      have hlen2 := hput.out.len
      have HBs := Lib.hid (Nat.le_trans HB.out hb2.out.size)
      have HM := Lib.hid (show 4 - i = (c :: tl).length by omega)
      have HLim := Lib.hid (show l.length + (c :: tl).length ≤ 140737488355328 by omega)
      clear hdg hd hL hlen2
      go_wp2_with (first | (go_at_call 27; refine HC2.out.mono ?_; rintro e w' ⟨rfl, rfl⟩) | (at_builtin; refine wpList_append_dst rfl _ _ rfl B v l rfl hdst.out HBs.out ⟨w.heap.size, i, none⟩ _ _ (c :: tl) L HL.out rfl HM.out hput.out.cells (by simp) HLim.out ?_))
      intro v' w' ho hbw
      go_wp2
      go_ret
      refine ⟨v', rfl, by rw [HD.out, ← HL.out]; exact ho, ?_⟩
      exact (Step.of hb2.out HB.out).trans hbw
end Go.Proofs.Qxb6604517aDoor
