import Derived.Test.Qxb6604517aDoorRead13
namespace Go.Proofs.Qxb6604517aDoor
open Go.RowKit

set_option maxHeartbeats 6400000 in
set_option maxRecDepth 100000 in
theorem pv6_one (w : World) (b o cap len : Nat) (T : List UInt8) (F : Nat → Int) (hT : len = T.length) (hA : At w b o T) (hbl : b < w.heap.size) (hlen : len ≤ 1000) (hno : ∀ i : Nat, ¬ (T[i]? = some 58 ∧ T[i + 1]? = some 58)) (hFr : ∀ k, 0 ≤ F k ∧ F k < 65536)
    (hL : ∀ W, Below w.heap.size w W → Calls Tryd.prog 24 #[.slice (some ⟨b, o, none⟩) len cap, .bool true] W fun e w' => e = .returned (.tuple #[aggW F, .int .i64 8, .bool true]) ∧ Below W.heap.size W w') :
    Calls Tryd.prog 13 #[.slice (some ⟨b, o, none⟩) len cap] w fun e w' => e = .returned (.tuple #[agg16 (wb F), .bool true]) ∧ Below w.heap.size w w' := by
  have HC := Lib.hid (show ∀ (wr : World), Below w.heap.size w wr → ∀ i, i + 1 < len → ∃ C D : Int, wr.cell? ⟨b, o + i, none⟩ = some (.int .u8 C) ∧ wr.cell? ⟨b, o + (i + 1), none⟩ = some (.int .u8 D) ∧ (C = 58 → D ≠ 58) from fun wr hb i hi => by
    refine ⟨_, _, (hA.on hb hbl) i (by omega), (hA.on hb hbl) (i + 1) (by omega), fun h1 h2 => hno i ?_⟩
    rw [List.getElem?_eq_getElem (by omega), List.getElem?_eq_getElem (by omega)]
    exact ⟨congrArg some (UInt8.toNat_inj.1 (by show _ = 58; omega)), congrArg some (UInt8.toNat_inj.1 (by show _ = 58; omega))⟩)
  obtain ⟨h, hh⟩ : ∃ h : Nat → Int, h = wb F := ⟨_, rfl⟩
  have HH := Lib.hid (show ∀ k, h (2 * k) = F k / 256 ∧ h (2 * k + 1) = F k % 256 from fun k => by
    rw [hh]; unfold wb
    rw [if_pos (by omega), if_neg (by omega), show 2 * k / 2 = k by omega, show (2 * k + 1) / 2 = k by omega]
    exact ⟨rfl, rfl⟩)
  rw [← hh]
  have HFr := Lib.hid hFr
  have HL := Lib.hid hL
  clear hT hA hno hh hFr hL
  go_enter Tryd.func13, Tryd.ntmps13
  go_wp2
  have p0 := P6.start w h
  go_loopw [6, 7] (fun s6 s7 wr => ∃ i : Nat, i ≤ len ∧ s6 = .int .i64 (-1) ∧ s7 = .int .i64 (i : Int) ∧ P6 w h (fun _ => 0) 0 wr) (fun _ s7 _ => len - (intOf s7).toNat)
  case atStart => exact ⟨0, by omega, rfl, rfl, p0⟩
  case round =>
    clear p0
    obtain ⟨i, hi, rfl, rfl, p⟩ := hrel
    by_cases hlt : i + 1 < len
    · obtain ⟨C, D, c1, c2, hne⟩ := HC.out wr p.hb i hlt
      have P := Lib.hid p
      have hlti : (i : Int) + 1 < (len : Int) := by omega
      clear p
      by_cases h58 : C = 58
      · have hD : (D == 58) = false := beq_eq_false_iff_ne.2 (hne h58)
        have hC : (C == 58) = true := beq_iff_eq.2 h58
        clear hne h58
        go_wp2
        go_roundw
        case rel => exact ⟨i + 1, by omega, rfl, by go_num, P.out⟩
        case measure => simp [intOf]; omega
      · have hC : (C == 58) = false := beq_eq_false_iff_ne.2 h58
        clear hne h58
        go_wp2
        go_roundw
        case rel => exact ⟨i + 1, by omega, rfl, by go_num, P.out⟩
        case measure => simp [intOf]; omega
    · have hlti : (len : Int) ≤ (i : Int) + 1 := by omega
      have hcall := Lib.hid (HL.out wr p.hb)
      have P := Lib.hid p
      clear p HL HC hlt
      go_wp2_with fail
      refine hcall.out.mono ?_
      rintro e w1 ⟨rfl, hb1⟩
      clear hcall
      have P1 := P.out.on hb1
      have hs1 := Nat.lt_of_lt_of_le P.out.lt hb1.size
      have hZ : BN 49 8 .u16 F w1.heap.size 0 (w1.alloc (.cells #[.int .u16 0, .int .u16 0, .int .u16 0, .int .u16 0, .int .u16 0, .int .u16 0, .int .u16 0, .int .u16 0] 49)) := BN.fresh w1 #[.int .u16 0, .int .u16 0, .int .u16 0, .int .u16 0, .int .u16 0, .int .u16 0, .int .u16 0, .int .u16 0] rfl eight
      clear P hb1
      go_wp2_with (first | (refine wpl_store8 rfl _ _ rfl w1.heap.size F rfl rfl hZ ?_; intro W2 hG2 hO2) | (refine wpl_load8 rfl _ rfl w1.heap.size F rfl hG2 ?_) | (refine wpl_store8 rfl _ _ rfl (w.heap.size + 2) F rfl rfl ((P1.alloc _).only hs1 hO2).hw ?_; intro W3 hG3 hO3))
      have PW := Lib.hid (((P1.alloc _).only hs1 hO2).words hG3 hO3)
      clear hZ hG2 hO2 hG3 hO3 P1 hs1
      go_loopw [19] (fun s wr => ∃ k : Nat, k ≤ 8 ∧ s = .int .i64 (k : Int) ∧ P6 w h F (2 * k) wr) (fun s _ => 8 - (intOf s).toNat)
      case atStart => exact ⟨0, by omega, rfl, PW.out⟩
      case round =>
        clear PW
        obtain ⟨k, hk, rfl, p⟩ := hrel
        by_cases hk8 : k < 8
        · have c := p.hw.cell k hk8
          have z1 := p.ho.zero (2 * k) (Nat.le_refl _) (by omega)
          have fz1 := p.ho.free (2 * k)
          have v1 : F k / 256 = h (2 * k) := (HH.out k).1.symm
          have v2 : F k % 256 = h (2 * k + 1) := (HH.out k).2.symm
          have p1 := p.byte (by omega) _ v1
          have c2 := p1.hw.cell k hk8
          have z2 := p1.ho.zero (2 * k + 1) (Nat.le_refl _) (by omega)
          have fz2 := p1.ho.free (2 * k + 1)
          have p2 := Lib.hid (p1.byte (by omega) _ v2)
          obtain ⟨r0, r1⟩ := HFr.out k
          obtain ⟨X, hX⟩ : ∃ X : Int, X = F k := ⟨_, rfl⟩
          rw [← hX] at c c2 z2 fz2 p2 r0 r1
          have r2 : X / 256 % 256 = X / 256 := by omega
          have r3 : X / 256 < 256 := by omega
          have r4 : 0 ≤ X / 256 := by omega
          clear p p1 hX v1 v2
          go_wp2
          go_roundw
          case rel => exact ⟨k + 1, by omega, by go_num, p2.out⟩
          case measure => simp [intOf]; omega
        · obtain rfl : k = 8 := by omega
          have P := Lib.hid p
          have ho : BN 32 16 .u8 h (w.heap.size + 1) 16 wr := p.ho
          have hr := p.hr
          clear p
          go_wp2_with (first | (refine wpl_load16 rfl _ rfl (w.heap.size + 1) h rfl ho ?_) | (refine wpl_store16 rfl _ _ rfl w.heap.size h rfl rfl hr ?_; intro W9 hG9 hO9))
          exact bodyPost_ret (v := .tuple #[agg16 h, .bool true]) (by simp [results, Tryd.results13, asAddr, run_loadVar_row W9 w.heap.size 32 32 (row16 h) (0, 0) _ hG9.arr16 Tryd.underlying32 rfl info32, agg16, row16]) rfl ⟨rfl, hO9.below _ _ P.out.hb (Nat.le_refl _)⟩
end Go.Proofs.Qxb6604517aDoor
