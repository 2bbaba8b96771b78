import Derived.Test.Qxb6604517aDoorRead15
namespace Go.Proofs.Qxb6604517aDoor
open Go.RowKit

set_option maxHeartbeats 6400000 in
set_option maxRecDepth 100000 in
theorem pv6_end (w : World) (b o D nl nr M : Nat) (T : List UInt8) (fl fr F : Nat → Int) (hT : D + 2 = T.length) (hA : At w b o T) (hbl : b < w.heap.size) (hlen : D + 2 ≤ 1000) (hno : ∀ i : Nat, i < D → ¬ (T[i]? = some 58 ∧ T[i + 1]? = some 58)) (hc0 : T[D]? = some 58) (hc1 : T[D + 1]? = some 58) (hM : M + nr = 8) (hnl : nl + nr ≤ 7)
    (hF : ∀ k, k < 8 → F k = if k < nl then fl k else if M ≤ k then fr (k - M) else 0) (hFr : ∀ k, 0 ≤ F k ∧ F k < 65536)
    (hL : ∀ W, Below w.heap.size w W → Calls Tryd.prog 24 #[.slice (some ⟨b, o, none⟩) D (D + 2), .bool false] W fun e w' => e = .returned (.tuple #[aggW fl, .int .i64 (nl : Int), .bool true]) ∧ Below W.heap.size W w')
    (hR : ∀ W a c, Below w.heap.size w W → Calls Tryd.prog 24 #[.slice a 0 c, .bool true] W fun e w' => e = .returned (.tuple #[aggW fr, .int .i64 (nr : Int), .bool true]) ∧ Below W.heap.size W w') :
    Calls Tryd.prog 13 #[.slice (some ⟨b, o, none⟩) (D + 2) (D + 2)] w fun e w' => e = .returned (.tuple #[agg16 (wb F), .bool true]) ∧ Below w.heap.size w w' := by
  have HC := Lib.hid (show ∀ (wr : World), Below w.heap.size w wr → ∀ i, i < D → ∃ C D : Int, wr.cell? ⟨b, o + i, none⟩ = some (.int .u8 C) ∧ wr.cell? ⟨b, o + (i + 1), none⟩ = some (.int .u8 D) ∧ (C = 58 → D ≠ 58) from fun wr hb i hi => by
    refine ⟨_, _, (hA.on hb hbl) i (by omega), (hA.on hb hbl) (i + 1) (by omega), fun h1 h2 => hno i hi ?_⟩
    rw [List.getElem?_eq_getElem (by omega), List.getElem?_eq_getElem (by omega)]
    exact ⟨congrArg some (UInt8.toNat_inj.1 (by show _ = 58; omega)), congrArg some (UInt8.toNat_inj.1 (by show _ = 58; omega))⟩)
  have HC2 := Lib.hid (show ∀ (wr : World), Below w.heap.size w wr → wr.cell? ⟨b, o + D, none⟩ = some (.int .u8 58) ∧ wr.cell? ⟨b, o + (D + 1), none⟩ = some (.int .u8 58) from fun wr hb => by
    obtain ⟨l0, e0⟩ := List.getElem?_eq_some_iff.1 hc0
    obtain ⟨l1, e1⟩ := List.getElem?_eq_some_iff.1 hc1
    have h0 := (hA.on hb hbl) D l0
    have h1 := (hA.on hb hbl) (D + 1) l1
    rw [e0] at h0
    rw [e1] at h1
    exact ⟨h0, h1⟩)
  obtain ⟨h, hh⟩ : ∃ h : Nat → Int, h = wb F := ⟨_, rfl⟩
  have HH := Lib.hid (show ∀ k, h (2 * k) = F k / 256 ∧ h (2 * k + 1) = F k % 256 from fun k => by
    rw [hh]; unfold wb
    rw [if_pos (by omega), if_neg (by omega), show 2 * k / 2 = k by omega, show (2 * k + 1) / 2 = k by omega]
    exact ⟨rfl, rfl⟩)
  rw [← hh]
  have HFr := Lib.hid hFr
  have HF := Lib.hid hF
  have HL := Lib.hid hL
  have HRt := Lib.hid hR
  have hMi : (8 : Int) - (nr : Int) = (M : Int) := by omega
  have hnli : (nl : Int) + (nr : Int) ≤ 7 := by omega
  have HMn := Lib.hid hM
  clear hT hA hno hh hFr hL hR hc0 hc1 hF hM
  go_enter Tryd.func13, Tryd.ntmps13
  go_wp2
  have p0 := P6.start w h
  go_loopw [6, 7] (fun s6 s7 wr => ∃ i : Nat, i ≤ D ∧ s6 = .int .i64 (-1) ∧ s7 = .int .i64 (i : Int) ∧ P6 w h (fun _ => 0) 0 wr) (fun _ s7 _ => D + 2 - (intOf s7).toNat)
  case atStart => exact ⟨0, by omega, rfl, rfl, p0⟩
  case round =>
    clear p0
    obtain ⟨i, hi, rfl, rfl, p⟩ := hrel
    by_cases hlt : i < D
    · obtain ⟨C, E, c1, c2, hne⟩ := HC.out wr p.hb i hlt
      have P := Lib.hid p
      have hlti : (i : Int) + 1 < (D : Int) + 2 := by omega
      clear p
      by_cases h58 : C = 58
      · have hE : (E == 58) = false := beq_eq_false_iff_ne.2 (hne h58)
        have hC : (C == 58) = true := beq_iff_eq.2 h58
        clear hne h58
        go_wp2
        go_roundw
        case rel => exact ⟨i + 1, by omega, rfl, by go_num, P.out⟩
        case measure => simp [intOf]; omega
      · have hC : (C == 58) = false := beq_eq_false_iff_ne.2 h58
        clear hne h58
        go_wp2
        go_roundw
        case rel => exact ⟨i + 1, by omega, rfl, by go_num, P.out⟩
        case measure => simp [intOf]; omega
    · obtain rfl : i = D := by omega
      obtain ⟨c1, c2⟩ := HC2.out wr p.hb
      have hcall := Lib.hid (HL.out wr p.hb)
      have P := Lib.hid p
      clear p HL HC HC2 hlt hi
      go_wp2_with fail
      refine hcall.out.mono ?_
      rintro e w1 ⟨rfl, hb1⟩
      clear hcall c1 c2
      have P1 := P.out.on hb1
      have hs1 := Nat.lt_of_lt_of_le P.out.lt hb1.size
      have hZ : BN 49 8 .u16 fl w1.heap.size 0 (w1.alloc (.cells #[.int .u16 0, .int .u16 0, .int .u16 0, .int .u16 0, .int .u16 0, .int .u16 0, .int .u16 0, .int .u16 0] 49)) := BN.fresh w1 #[.int .u16 0, .int .u16 0, .int .u16 0, .int .u16 0, .int .u16 0, .int .u16 0, .int .u16 0, .int .u16 0] rfl eight
      clear P hb1
      go_wp2_with (first | (refine wpl_store8 rfl _ _ rfl w1.heap.size fl rfl rfl hZ ?_; intro W2 hG2 hO2) | fail)
      have P2 := (P1.alloc _).only hs1 hO2
      obtain ⟨L, hLe⟩ : ∃ L, L = w1.heap.size := ⟨_, rfl⟩
      rw [← hLe] at hG2 hs1 ⊢
      have HS1 := Lib.hid hs1
      clear hLe hZ hO2 P1 hs1
      refine (HRt.out W2 _ _ P2.hb).mono ?_
      rintro e w3 ⟨rfl, hb3⟩
      have P3 := P2.on hb3
      have GL3 := hG2.on hb3 hG2.lt
      have hs3 := Nat.lt_of_lt_of_le P2.lt hb3.size
      have hL3 := Nat.lt_of_lt_of_le hG2.lt hb3.size
      have hZ : BN 49 8 .u16 fr w3.heap.size 0 (w3.alloc (.cells #[.int .u16 0, .int .u16 0, .int .u16 0, .int .u16 0, .int .u16 0, .int .u16 0, .int .u16 0, .int .u16 0] 49)) := BN.fresh w3 #[.int .u16 0, .int .u16 0, .int .u16 0, .int .u16 0, .int .u16 0, .int .u16 0, .int .u16 0, .int .u16 0] rfl eight
      clear hb3 hG2 P2 HRt
      go_wp2_with (first | (refine wpl_store8 rfl _ _ rfl w3.heap.size fr rfl rfl hZ ?_; intro W4 hG4 hO4))
      have P4 := Lib.hid ((P3.alloc _).only hs3 hO4)
      have GL4 := Lib.hid ((GL3.alloc _).only (Nat.ne_of_lt hL3) hO4)
      have GR := Lib.hid hG4
      obtain ⟨R, hRe⟩ : ∃ R, R = w3.heap.size := ⟨_, rfl⟩
      rw [← hRe] at GR hs3 ⊢
      have HS3 := Lib.hid hs3
      clear hRe hZ P3 GL3 hs3 hL3 hG4 hO4
      go_loopw [17] (fun s wr => ∃ k : Nat, k ≤ nl ∧ s = .int .i64 (k : Int) ∧ P6 w h (fun i => if i < k then fl i else 0) 0 wr ∧ BN 49 8 .u16 fl L 8 wr ∧ BN 49 8 .u16 fr R 8 wr) (fun s _ => nl - (intOf s).toNat)
      case atStart => exact ⟨0, by omega, rfl, P4.out.all8 (fun i _ => by simp), GL4.out, GR.out⟩
      case round =>
        clear GL4 GR P4
        obtain ⟨k, hk, rfl, p, gL, gR⟩ := hrel
        by_cases hkl : k < nl
        · have c1 := gL.cell k (by omega)
          have c2 := p.hw.cell k (by omega)
          have c3 := p.hw.free k
          have hki : (k : Int) < (nl : Int) := by omega
          have p1 := Lib.hid (p.word (wd' := fun i => if i < k + 1 then fl i else 0) k (by omega) (fun i _ hi => P6.if_ (f := fl) (wd := fun _ => 0) i k hi) (fl k) (by show _ = if k < k + 1 then _ else _; rw [if_pos (by omega)]))
          have gL1 := Lib.hid (gL.far (G' := w.heap.size + 2) (by have := HS1.out; omega) k (.int .u16 (fl k)))
          have gR1 := Lib.hid (gR.far (G' := w.heap.size + 2) (by have := HS3.out; omega) k (.int .u16 (fl k)))
          clear p gL gR
          go_wp2
          go_roundw
          case rel => exact ⟨k + 1, by omega, by go_num, p1.out, gL1.out, gR1.out⟩
          case measure => simp [intOf]; omega
        · obtain rfl : k = nl := by omega
          have P5 := Lib.hid p
          have GR := Lib.hid gR
          clear p gL gR hkl
          go_wp2
          go_loopw [18] (fun s wr => ∃ j : Nat, j ≤ nr ∧ s = .int .i64 (j : Int) ∧ P6 w h (fun i => if i < k then fl i else if M ≤ i ∧ i < M + j then fr (i - M) else 0) 0 wr ∧ BN 49 8 .u16 fr R 8 wr) (fun s _ => nr - (intOf s).toNat)
          case atStart => exact ⟨0, by omega, rfl, P5.out.all8 (fun i _ => by show (if i < k then _ else if M ≤ i ∧ i < M + 0 then _ else _) = if i < k then _ else _; rw [if_neg (c := M ≤ i ∧ i < M + 0) (by omega)]), GR.out⟩
          case round =>
            clear P5 GR
            obtain ⟨j, hj, rfl, p, gR⟩ := hrel
            by_cases hjl : j < nr
            · have hM := HMn.out
              have c1 := gR.cell j (by omega)
              have c2 := p.hw.cell (M + j) (by omega)
              have c3 := p.hw.free (M + j)
              have hji : (j : Int) < (nr : Int) := by omega
              have hji8 : (M : Int) + (j : Int) < 8 := by omega
              have p1 := Lib.hid (p.word (wd' := fun i => if i < k then fl i else if M ≤ i ∧ i < M + (j + 1) then fr (i - M) else 0) (M + j) (by omega) (fun i _ hi => P6.if2 i k M j hi) (fr j) (by show _ = if M + j < k then _ else if M ≤ M + j ∧ M + j < M + (j + 1) then fr (M + j - M) else 0; rw [if_neg (by omega), if_pos (by omega), Nat.add_sub_cancel_left]))
              have gR1 := Lib.hid (gR.far (G' := w.heap.size + 2) (by have := HS3.out; omega) (M + j) (.int .u16 (fr j)))
              generalize (if M + j < k then fl (M + j) else if M ≤ M + j ∧ M + j < M + j then fr (M + j - M) else 0) = old at c2
              clear p gR hM
              go_wp2
              go_roundw
              case rel => exact ⟨j + 1, by omega, by go_num, p1.out, gR1.out⟩
              case measure => simp [intOf]; omega
            · obtain rfl : j = nr := by omega
              have PW := Lib.hid (p.all8 (f := F) (fun i hi => by
                rw [HF.out i hi]
                show _ = if i < k then _ else if M ≤ i ∧ i < M + j then _ else _
                have := HMn.out
                by_cases h1 : M ≤ i
                · rw [if_pos h1, if_pos (c := M ≤ i ∧ i < M + j) ⟨h1, by omega⟩]
                · rw [if_neg h1, if_neg (c := M ≤ i ∧ i < M + j) (fun h => h1 h.1)]))
              clear p gR hjl hMi
              go_wp2
              go_loopw [19] (fun s wr => ∃ k : Nat, k ≤ 8 ∧ s = .int .i64 (k : Int) ∧ P6 w h F (2 * k) wr) (fun s _ => 8 - (intOf s).toNat)
              case atStart => exact ⟨0, by omega, rfl, PW.out⟩
              case round =>
                clear PW
                obtain ⟨k, hk, rfl, p⟩ := hrel
                by_cases hk8 : k < 8
                · have c := p.hw.cell k hk8
                  have z1 := p.ho.zero (2 * k) (Nat.le_refl _) (by omega)
                  have fz1 := p.ho.free (2 * k)
                  have v1 : F k / 256 = h (2 * k) := (HH.out k).1.symm
                  have v2 : F k % 256 = h (2 * k + 1) := (HH.out k).2.symm
                  have p1 := p.byte (by omega) _ v1
                  have c2 := p1.hw.cell k hk8
                  have z2 := p1.ho.zero (2 * k + 1) (Nat.le_refl _) (by omega)
                  have fz2 := p1.ho.free (2 * k + 1)
                  have p2 := Lib.hid (p1.byte (by omega) _ v2)
                  obtain ⟨r0, r1⟩ := HFr.out k
                  obtain ⟨X, hX⟩ : ∃ X : Int, X = F k := ⟨_, rfl⟩
                  rw [← hX] at c c2 z2 fz2 p2 r0 r1
                  have r2 : X / 256 % 256 = X / 256 := by omega
                  have r3 : X / 256 < 256 := by omega
                  have r4 : 0 ≤ X / 256 := by omega
                  clear p p1 hX v1 v2
                  go_wp2
                  go_roundw
                  case rel => exact ⟨k + 1, by omega, by go_num, p2.out⟩
                  case measure => simp [intOf]; omega
                · obtain rfl : k = 8 := by omega
                  have P := Lib.hid p
                  have ho : BN 32 16 .u8 h (w.heap.size + 1) 16 wr := p.ho
                  have hr := p.hr
                  clear p
                  go_wp2_with (first | (refine wpl_load16 rfl _ rfl (w.heap.size + 1) h rfl ho ?_) | (refine wpl_store16 rfl _ _ rfl w.heap.size h rfl rfl hr ?_; intro W9 hG9 hO9))
                  exact bodyPost_ret (v := .tuple #[agg16 h, .bool true]) (by simp [results, Tryd.results13, asAddr, run_loadVar_row W9 w.heap.size 32 32 (row16 h) (0, 0) _ hG9.arr16 Tryd.underlying32 rfl info32, agg16, row16]) rfl ⟨rfl, hO9.below _ _ P.out.hb (Nat.le_refl _)⟩
end Go.Proofs.Qxb6604517aDoor
