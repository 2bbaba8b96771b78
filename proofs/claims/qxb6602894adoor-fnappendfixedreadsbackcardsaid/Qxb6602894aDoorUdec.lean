import Derived.Test.Qxb6602894aDoorPow
namespace Go.Proofs.Qxb6602894aDoor
open Go.RowKit

set_option maxHeartbeats 800000 in
theorem udec_any (B : Nat) (w : World) (v : Value) (l : List UInt8) (x : Nat) (X : Int) (hX : X = (x : Int)) (hd : Dst B w v l) (hB : B ≤ w.heap.size) (hx : x < 18446744073709551616) (hl : l.length ≤ 1000000000) :
    Calls Tryd.prog 8 #[v, .int .u64 X] w fun e w' => ∃ v', e = .returned v' ∧ Dst B w' v' (l ++ Lib.decDigits x) ∧ Step B w w' := by
  have hX0 : 0 ≤ X := by omega
  have hX1 : X ≤ 18446744073709551615 := by omega
  have HX := Lib.hid hX
  have Hx := Lib.hid hx
  have HB := Lib.hid hB
  clear hX hx hB
  go_enter Tryd.func8, Tryd.ntmps8
  go_wp2
  go_loop [5] (fun i => ∃ k : Nat, 1 ≤ k ∧ k ≤ 20 ∧ i = .int .i64 k ∧ Hid (k = 1 ∨ 10 ^ (k - 1) ≤ x)) (fun i => 20 - (intOf i).toNat)
  case atStart => exact ⟨1, by omega, by omega, rfl, Or.inl rfl⟩
  case round =>
    obtain ⟨k, hk1, hk2, rfl, hk⟩ := hrel
    by_cases hgo : k < 20 ∧ 10 ^ k ≤ x
    · obtain ⟨h20, hge⟩ := hgo
      have hp := fun W => pow_any k (by omega) W
      have hb := pow_bound k (by omega)
      have hge' : ((10 ^ k : Nat) : Int) ≤ X := by rw [HX.out]; omega
      have HG := Lib.hid hge
      clear hge
      obtain ⟨P, hP⟩ : ∃ P : Int, P = ((10 ^ k : Nat) : Int) := ⟨_, rfl⟩
      rw [← hP] at hb hge'
      rw [← hP] at hp
      clear hP
      go_wp2_with (go_at_call 6; refine (hp _).mono ?_; rintro e w' ⟨rfl, rfl⟩)
      go_round
      case rel => exact ⟨k + 1, by omega, by omega, by go_num, Or.inr HG.out⟩
      case measure => simp [intOf]; omega
    · have hpad : pad k x = Lib.decDigits x := by
        refine pad_dec k x ?_ hk.out
        by_cases h20 : k < 20
        · false_or_by_contra
          exact hgo ⟨h20, by omega⟩
        · obtain rfl : k = 20 := by omega
          have := Hx.out
          have h3 : (10 : Nat) ^ 20 = 100000000000000000000 := by decide
          omega
      have HP := Lib.hid hpad
      clear hpad
      by_cases h20 : k < 20
      · have hp := fun W => pow_any k (by omega) W
        have hb := pow_bound k (by omega)
        have hlt : X < ((10 ^ k : Nat) : Int) := by
          rw [HX.out]
          have : ¬ 10 ^ k ≤ x := fun h => hgo ⟨h20, h⟩
          omega
        obtain ⟨P, hP⟩ : ∃ P : Int, P = ((10 ^ k : Nat) : Int) := ⟨_, rfl⟩
        rw [← hP] at hb hlt
        rw [← hP] at hp
        clear hP hgo hk
        go_wp2_with (go_at_call 6; refine (hp _).mono ?_; rintro e w' ⟨rfl, h⟩; replace h := h.symm; subst h)
        clear hp hb hlt
        go_loopw [0, 6] (fun d i wr => ∃ (K : Nat) (l' : List UInt8), K ≤ k ∧ i = .int .i64 ((K : Int) - 1) ∧ Dst B wr d l' ∧ Step B w wr ∧ B ≤ wr.heap.size ∧ Hid (l ++ Lib.decDigits x = l' ++ pad K x) ∧ l'.length + K = l.length + k) (fun _ i _ => (intOf i + 1).toNat)
        case atStart => exact ⟨k, l, Nat.le_refl _, rfl, hd, Step.refl _ _, HB.out, by show _ = _; rw [HP.out], rfl⟩
        case round =>
          obtain ⟨K, l', hK, rfl, hd', hs, hB', hE, hlen⟩ := hrel
          clear hd
          rcases Nat.eq_zero_or_pos K with rfl | hpos
          · go_wp2
            go_ret
            refine ⟨_, rfl, ?_, hs⟩
            rw [hE.out]
            simpa [pad] using hd'
          · obtain ⟨j, rfl⟩ : ∃ j, K = j + 1 := ⟨K - 1, by omega⟩
            have hp := fun W => pow_any j (by omega) W
            have hb := pow_bound j (by omega)
            obtain ⟨P, hP⟩ : ∃ P : Int, P = ((10 ^ j : Nat) : Int) := ⟨_, rfl⟩
            rw [← hP] at hb
            rw [← hP] at hp
            obtain ⟨c, hc⟩ : ∃ c, c = UInt8.ofNat (48 + x / 10 ^ j % 10) := ⟨_, rfl⟩
            have hcc : 48 + X / P % 10 = (c.toNat : Int) := by
              rw [hc, digit_toNat _ (by omega), HX.out, hP]; omega
            have hE2 : l ++ Lib.decDigits x = (l' ++ [c]) ++ pad j x := by rw [hE.out, pad_front, hc]; simp
            obtain ⟨L, hL⟩ : ∃ L, L = l' ++ [c] := ⟨_, rfl⟩
            rw [← hL] at hE2
            have hLl : L.length = l'.length + 1 := by rw [hL]; simp
            have HL := Lib.hid hL
            have HC := Lib.hid hcc
            have HE := Lib.hid hE2
            have HLl := Lib.hid hLl
            have hPne : P ≠ 0 := by omega
            have hq0 : 0 ≤ X / P := Int.ediv_nonneg hX0 (by omega)
            have hq1 : X / P ≤ 18446744073709551615 := Int.le_trans (Int.ediv_le_self _ hX0) hX1
            have hji : ((j + 1 : Nat) : Int) - 1 = (j : Int) := by omega
            rw [hji]
            clear hP hc hcc hE2 hL hLl hE
            go_wp2_with (first | (go_at_call 6; refine (hp _).mono ?_; rintro e w' ⟨rfl, rfl⟩) | (at_builtin; refine wpList_append1 rfl _ _ rfl B _ l' rfl hd' hB' _ c HC.out L HL.out rfl (by omega) ?_))
            intro v1 w1 o1 b1
            go_wp2
            go_roundw
            case rel => exact ⟨j, L, by omega, by go_num, Dst.own o1, hs.trans b1, Nat.le_trans hB' b1.size, HE.out, by rw [HLl.out]; omega⟩
            case measure => simp [intOf]
      · obtain rfl : k = 20 := by omega
        clear hgo hk
        go_wp2
        go_loopw [0, 6] (fun d i wr => ∃ (K : Nat) (l' : List UInt8), K ≤ 20 ∧ i = .int .i64 ((K : Int) - 1) ∧ Dst B wr d l' ∧ Step B w wr ∧ B ≤ wr.heap.size ∧ Hid (l ++ Lib.decDigits x = l' ++ pad K x) ∧ l'.length + K = l.length + 20) (fun _ i _ => (intOf i + 1).toNat)
        case atStart => exact ⟨20, l, Nat.le_refl _, rfl, hd, Step.refl _ _, HB.out, by show _ = _; rw [HP.out], rfl⟩
        case round =>
          obtain ⟨K, l', hK, rfl, hd', hs, hB', hE, hlen⟩ := hrel
          clear hd
          rcases Nat.eq_zero_or_pos K with rfl | hpos
          · go_wp2
            go_ret
            refine ⟨_, rfl, ?_, hs⟩
            rw [hE.out]
            simpa [pad] using hd'
          · obtain ⟨j, rfl⟩ : ∃ j, K = j + 1 := ⟨K - 1, by omega⟩
            have hp := fun W => pow_any j (by omega) W
            have hb := pow_bound j (by omega)
            obtain ⟨P, hP⟩ : ∃ P : Int, P = ((10 ^ j : Nat) : Int) := ⟨_, rfl⟩
            rw [← hP] at hb
            rw [← hP] at hp
            obtain ⟨c, hc⟩ : ∃ c, c = UInt8.ofNat (48 + x / 10 ^ j % 10) := ⟨_, rfl⟩
            have hcc : 48 + X / P % 10 = (c.toNat : Int) := by
              rw [hc, digit_toNat _ (by omega), HX.out, hP]; omega
            have hE2 : l ++ Lib.decDigits x = (l' ++ [c]) ++ pad j x := by rw [hE.out, pad_front, hc]; simp
            obtain ⟨L, hL⟩ : ∃ L, L = l' ++ [c] := ⟨_, rfl⟩
            rw [← hL] at hE2
            have hLl : L.length = l'.length + 1 := by rw [hL]; simp
            have HL := Lib.hid hL
            have HC := Lib.hid hcc
            have HE := Lib.hid hE2
            have HLl := Lib.hid hLl
            have hPne : P ≠ 0 := by omega
            have hq0 : 0 ≤ X / P := Int.ediv_nonneg hX0 (by omega)
            have hq1 : X / P ≤ 18446744073709551615 := Int.le_trans (Int.ediv_le_self _ hX0) hX1
            have hji : ((j + 1 : Nat) : Int) - 1 = (j : Int) := by omega
            rw [hji]
            clear hP hc hcc hE2 hL hLl hE
            go_wp2_with (first | (go_at_call 6; refine (hp _).mono ?_; rintro e w' ⟨rfl, rfl⟩) | (at_builtin; refine wpList_append1 rfl _ _ rfl B _ l' rfl hd' hB' _ c HC.out L HL.out rfl (by omega) ?_))
            intro v1 w1 o1 b1
            go_wp2
            go_roundw
            case rel => exact ⟨j, L, by omega, by go_num, Dst.own o1, hs.trans b1, Nat.le_trans hB' b1.size, HE.out, by rw [HLl.out]; omega⟩
            case measure => simp [intOf]
end Go.Proofs.Qxb6602894aDoor
