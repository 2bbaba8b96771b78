import Derived.Test.Qxb6602894aDoorUdec
namespace Go.Proofs.Qxb6602894aDoor
open Go.RowKit

theorem mod_step (f d : Nat) (h0 : f % 10 ^ d = 0) (h1 : f % 10 ^ (d + 1) ≠ 0) : f / 10 ^ d % 10 ≠ 0 := by
  intro h
  apply h1
  rw [Nat.pow_succ, Nat.mod_mul, h0, h]
  simp

set_option maxHeartbeats 800000 in
theorem frac_any (B : Nat) (w : World) (v : Value) (l : List UInt8) (f p : Nat) (F Pl : Int) (hF : F = (f : Int)) (hPl : Pl = (p : Int)) (hp8 : p ≤ 8) (hf0 : 0 < f) (hf : f < 10 ^ p) (hd : Dst B w v l) (hB : B ≤ w.heap.size) (hl : l.length ≤ 1000000000) :
    Calls Tryd.prog 9 #[v, .int .u64 F, .int .i64 Pl] w fun e w' => ∃ v', e = .returned v' ∧ Dst B w' v' (l ++ 46 :: cut p f) ∧ Step B w w' := by
  have hfb : f < 100000000 := by
    have : 10 ^ p ≤ 10 ^ 8 := Nat.pow_le_pow_right (by omega) hp8
    omega
  have hF0 : 0 < F := by omega
  have hF1 : F < 100000000 := by omega
  subst hPl
  have HX := Lib.hid hF
  have Hf := Lib.hid hf
  have HB := Lib.hid hB
  have hpi : (p : Int) ≤ 8 := by omega
  clear hF hfb hf hB
  go_enter Tryd.func9, Tryd.ntmps9
  go_wp2
  go_loop [7] (fun i => ∃ d : Nat, d ≤ p ∧ i = .int .i64 d ∧ Hid (f % 10 ^ d = 0)) (fun i => p - (intOf i).toNat)
  case atStart => exact ⟨0, by omega, rfl, by show _ = _; simp [Nat.mod_one]⟩
  case round =>
    obtain ⟨d, hdp, rfl, hdm⟩ := hrel
    have hlt : d < p := by
      false_or_by_contra
      obtain rfl : d = p := by omega
      have h1 := hdm.out
      have h2 := Hf.out
      rw [Nat.mod_eq_of_lt h2] at h1
      omega
    have hp := fun W => pow_any (d + 1) (by omega) W
    have hb := pow_bound (d + 1) (by omega)
    have hd1 : ((d + 1 : Nat) : Int) = (d : Int) + 1 := by omega
    by_cases hgo : f % 10 ^ (d + 1) = 0
    · have HG := Lib.hid hgo
      have hz : F % ((10 ^ (d + 1) : Nat) : Int) = 0 := by rw [HX.out]; omega
      obtain ⟨P, hP⟩ : ∃ P : Int, P = ((10 ^ (d + 1) : Nat) : Int) := ⟨_, rfl⟩
      rw [← hP] at hb hz
      rw [← hP] at hp
      rw [hd1] at hp
      have hPne : P ≠ 0 := by omega
      clear hP hgo hd1
      go_wp2_with (go_at_call 6; refine (hp _).mono ?_; rintro e w' ⟨rfl, h⟩; replace h := h.symm; subst h)
      go_round
      case rel => exact ⟨d + 1, by omega, by go_num, HG.out⟩
      case measure => simp [intOf]; omega
    · have HV := Lib.hid ((cut_drop d p f hdp hdm.out).trans (cut_stop _ _ (mod_step f d hdm.out hgo)))
      have hz : ¬ F % ((10 ^ (d + 1) : Nat) : Int) = 0 := by rw [HX.out]; omega
      have hp2 := fun W => pow_any d (by omega) W
      have hb2 := pow_bound d (by omega)
      have hvv : F / ((10 ^ d : Nat) : Int) = ((f / 10 ^ d : Nat) : Int) := by rw [HX.out]; omega
      obtain ⟨P, hP⟩ : ∃ P : Int, P = ((10 ^ (d + 1) : Nat) : Int) := ⟨_, rfl⟩
      obtain ⟨P2, hP2⟩ : ∃ P : Int, P = ((10 ^ d : Nat) : Int) := ⟨_, rfl⟩
      rw [← hP] at hb hz
      rw [← hP] at hp
      rw [hd1] at hp
      rw [← hP2] at hb2 hvv
      rw [← hP2] at hp2
      have hPne : P ≠ 0 := by omega
      have hPne2 : P2 ≠ 0 := by omega
      have HVV := Lib.hid hvv
      obtain ⟨K0, hK0⟩ : ∃ K, K = p - d := ⟨_, rfl⟩
      have hK0i : (p : Int) - (d : Int) = (K0 : Int) := by omega
      have hK08 : K0 ≤ 8 := by omega
      rw [← hK0] at HV
      obtain ⟨x, hx⟩ : ∃ x, x = f / 10 ^ d := ⟨_, rfl⟩
      rw [← hx] at HVV HV
      have hq0 : 0 ≤ F / P2 := Int.ediv_nonneg (by omega) (by omega)
      have hq1 : F / P2 < 100000000 := Int.lt_of_le_of_lt (Int.ediv_le_self _ (by omega)) hF1
      obtain ⟨L0, hL0⟩ : ∃ L, L = l ++ [46] := ⟨_, rfl⟩
      have HL0 := Lib.hid hL0
      have hLl0 : L0.length = l.length + 1 := by rw [hL0]; simp
      have HEl := Lib.hid (show l ++ 46 :: cut p f = L0 ++ pad K0 x by rw [HV.out, hL0]; simp)
      clear hP hP2 hgo hd1 hvv hx hK0 hL0
      go_wp2_with fail
      refine (hp _).mono ?_
      rintro e w' ⟨rfl, h⟩
      replace h := h.symm
      subst h
      go_wp2_with fail
      refine (hp2 _).mono ?_
      rintro e w' ⟨rfl, h⟩
      replace h := h.symm
      subst h
      go_wp2_with (at_builtin; refine wpList_append1 rfl _ _ rfl B v l rfl hd HB.out 46 46 rfl L0 HL0.out rfl (by omega) ?_)
      intro v1 w1 o1 b1
      clear hp hb hz hp2 hb2 hPne hd hPne2
      obtain ⟨X, hX⟩ : ∃ X, X = F / P2 := ⟨_, rfl⟩
      rw [← hX] at hq0 hq1 HVV
      have hs1 := Nat.le_trans HB.out b1.size
      go_wp2
      rw [← hX]
      clear hX
      go_loopw [0, 10] (fun dd i wr => ∃ (K : Nat) (l' : List UInt8), K ≤ K0 ∧ i = .int .i64 ((K : Int) - 1) ∧ Dst B wr dd l' ∧ Step B w wr ∧ B ≤ wr.heap.size ∧ Hid (l ++ 46 :: cut p f = l' ++ pad K x) ∧ l'.length + K = L0.length + K0) (fun _ i _ => (intOf i + 1).toNat)
      case atStart => exact ⟨K0, L0, Nat.le_refl _, rfl, Dst.own o1, b1, hs1, HEl.out, rfl⟩
      case round =>
        obtain ⟨K, l', hK, rfl, hd', hs, hB', hE, hlen⟩ := hrel
        clear o1
        rcases Nat.eq_zero_or_pos K with rfl | hpos
        · go_wp2
          go_ret
          refine ⟨_, rfl, ?_, hs⟩
          rw [hE.out]
          simpa [pad] using hd'
        · obtain ⟨j, rfl⟩ : ∃ j, K = j + 1 := ⟨K - 1, by omega⟩
          have hp := fun W => pow_any j (by omega) W
          have hb := pow_bound j (by omega)
          obtain ⟨P, hP⟩ : ∃ P : Int, P = ((10 ^ j : Nat) : Int) := ⟨_, rfl⟩
          rw [← hP] at hb
          rw [← hP] at hp
          obtain ⟨c, hc⟩ : ∃ c, c = UInt8.ofNat (48 + x / 10 ^ j % 10) := ⟨_, rfl⟩
          have hcc : 48 + X / P % 10 = (c.toNat : Int) := by
            rw [hc, digit_toNat _ (by omega), HVV.out, hP]; omega
          have hE2 : l ++ 46 :: cut p f = (l' ++ [c]) ++ pad j x := by rw [hE.out, pad_front, hc]; simp
          obtain ⟨L, hL⟩ : ∃ L, L = l' ++ [c] := ⟨_, rfl⟩
          rw [← hL] at hE2
          have hLl : L.length = l'.length + 1 := by rw [hL]; simp
          have HL := Lib.hid hL
          have HC := Lib.hid hcc
          have HE := Lib.hid hE2
          have HLl := Lib.hid hLl
          have hPne : P ≠ 0 := by omega
          have hq2 : 0 ≤ X / P := Int.ediv_nonneg hq0 (by omega)
          have hq3 : X / P < 100000000 := Int.lt_of_le_of_lt (Int.ediv_le_self _ hq0) hq1
          have hji : ((j + 1 : Nat) : Int) - 1 = (j : Int) := by omega
          rw [hji]
          clear hP hc hcc hE2 hL hLl hE
          go_wp2_with (first | (go_at_call 6; refine (hp _).mono ?_; rintro e w' ⟨rfl, rfl⟩) | (at_builtin; refine wpList_append1 rfl _ _ rfl B _ l' rfl hd' hB' _ c HC.out L HL.out rfl (by omega) ?_))
          intro v1 w1 o1 b1
          go_wp2
          go_roundw
          case rel => exact ⟨j, L, by omega, by go_num, Dst.own o1, hs.trans b1, Nat.le_trans hB' b1.size, HE.out, by rw [HLl.out]; omega⟩
          case measure => simp [intOf]
end Go.Proofs.Qxb6602894aDoor
