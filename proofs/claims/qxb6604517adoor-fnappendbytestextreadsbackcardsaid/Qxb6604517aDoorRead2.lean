import Derived.Test.Qxb6604517aDoorRead1
namespace Go.Proofs.Qxb6604517aDoor
open Go.RowKit

theorem or4_u16 (x y : Int) (h0 : 0 ≤ x) (h1 : x < 4096) (g0 : 0 ≤ y) (g1 : y < 16) : bits .or .u16 (x * 16) y = x * 16 + y := by
  rw [u16_or (x * 16) y (by omega) (by omega) g0 (by omega)]
  have h := Nat.shiftLeft_add_eq_or_of_lt (i := 4) (b := y.toNat) (by omega) x.toNat
  rw [Nat.shiftLeft_eq] at h
  rw [show (x * 16).toNat = x.toNat * 2 ^ 4 by omega, ← h]
  omega
theorem or4_u8 (x y : Int) (h0 : 0 ≤ x) (h1 : x < 16) (g0 : 0 ≤ y) (g1 : y < 16) : bits .or .u8 (x * 16) y = x * 16 + y := by
  rw [u8_or (x * 16) y (by omega) (by omega) g0 (by omega)]
  have h := Nat.shiftLeft_add_eq_or_of_lt (i := 4) (b := y.toNat) (by omega) x.toNat
  rw [Nat.shiftLeft_eq] at h
  rw [show (x * 16).toNat = x.toNat * 2 ^ 4 by omega, ← h]
  omega

theorem hex16_at (x : Nat) (hx : x < 65536) (k : Nat) (hk : k < (hex16 x).length) : (hex16 x)[k] = hexd (x / 16 ^ ((hex16 x).length - 1 - k) % 16) := by
  by_cases h1 : x < 16
  · have e : hex16 x = [hexd x] := by unfold hex16; rw [if_pos h1]
    simp only [e] at hk ⊢
    have : k = 0 := by simpa using hk
    subst this
    simp [Nat.mod_eq_of_lt h1]
  · by_cases h2 : x < 256
    · have e : hex16 x = [hexd (x / 16), hexd (x % 16)] := by unfold hex16; rw [if_neg h1, if_pos h2]
      simp only [e] at hk ⊢
      have : k = 0 ∨ k = 1 := by simp at hk; omega
      rcases this with rfl | rfl
      · simp [Nat.mod_eq_of_lt (show x / 16 < 16 by omega)]
      · simp
    · by_cases h3 : x < 4096
      · have e : hex16 x = [hexd (x / 256), hexd (x / 16 % 16), hexd (x % 16)] := by unfold hex16; rw [if_neg h1, if_neg h2, if_pos h3]
        simp only [e] at hk ⊢
        have : k = 0 ∨ k = 1 ∨ k = 2 := by simp at hk; omega
        rcases this with rfl | rfl | rfl
        · simp [Nat.mod_eq_of_lt (show x / 256 < 16 by omega)]
        · simp
        · simp
      · have e : hex16 x = [hexd (x / 4096), hexd (x / 256 % 16), hexd (x / 16 % 16), hexd (x % 16)] := by unfold hex16; rw [if_neg h1, if_neg h2, if_neg h3]
        simp only [e] at hk ⊢
        have : k = 0 ∨ k = 1 ∨ k = 2 ∨ k = 3 := by simp at hk; omega
        rcases this with rfl | rfl | rfl | rfl
        · simp [Nat.mod_eq_of_lt (show x / 4096 < 16 by omega)]
        · simp
        · simp
        · simp

theorem hex16_len_ge (x : Nat) (h : 1 < (hex16 x).length) (hx : x < 65536) : x / 16 ^ ((hex16 x).length - 1) % 16 ≠ 0 := by
  by_cases h1 : x < 16
  · have e : hex16 x = [hexd x] := by unfold hex16; rw [if_pos h1]
    simp [e] at h
  · by_cases h2 : x < 256
    · have e : hex16 x = [hexd (x / 16), hexd (x % 16)] := by unfold hex16; rw [if_neg h1, if_pos h2]
      simp [e]; omega
    · by_cases h3 : x < 4096
      · have e : hex16 x = [hexd (x / 256), hexd (x / 16 % 16), hexd (x % 16)] := by unfold hex16; rw [if_neg h1, if_neg h2, if_pos h3]
        simp [e]; omega
      · have e : hex16 x = [hexd (x / 4096), hexd (x / 256 % 16), hexd (x / 16 % 16), hexd (x % 16)] := by unfold hex16; rw [if_neg h1, if_neg h2, if_neg h3]
        simp [e]; omega
theorem hex16_top (x : Nat) (hx : x < 65536) : x / 16 ^ (hex16 x).length = 0 := by
  by_cases h1 : x < 16
  · have e : hex16 x = [hexd x] := by unfold hex16; rw [if_pos h1]
    simp [e]; omega
  · by_cases h2 : x < 256
    · have e : hex16 x = [hexd (x / 16), hexd (x % 16)] := by unfold hex16; rw [if_neg h1, if_pos h2]
      simp [e]; omega
    · by_cases h3 : x < 4096
      · have e : hex16 x = [hexd (x / 256), hexd (x / 16 % 16), hexd (x % 16)] := by unfold hex16; rw [if_neg h1, if_neg h2, if_pos h3]
        simp [e]; omega
      · have e : hex16 x = [hexd (x / 4096), hexd (x / 256 % 16), hexd (x / 16 % 16), hexd (x % 16)] := by unfold hex16; rw [if_neg h1, if_neg h2, if_neg h3]
        simp [e]; omega

set_option maxHeartbeats 1600000 in
theorem phex_any (w : World) (b o cap x : Nat) (hx : x < 65536) (hA : At w b o (hex16 x)) :
    Calls Tryd.prog 32 #[.slice (some ⟨b, o, none⟩) (hex16 x).length cap] w fun e w' => e = .returned (.tuple #[.int .u16 (x : Int), .bool true]) ∧ w' = w := by
  have hl := hex16_len x
  have hat := hex16_at x hx
  have htop := hex16_top x hx
  have hge := hex16_len_ge x
  obtain ⟨n, hn⟩ : ∃ n, n = (hex16 x).length := ⟨_, rfl⟩
  have hcl : ∀ k, k < n → w.cell? ⟨b, o + k, none⟩ = some (.int .u8 ((hexd (x / 16 ^ (n - 1 - k) % 16)).toNat : Int)) := fun k hk => by
    have := hA k (by omega)
    rw [hat k (by omega), ← hn] at this
    exact this
  rw [← hn] at hl htop hge ⊢
  have hc0 := hcl 0 (by omega)
  rw [Nat.add_zero, Nat.sub_zero] at hc0
  have hd16 := hexd_toNat (x / 16 ^ (n - 1) % 16) (by omega)
  obtain ⟨X0, hX0⟩ : ∃ X : Int, X = ((hexd (x / 16 ^ (n - 1) % 16)).toNat : Int) := ⟨_, rfl⟩
  rw [← hX0] at hc0
  have hhd : X0 = 48 → n ≤ 1 := by
    intro h48
    false_or_by_contra
    have := hge (by omega) hx
    split at hd16 <;> omega
  have HCL := Lib.hid hcl
  have HTOP := Lib.hid htop
  have HX := Lib.hid hx
  obtain ⟨R, hR⟩ : ∃ R : Int, R = (x : Int) := ⟨_, rfl⟩
  have HR := Lib.hid hR
  rw [← hR]
  have hn0 : ((n : Int) == 0) = false := beq_eq_false_iff_ne.2 (by omega)
  have hn4 : (n : Int) ≤ 4 := by omega
  have hn1 : 1 ≤ (n : Int) := by omega
  have HN4 := Lib.hid hl
  clear hA hat htop hge hn hcl hX0 hd16 hx hR hl
  have key : ∀ (hc : X0 ≠ 48 ∨ (X0 = 48 ∧ (n : Int) ≤ 1)), Calls Tryd.prog 32 #[.slice (some ⟨b, o, none⟩) n cap] w fun e w' => e = .returned (.tuple #[.int .u16 R, .bool true]) ∧ w' = w := by
    intro hc
    clear hhd
    rcases hc with hc | ⟨rfl, hc⟩
    · go_enter Tryd.func32, Tryd.ntmps32
      go_wp2
      go_loop [4, 5, 6, 7] (fun y i _c _d => ∃ (k : Nat) (X : Int), k ≤ n ∧ i = .int .i64 (k : Int) ∧ y = .int .u16 X ∧ Hid (X = ((x / 16 ^ (n - k) : Nat) : Int))) (fun _ i _ _ => n - (intOf i).toNat)
      case atStart => exact ⟨0, 0, Nat.zero_le _, rfl, rfl, by show (0 : Int) = _; rw [Nat.sub_zero, HTOP.out]; rfl⟩
      case round =>
        obtain ⟨k, X, hk, rfl, rfl, hX⟩ := hrel
        by_cases hlt : k < n
        · have hcell := HCL.out k hlt
          have hst : x / 16 ^ (n - (k + 1)) = x / 16 ^ (n - k) * 16 + x / 16 ^ (n - 1 - k) % 16 := by
            have e1 : n - (k + 1) = n - 1 - k := by omega
            have e2 : n - k = (n - 1 - k) + 1 := by omega
            rw [e1, e2, Nat.pow_succ, ← Nat.div_div_eq_div_mul]
            omega
          have hb : x / 16 ^ (n - (k + 1)) < 65536 := Nat.lt_of_le_of_lt (Nat.div_le_self _ _) HX.out
          obtain ⟨d, hd⟩ : ∃ d, d = x / 16 ^ (n - 1 - k) % 16 := ⟨_, rfl⟩
          have hd16 : d < 16 := by omega
          rw [← hd] at hcell hst
          have hv := fun W => hexval_any d hd16 W
          obtain ⟨C, hC⟩ : ∃ C : Int, C = ((hexd d).toNat : Int) := ⟨_, rfl⟩
          rw [← hC] at hcell
          rw [← hC] at hv
          have hX0' : 0 ≤ X := by rw [hX.out]; omega
          have hX1' : X < 4096 := by rw [hX.out]; omega
          have hor := or4_u16 X (d : Int) hX0' hX1' (by omega) (by omega)
          have HST := Lib.hid (show X * 16 + (d : Int) = ((x / 16 ^ (n - (k + 1)) : Nat) : Int) by rw [hst, hX.out]; omega)
          clear hX hst hb hd hC
          go_wp2_with (go_at_call 25; refine (hv _).mono ?_; rintro e w' ⟨rfl, h⟩; replace h := h.symm; subst h)
          go_round
          case rel => exact ⟨k + 1, X * 16 + (d : Int), by omega, by go_num, rfl, HST.out⟩
          case measure => simp [intOf]; omega
        · obtain rfl : k = n := by omega
          have hXR : R = X := by rw [HR.out, hX.out, Nat.sub_self]; simp
          subst hXR
          clear hX
          go_wp2
          exact bodyPost_ret (v := .tuple #[.int .u16 R, .bool true]) (by simp [results, Tryd.results32, go_sem]) rfl ⟨rfl, rfl⟩
    · go_enter Tryd.func32, Tryd.ntmps32
      go_wp2
      go_loop [4, 5, 6, 7] (fun y i _c _d => ∃ (k : Nat) (X : Int), k ≤ n ∧ i = .int .i64 (k : Int) ∧ y = .int .u16 X ∧ Hid (X = ((x / 16 ^ (n - k) : Nat) : Int))) (fun _ i _ _ => n - (intOf i).toNat)
      case atStart => exact ⟨0, 0, Nat.zero_le _, rfl, rfl, by show (0 : Int) = _; rw [Nat.sub_zero, HTOP.out]; rfl⟩
      case round =>
        obtain ⟨k, X, hk, rfl, rfl, hX⟩ := hrel
        by_cases hlt : k < n
        · have hcell := HCL.out k hlt
          have hst : x / 16 ^ (n - (k + 1)) = x / 16 ^ (n - k) * 16 + x / 16 ^ (n - 1 - k) % 16 := by
            have e1 : n - (k + 1) = n - 1 - k := by omega
            have e2 : n - k = (n - 1 - k) + 1 := by omega
            rw [e1, e2, Nat.pow_succ, ← Nat.div_div_eq_div_mul]
            omega
          have hb : x / 16 ^ (n - (k + 1)) < 65536 := Nat.lt_of_le_of_lt (Nat.div_le_self _ _) HX.out
          obtain ⟨d, hd⟩ : ∃ d, d = x / 16 ^ (n - 1 - k) % 16 := ⟨_, rfl⟩
          have hd16 : d < 16 := by omega
          rw [← hd] at hcell hst
          have hv := fun W => hexval_any d hd16 W
          obtain ⟨C, hC⟩ : ∃ C : Int, C = ((hexd d).toNat : Int) := ⟨_, rfl⟩
          rw [← hC] at hcell
          rw [← hC] at hv
          have hX0' : 0 ≤ X := by rw [hX.out]; omega
          have hX1' : X < 4096 := by rw [hX.out]; omega
          have hor := or4_u16 X (d : Int) hX0' hX1' (by omega) (by omega)
          have HST := Lib.hid (show X * 16 + (d : Int) = ((x / 16 ^ (n - (k + 1)) : Nat) : Int) by rw [hst, hX.out]; omega)
          clear hX hst hb hd hC
          go_wp2_with (go_at_call 25; refine (hv _).mono ?_; rintro e w' ⟨rfl, h⟩; replace h := h.symm; subst h)
          go_round
          case rel => exact ⟨k + 1, X * 16 + (d : Int), by omega, by go_num, rfl, HST.out⟩
          case measure => simp [intOf]; omega
        · obtain rfl : k = n := by omega
          have hXR : R = X := by rw [HR.out, hX.out, Nat.sub_self]; simp
          subst hXR
          clear hX
          go_wp2
          exact bodyPost_ret (v := .tuple #[.int .u16 R, .bool true]) (by simp [results, Tryd.results32, go_sem]) rfl ⟨rfl, rfl⟩
  by_cases h48 : X0 = 48
  · exact key (Or.inr ⟨h48, by have := hhd h48; omega⟩)
  · exact key (Or.inl h48)
end Go.Proofs.Qxb6604517aDoor
