import Derived.Test.Qxb6604517aDoorHex
namespace Go.Proofs.Qxb6604517aDoor
open Go.RowKit

/-- "0123456789abcdef" -/
def hexStr : ByteArray := ⟨#[48, 49, 50, 51, 52, 53, 54, 55, 56, 57, 97, 98, 99, 100, 101, 102]⟩

theorem idx_hex_nat (n : Nat) (h : n < 16) (w : World) : (Instr.index 9 (.string hexStr) (.int .u8 (n : Int))).run Tryd.prog w = .ok (.int .u8 ((hexd n).toNat : Int)) w := by
  have : n = 0 ∨ n = 1 ∨ n = 2 ∨ n = 3 ∨ n = 4 ∨ n = 5 ∨ n = 6 ∨ n = 7 ∨ n = 8 ∨ n = 9 ∨ n = 10 ∨ n = 11 ∨ n = 12 ∨ n = 13 ∨ n = 14 ∨ n = 15 := by omega
  rcases this with rfl | rfl | rfl | rfl | rfl | rfl | rfl | rfl | rfl | rfl | rfl | rfl | rfl | rfl | rfl | rfl <;> exact (show Sem.run _ _ _ = _ by kernel_rfl)
theorem idx_hex (x : Int) (h0 : 0 ≤ x) (h1 : x < 16) (w : World) : (Instr.index 9 (.string ⟨#[48, 49, 50, 51, 52, 53, 54, 55, 56, 57, 97, 98, 99, 100, 101, 102]⟩) (.int .u8 x)).run Tryd.prog w = .ok (.int .u8 ((hexd x.toNat).toNat : Int)) w := by
  obtain ⟨n, rfl⟩ := Int.eq_ofNat_of_zero_le h0
  exact idx_hex_nat n (by omega) w
theorem idx_hex16_nat (n : Nat) (h : n < 16) (w : World) : (Instr.index 9 (.string hexStr) (.int .u16 (n : Int))).run Tryd.prog w = .ok (.int .u8 ((hexd n).toNat : Int)) w := by
  have : n = 0 ∨ n = 1 ∨ n = 2 ∨ n = 3 ∨ n = 4 ∨ n = 5 ∨ n = 6 ∨ n = 7 ∨ n = 8 ∨ n = 9 ∨ n = 10 ∨ n = 11 ∨ n = 12 ∨ n = 13 ∨ n = 14 ∨ n = 15 := by omega
  rcases this with rfl | rfl | rfl | rfl | rfl | rfl | rfl | rfl | rfl | rfl | rfl | rfl | rfl | rfl | rfl | rfl <;> exact (show Sem.run _ _ _ = _ by kernel_rfl)
theorem idx_hex16 (x : Int) (h0 : 0 ≤ x) (h1 : x < 16) (w : World) : (Instr.index 9 (.string ⟨#[48, 49, 50, 51, 52, 53, 54, 55, 56, 57, 97, 98, 99, 100, 101, 102]⟩) (.int .u16 x)).run Tryd.prog w = .ok (.int .u8 ((hexd x.toNat).toNat : Int)) w := by
  obtain ⟨n, rfl⟩ := Int.eq_ofNat_of_zero_le h0
  exact idx_hex16_nat n (by omega) w

theorem hexd_dec (d : Nat) (h : d < 10) : hexd d = UInt8.ofNat (48 + d) := by unfold hexd; rw [if_pos h]
theorem dec1 (x : Nat) (h : x < 10) : Lib.decDigits x = [hexd (x % 10)] := by rw [decDigits_small x h, hexd_dec _ (by omega)]
theorem dec2 (x : Nat) (h0 : 10 ≤ x) (h : x < 100) : Lib.decDigits x = [hexd (x / 10 % 10), hexd (x % 10)] := by
  rw [decDigits_step x h0, dec1 (x / 10) (by omega), hexd_dec (x % 10) (by omega)]; rfl
theorem dec3 (x : Nat) (h0 : 100 ≤ x) (h : x < 1000) : Lib.decDigits x = [hexd (x / 100), hexd (x / 10 % 10), hexd (x % 10)] := by
  rw [decDigits_step x (by omega), dec2 (x / 10) (by omega) (by omega), hexd_dec (x % 10) (by omega), show x / 10 / 10 % 10 = x / 100 by omega]; rfl

set_option maxHeartbeats 400000 in
theorem ndec_any (B : Nat) (w : World) (v : Value) (l : List UInt8) (x : Int) (hd : Dst B w v l) (hB : B ≤ w.heap.size) (h0 : 0 ≤ x) (h1 : x < 256) (hl : l.length ≤ 1099511627776) :
    Calls Tryd.prog 41 #[v, .int .u8 x] w fun e w' => ∃ v', e = .returned v' ∧ Own B w' v' (l ++ Lib.decDigits x.toNat) ∧ Step B w w' := by
  have i3 := fun w => idx_hex (x % 10) (by omega) (by omega) w
  obtain ⟨c3, e3⟩ : ∃ c, c = hexd (x % 10).toNat := ⟨_, rfl⟩
  rw [← e3] at i3
  by_cases h100 : 100 ≤ x
  · have i1 := fun w => idx_hex (x / 100) (by omega) (by omega) w
    have i2 := fun w => idx_hex (x / 10 % 10) (by omega) (by omega) w
    obtain ⟨c1, e1⟩ : ∃ c, c = hexd (x / 100).toNat := ⟨_, rfl⟩
    obtain ⟨c2, e2⟩ : ∃ c, c = hexd (x / 10 % 10).toNat := ⟨_, rfl⟩
    rw [← e1] at i1
    rw [← e2] at i2
    have hdd : l ++ Lib.decDigits x.toNat = l ++ [c1] ++ [c2] ++ [c3] := by
      rw [dec3 x.toNat (by omega) (by omega), e1, e2, e3, show (x / 100).toNat = x.toNat / 100 by omega, show (x / 10 % 10).toNat = x.toNat / 10 % 10 by omega, show (x % 10).toNat = x.toNat % 10 by omega]; simp
    obtain ⟨L1, f1⟩ : ∃ L, L = l ++ [c1] := ⟨_, rfl⟩
    obtain ⟨L2, f2⟩ : ∃ L, L = L1 ++ [c2] := ⟨_, rfl⟩
    obtain ⟨L3, f3⟩ : ∃ L, L = L2 ++ [c3] := ⟨_, rfl⟩
    rw [← f1, ← f2, ← f3] at hdd
    have l1 : L1.length = l.length + 1 := by rw [f1]; simp
    have l2 : L2.length = l.length + 2 := by rw [f2]; simp; omega
    have l1' : L1.length + 1 ≤ 140737488355328 := by omega
    have l2' : L2.length + 1 ≤ 140737488355328 := by omega
    have F1 := Lib.hid f1
    have F2 := Lib.hid f2
    have F3 := Lib.hid f3
    have HDD := Lib.hid hdd
    clear e1 e2 e3 f1 f2 f3 hdd l1 l2
    go_enter Tryd.func41, Tryd.ntmps41
    go_wp2_with (at_builtin; refine wpList_append1 rfl _ _ rfl B v l rfl hd hB _ c1 rfl L1 F1.out rfl (by omega) ?_)
    intro v2 w2 o2 b2
    have s2 : B ≤ w2.heap.size := Nat.le_trans hB b2.size
    go_wp2_with (at_builtin; refine wpList_append1 rfl _ _ rfl B v2 L1 rfl (Dst.own o2) s2 _ c2 rfl L2 F2.out rfl l1' ?_)
    intro v3 w3 o3 b3
    have s3 : B ≤ w3.heap.size := Nat.le_trans s2 b3.size
    go_wp2_with (at_builtin; refine wpList_append1 rfl _ _ rfl B v3 L2 rfl (Dst.own o3) s3 _ c3 rfl L3 F3.out rfl l2' ?_)
    intro v4 w4 o4 b4
    go_wp2
    go_ret
    exact ⟨v4, rfl, by rw [HDD.out]; exact o4, (b2.trans b3).trans b4⟩
  · by_cases h10 : 10 ≤ x
    · have i2 := fun w => idx_hex (x / 10 % 10) (by omega) (by omega) w
      obtain ⟨c2, e2⟩ : ∃ c, c = hexd (x / 10 % 10).toNat := ⟨_, rfl⟩
      rw [← e2] at i2
      have hdd : l ++ Lib.decDigits x.toNat = l ++ [c2] ++ [c3] := by
        rw [dec2 x.toNat (by omega) (by omega), e2, e3, show (x / 10 % 10).toNat = x.toNat / 10 % 10 by omega, show (x % 10).toNat = x.toNat % 10 by omega]; simp
      obtain ⟨L2, f2⟩ : ∃ L, L = l ++ [c2] := ⟨_, rfl⟩
      obtain ⟨L3, f3⟩ : ∃ L, L = L2 ++ [c3] := ⟨_, rfl⟩
      rw [← f2, ← f3] at hdd
      have l2 : L2.length = l.length + 1 := by rw [f2]; simp
      have l2' : L2.length + 1 ≤ 140737488355328 := by omega
      have F2 := Lib.hid f2
      have F3 := Lib.hid f3
      have HDD := Lib.hid hdd
      clear e2 e3 f2 f3 hdd l2
      go_enter Tryd.func41, Tryd.ntmps41
      go_wp2_with (at_builtin; refine wpList_append1 rfl _ _ rfl B v l rfl hd hB _ c2 rfl L2 F2.out rfl (by omega) ?_)
      intro v3 w3 o3 b3
      have s3 : B ≤ w3.heap.size := Nat.le_trans hB b3.size
      go_wp2_with (at_builtin; refine wpList_append1 rfl _ _ rfl B v3 L2 rfl (Dst.own o3) s3 _ c3 rfl L3 F3.out rfl l2' ?_)
      intro v4 w4 o4 b4
      go_wp2
      go_ret
      exact ⟨v4, rfl, by rw [HDD.out]; exact o4, b3.trans b4⟩
    · have hdd : l ++ Lib.decDigits x.toNat = l ++ [c3] := by
        rw [dec1 x.toNat (by omega), e3, show (x % 10).toNat = x.toNat % 10 by omega]
      obtain ⟨L3, f3⟩ : ∃ L, L = l ++ [c3] := ⟨_, rfl⟩
      rw [← f3] at hdd
      have F3 := Lib.hid f3
      have HDD := Lib.hid hdd
      clear e3 f3 hdd
      go_enter Tryd.func41, Tryd.ntmps41
      go_wp2_with (at_builtin; refine wpList_append1 rfl _ _ rfl B v l rfl hd hB _ c3 rfl L3 F3.out rfl (by omega) ?_)
      intro v4 w4 o4 b4
      go_wp2
      go_ret
      exact ⟨v4, rfl, by rw [HDD.out]; exact o4, b4⟩
theorem hex16_1 (x : Nat) (h : x < 16) : hex16 x = [hexd (x % 16)] := hex16_small x h
theorem hex16_2 (x : Nat) (h0 : 16 ≤ x) (h : x < 256) : hex16 x = [hexd (x / 16 % 16), hexd (x % 16)] := by
  unfold hex16; rw [if_neg (by omega), if_pos h, Nat.mod_eq_of_lt (show x / 16 < 16 by omega)]
theorem hex16_3 (x : Nat) (h0 : 256 ≤ x) (h : x < 4096) : hex16 x = [hexd (x / 256 % 16), hexd (x / 16 % 16), hexd (x % 16)] := by
  unfold hex16; rw [if_neg (by omega), if_neg (by omega), if_pos h, Nat.mod_eq_of_lt (show x / 256 < 16 by omega)]
theorem hex16_4 (x : Nat) (h0 : 4096 ≤ x) : hex16 x = [hexd (x / 4096), hexd (x / 256 % 16), hexd (x / 16 % 16), hexd (x % 16)] := by
  unfold hex16; rw [if_neg (by omega), if_neg (by omega), if_neg (by omega)]

set_option maxHeartbeats 800000 in
theorem nhex_any (B : Nat) (w : World) (v : Value) (l : List UInt8) (x : Int) (hd : Dst B w v l) (hB : B ≤ w.heap.size) (h0 : 0 ≤ x) (h1 : x < 65536) (hl : l.length ≤ 1099511627776) :
    Calls Tryd.prog 47 #[v, .int .u16 x] w fun e w' => ∃ v', e = .returned v' ∧ Own B w' v' (l ++ hex16 x.toNat) ∧ Step B w w' := by
  have a2 : bits .and .u16 (x / 256) 15 = x / 256 % 16 := and15_u16 (x / 256) (by omega) (by omega)
  have a3 : bits .and .u16 (x / 16) 15 = x / 16 % 16 := and15_u16 (x / 16) (by omega) (by omega)
  have a4 : bits .and .u16 x 15 = x % 16 := and15_u16 x h0 h1
  by_cases h4096 : 4096 ≤ x
  · have i1 := fun w => idx_hex16 (x / 4096) (by omega) (by omega) w
    obtain ⟨c1, e1⟩ : ∃ c, c = hexd (x / 4096).toNat := ⟨_, rfl⟩
    rw [← e1] at i1
    have i2 := fun w => idx_hex16 (x / 256 % 16) (by omega) (by omega) w
    obtain ⟨c2, e2⟩ : ∃ c, c = hexd (x / 256 % 16).toNat := ⟨_, rfl⟩
    rw [← e2] at i2
    have i3 := fun w => idx_hex16 (x / 16 % 16) (by omega) (by omega) w
    obtain ⟨c3, e3⟩ : ∃ c, c = hexd (x / 16 % 16).toNat := ⟨_, rfl⟩
    rw [← e3] at i3
    have i4 := fun w => idx_hex16 (x % 16) (by omega) (by omega) w
    obtain ⟨c4, e4⟩ : ∃ c, c = hexd (x % 16).toNat := ⟨_, rfl⟩
    rw [← e4] at i4
    have hdd : l ++ hex16 x.toNat = l ++ [c1] ++ [c2] ++ [c3] ++ [c4] := by
      rw [hex16_4 x.toNat (by omega), e1, e2, e3, e4, show (x / 4096).toNat = x.toNat / 4096 by omega, show (x / 256 % 16).toNat = x.toNat / 256 % 16 by omega, show (x / 16 % 16).toNat = x.toNat / 16 % 16 by omega, show (x % 16).toNat = x.toNat % 16 by omega]; simp
    obtain ⟨L1, f1⟩ : ∃ L, L = l ++ [c1] := ⟨_, rfl⟩
    obtain ⟨L2, f2⟩ : ∃ L, L = L1 ++ [c2] := ⟨_, rfl⟩
    obtain ⟨L3, f3⟩ : ∃ L, L = L2 ++ [c3] := ⟨_, rfl⟩
    obtain ⟨L4, f4⟩ : ∃ L, L = L3 ++ [c4] := ⟨_, rfl⟩
    rw [← f1, ← f2, ← f3, ← f4] at hdd
    have g1 : L1.length = l.length + 1 := by rw [f1]; simp
    have g2 : L2.length = l.length + 2 := by rw [f2]; simp; omega
    have g3 : L3.length = l.length + 3 := by rw [f3]; simp; omega
    have g4 : L4.length = l.length + 4 := by rw [f4]; simp; omega
    have g1' : L1.length + 1 ≤ 140737488355328 := by omega
    have g2' : L2.length + 1 ≤ 140737488355328 := by omega
    have g3' : L3.length + 1 ≤ 140737488355328 := by omega
    have g4' : L4.length + 1 ≤ 140737488355328 := by omega
    have F1 := Lib.hid f1
    have F2 := Lib.hid f2
    have F3 := Lib.hid f3
    have F4 := Lib.hid f4
    have HDD := Lib.hid hdd
    clear e1 f1 g1 e2 f2 g2 e3 f3 g3 e4 f4 g4 hdd
    go_enter Tryd.func47, Tryd.ntmps47
    go_wp2_with (at_builtin; refine wpList_append1 rfl _ _ rfl B v l rfl hd hB _ c1 rfl L1 F1.out rfl (by omega) ?_)
    intro v1 w1 o1 b1
    have s1 : B ≤ w1.heap.size := Nat.le_trans hB b1.size
    go_wp2_with (at_builtin; refine wpList_append1 rfl _ _ rfl B v1 L1 rfl (Dst.own o1) s1 _ c2 rfl L2 F2.out rfl g1' ?_)
    intro v2 w2 o2 b2
    have s2 : B ≤ w2.heap.size := Nat.le_trans s1 b2.size
    go_wp2_with (at_builtin; refine wpList_append1 rfl _ _ rfl B v2 L2 rfl (Dst.own o2) s2 _ c3 rfl L3 F3.out rfl g2' ?_)
    intro v3 w3 o3 b3
    have s3 : B ≤ w3.heap.size := Nat.le_trans s2 b3.size
    go_wp2_with (at_builtin; refine wpList_append1 rfl _ _ rfl B v3 L3 rfl (Dst.own o3) s3 _ c4 rfl L4 F4.out rfl g3' ?_)
    intro v4 w4 o4 b4
    go_wp2
    go_ret
    exact ⟨v4, rfl, by rw [HDD.out]; exact o4, (((b1.trans b2).trans b3).trans b4)⟩
  · by_cases h256 : 256 ≤ x
    · have i2 := fun w => idx_hex16 (x / 256 % 16) (by omega) (by omega) w
      obtain ⟨c2, e2⟩ : ∃ c, c = hexd (x / 256 % 16).toNat := ⟨_, rfl⟩
      rw [← e2] at i2
      have i3 := fun w => idx_hex16 (x / 16 % 16) (by omega) (by omega) w
      obtain ⟨c3, e3⟩ : ∃ c, c = hexd (x / 16 % 16).toNat := ⟨_, rfl⟩
      rw [← e3] at i3
      have i4 := fun w => idx_hex16 (x % 16) (by omega) (by omega) w
      obtain ⟨c4, e4⟩ : ∃ c, c = hexd (x % 16).toNat := ⟨_, rfl⟩
      rw [← e4] at i4
      have hdd : l ++ hex16 x.toNat = l ++ [c2] ++ [c3] ++ [c4] := by
        rw [hex16_3 x.toNat (by omega) (by omega), e2, e3, e4, show (x / 256 % 16).toNat = x.toNat / 256 % 16 by omega, show (x / 16 % 16).toNat = x.toNat / 16 % 16 by omega, show (x % 16).toNat = x.toNat % 16 by omega]; simp
      obtain ⟨L2, f2⟩ : ∃ L, L = l ++ [c2] := ⟨_, rfl⟩
      obtain ⟨L3, f3⟩ : ∃ L, L = L2 ++ [c3] := ⟨_, rfl⟩
      obtain ⟨L4, f4⟩ : ∃ L, L = L3 ++ [c4] := ⟨_, rfl⟩
      rw [← f2, ← f3, ← f4] at hdd
      have g2 : L2.length = l.length + 1 := by rw [f2]; simp
      have g3 : L3.length = l.length + 2 := by rw [f3]; simp; omega
      have g4 : L4.length = l.length + 3 := by rw [f4]; simp; omega
      have g2' : L2.length + 1 ≤ 140737488355328 := by omega
      have g3' : L3.length + 1 ≤ 140737488355328 := by omega
      have g4' : L4.length + 1 ≤ 140737488355328 := by omega
      have F2 := Lib.hid f2
      have F3 := Lib.hid f3
      have F4 := Lib.hid f4
      have HDD := Lib.hid hdd
      clear e2 f2 g2 e3 f3 g3 e4 f4 g4 hdd
      go_enter Tryd.func47, Tryd.ntmps47
      go_wp2_with (at_builtin; refine wpList_append1 rfl _ _ rfl B v l rfl hd hB _ c2 rfl L2 F2.out rfl (by omega) ?_)
      intro v2 w2 o2 b2
      have s2 : B ≤ w2.heap.size := Nat.le_trans hB b2.size
      go_wp2_with (at_builtin; refine wpList_append1 rfl _ _ rfl B v2 L2 rfl (Dst.own o2) s2 _ c3 rfl L3 F3.out rfl g2' ?_)
      intro v3 w3 o3 b3
      have s3 : B ≤ w3.heap.size := Nat.le_trans s2 b3.size
      go_wp2_with (at_builtin; refine wpList_append1 rfl _ _ rfl B v3 L3 rfl (Dst.own o3) s3 _ c4 rfl L4 F4.out rfl g3' ?_)
      intro v4 w4 o4 b4
      go_wp2
      go_ret
      exact ⟨v4, rfl, by rw [HDD.out]; exact o4, ((b2.trans b3).trans b4)⟩
    · by_cases h16 : 16 ≤ x
      · have i3 := fun w => idx_hex16 (x / 16 % 16) (by omega) (by omega) w
        obtain ⟨c3, e3⟩ : ∃ c, c = hexd (x / 16 % 16).toNat := ⟨_, rfl⟩
        rw [← e3] at i3
        have i4 := fun w => idx_hex16 (x % 16) (by omega) (by omega) w
        obtain ⟨c4, e4⟩ : ∃ c, c = hexd (x % 16).toNat := ⟨_, rfl⟩
        rw [← e4] at i4
        have hdd : l ++ hex16 x.toNat = l ++ [c3] ++ [c4] := by
          rw [hex16_2 x.toNat (by omega) (by omega), e3, e4, show (x / 16 % 16).toNat = x.toNat / 16 % 16 by omega, show (x % 16).toNat = x.toNat % 16 by omega]; simp
        obtain ⟨L3, f3⟩ : ∃ L, L = l ++ [c3] := ⟨_, rfl⟩
        obtain ⟨L4, f4⟩ : ∃ L, L = L3 ++ [c4] := ⟨_, rfl⟩
        rw [← f3, ← f4] at hdd
        have g3 : L3.length = l.length + 1 := by rw [f3]; simp
        have g4 : L4.length = l.length + 2 := by rw [f4]; simp; omega
        have g3' : L3.length + 1 ≤ 140737488355328 := by omega
        have g4' : L4.length + 1 ≤ 140737488355328 := by omega
        have F3 := Lib.hid f3
        have F4 := Lib.hid f4
        have HDD := Lib.hid hdd
        clear e3 f3 g3 e4 f4 g4 hdd
        go_enter Tryd.func47, Tryd.ntmps47
        go_wp2_with (at_builtin; refine wpList_append1 rfl _ _ rfl B v l rfl hd hB _ c3 rfl L3 F3.out rfl (by omega) ?_)
        intro v3 w3 o3 b3
        have s3 : B ≤ w3.heap.size := Nat.le_trans hB b3.size
        go_wp2_with (at_builtin; refine wpList_append1 rfl _ _ rfl B v3 L3 rfl (Dst.own o3) s3 _ c4 rfl L4 F4.out rfl g3' ?_)
        intro v4 w4 o4 b4
        go_wp2
        go_ret
        exact ⟨v4, rfl, by rw [HDD.out]; exact o4, (b3.trans b4)⟩
      · have i4 := fun w => idx_hex16 (x % 16) (by omega) (by omega) w
        obtain ⟨c4, e4⟩ : ∃ c, c = hexd (x % 16).toNat := ⟨_, rfl⟩
        rw [← e4] at i4
        have hdd : l ++ hex16 x.toNat = l ++ [c4] := by
          rw [hex16_1 x.toNat (by omega), e4, show (x % 16).toNat = x.toNat % 16 by omega]
        obtain ⟨L4, f4⟩ : ∃ L, L = l ++ [c4] := ⟨_, rfl⟩
        rw [← f4] at hdd
        have g4 : L4.length = l.length + 1 := by rw [f4]; simp
        have g4' : L4.length + 1 ≤ 140737488355328 := by omega
        have F4 := Lib.hid f4
        have HDD := Lib.hid hdd
        clear e4 f4 g4 hdd
        go_enter Tryd.func47, Tryd.ntmps47
        go_wp2_with (at_builtin; refine wpList_append1 rfl _ _ rfl B v l rfl hd hB _ c4 rfl L4 F4.out rfl (by omega) ?_)
        intro v4 w4 o4 b4
        go_wp2
        go_ret
        exact ⟨v4, rfl, by rw [HDD.out]; exact o4, b4⟩
end Go.Proofs.Qxb6604517aDoor
