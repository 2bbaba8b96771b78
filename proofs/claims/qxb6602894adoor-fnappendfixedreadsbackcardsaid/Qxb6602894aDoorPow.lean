import Derived.Test.Qxb6602894aDoorAppendU
namespace Go.Proofs.Qxb6602894aDoor
open Go.RowKit

/-- The p last digits of f. -/
def pad : Nat → Nat → List UInt8
  | 0, _ => []
  | p + 1, f => pad p (f / 10) ++ [UInt8.ofNat (48 + f % 10)]
/-- The p digits of f, the noughts at the end left out. -/
def cut : Nat → Nat → List UInt8
  | 0, _ => []
  | p + 1, f => if f % 10 = 0 then cut p (f / 10) else pad (p + 1) f

theorem pad_len (p f : Nat) : (pad p f).length = p := by
  induction p generalizing f with
  | zero => rfl
  | succ p ih => simp [pad, ih]

theorem pad_front (p f : Nat) : pad (p + 1) f = UInt8.ofNat (48 + f / 10 ^ p % 10) :: pad p f := by
  induction p generalizing f with
  | zero => simp [pad]
  | succ p ih =>
    rw [pad, ih (f / 10), show pad (p + 1) f = pad p (f / 10) ++ [UInt8.ofNat (48 + f % 10)] from rfl, Nat.div_div_eq_div_mul, Nat.pow_succ, Nat.mul_comm 10 (10 ^ p)]
    rfl

theorem pad_dec (k x : Nat) (h : x < 10 ^ k) (h0 : k = 1 ∨ 10 ^ (k - 1) ≤ x) : pad k x = Lib.decDigits x := by
  induction k generalizing x with
  | zero => rcases h0 with h0 | h0 <;> simp at h h0; omega
  | succ k ih =>
    by_cases hk : k = 0
    · subst hk
      rw [Lib.decDigits_one (by simpa using h)]
      have : x < 10 := by simpa using h
      simp [pad, Nat.mod_eq_of_lt this]
    · rcases h0 with h0 | h0
      · omega
      · simp only [Nat.add_sub_cancel] at h0
        have h10 : 10 ≤ x := by
          have : 10 ^ 1 ≤ 10 ^ k := Nat.pow_le_pow_right (by omega) (by omega)
          omega
        rw [decDigits_step x h10, pad, ih (x / 10) (by rw [Nat.pow_succ] at h; omega) ?_]
        by_cases h1 : k = 1
        · exact Or.inl h1
        · refine Or.inr ?_
          obtain ⟨j, rfl⟩ : ∃ j, k = j + 1 := ⟨k - 1, by omega⟩
          rw [Nat.pow_succ] at h0
          simp; omega

theorem cut_drop (d : Nat) : ∀ p f, d ≤ p → f % 10 ^ d = 0 → cut p f = cut (p - d) (f / 10 ^ d) := by
  induction d with
  | zero => intro p f _ _; simp
  | succ d ih =>
    intro p f hp hf
    obtain ⟨q, rfl⟩ : ∃ q, p = q + 1 := ⟨p - 1, by omega⟩
    have h1 : f % 10 = 0 := by
      rw [Nat.pow_succ] at hf
      have := Nat.mod_mul_left_mod f (10 ^ d) 10
      rw [hf] at this; omega
    have h2 : f / 10 % 10 ^ d = 0 := by
      rw [Nat.pow_succ, Nat.mul_comm] at hf
      rw [← Nat.mod_mul_right_div_self, hf]
    rw [cut, if_pos h1, ih q (f / 10) (by omega) h2, Nat.div_div_eq_div_mul, Nat.pow_succ, Nat.mul_comm 10]
    congr 1; omega

theorem cut_stop (p f : Nat) (h : f % 10 ≠ 0) : cut p f = pad p f := by
  cases p with
  | zero => rfl
  | succ p => rw [cut, if_neg h]

theorem pow_bound (k : Nat) (h : k ≤ 19) : (1 : Int) ≤ ((10 ^ k : Nat) : Int) ∧ ((10 ^ k : Nat) : Int) ≤ 10000000000000000000 := by
  have h1 : 1 ≤ 10 ^ k := Nat.one_le_pow _ _ (by omega)
  have h2 : 10 ^ k ≤ 10 ^ 19 := Nat.pow_le_pow_right (by omega) h
  have h3 : (10 : Nat) ^ 19 = 10000000000000000000 := by decide
  omega

set_option maxHeartbeats 400000 in
theorem pow_any (n : Nat) (hn : n ≤ 19) (w : World) :
    Calls Tryd.prog 6 #[.int .i64 (n : Int)] w fun e w' => e = .returned (.int .u64 ((10 ^ n : Nat) : Int)) ∧ w' = w := by
  obtain ⟨R, hR⟩ : ∃ R : Int, R = ((10 ^ n : Nat) : Int) := ⟨_, rfl⟩
  rw [← hR]
  have HR := Lib.hid hR
  clear hR
  go_enter Tryd.func6, Tryd.ntmps6
  go_wp2
  go_loop [3, 4] (fun p i => ∃ (k : Nat) (P : Int), k ≤ n ∧ i = .int .i64 k ∧ p = .int .u64 P ∧ 1 ≤ P ∧ P ≤ 10000000000000000000 ∧ Hid (P = ((10 ^ k : Nat) : Int))) (fun _ i => n - (intOf i).toNat)
  case atStart => exact ⟨0, 1, Nat.zero_le _, rfl, rfl, by omega, by omega, by show (1 : Int) = _; simp⟩
  case round =>
    obtain ⟨k, P, hk, rfl, rfl, h1, h2, hP⟩ := hrel
    by_cases hlt : k < n
    · have hb := pow_bound (k + 1) (by omega)
      have hE : P * 10 = ((10 ^ (k + 1) : Nat) : Int) := by rw [hP.out, Nat.pow_succ]; omega
      rw [← hE] at hb
      have HE := Lib.hid hE
      have h3 : P ≤ 1000000000000000000 := by omega
      clear hE h2
      go_wp2
      go_round
      case rel => exact ⟨k + 1, P * 10, by omega, by go_num, rfl, by omega, by omega, HE.out⟩
      case measure => simp [intOf]; omega
    · have hkn : k = n := by omega
      subst hkn
      have hRP : R = P := by rw [HR.out, hP.out]
      subst hRP
      go_wp2
      go_ret
      exact ⟨rfl, rfl⟩
end Go.Proofs.Qxb6602894aDoor
