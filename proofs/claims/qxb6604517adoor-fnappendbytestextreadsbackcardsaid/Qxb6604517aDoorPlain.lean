import Derived.Lib.ItoaLen
namespace Go.Proofs.Qxb6604517aDoor
open Go.Lib

/-- The number that a row of decimal digits spells. -/
def dval (l : List UInt8) : Nat := l.foldl (fun a c => a * 10 + (c.toNat - 48)) 0

theorem dval_snoc (l : List UInt8) (c : UInt8) : dval (l ++ [c]) = dval l * 10 + (c.toNat - 48) := by
  simp [dval, List.foldl_append]

theorem foldl_ge (l : List UInt8) : ∀ a : Nat, a ≤ l.foldl (fun a c => a * 10 + (c.toNat - 48)) a := by
  induction l with
  | nil => intro a; simp
  | cons c l ih => intro a; simp only [List.foldl_cons]; have := ih (a*10 + (c.toNat-48)); omega

theorem dval_take_le (l : List UInt8) (k : Nat) : dval (l.take k) ≤ dval l := by
  have h : dval l = dval (l.take k ++ l.drop k) := by rw [List.take_append_drop]
  rw [h]; unfold dval; rw [List.foldl_append]; exact foldl_ge _ _

theorem digit_toNat (d : Nat) (h : d < 10) : (UInt8.ofNat (48 + d)).toNat = 48 + d := by
  simp; omega

theorem dval_decDigits (u : Nat) : dval (decDigits u) = u := by
  induction u using Nat.strongRecOn with
  | _ u ih =>
    by_cases h : u < 10
    · rw [decDigits_one h]; simp only [dval, List.foldl_cons, List.foldl_nil]; rw [digit_toNat u h]; omega
    · rw [decDigits, dif_neg h, dval_snoc, ih (u / 10) (by omega), digit_toNat _ (by omega)]; omega

theorem decDigits_range (u : Nat) : ∀ c ∈ decDigits u, 48 ≤ c.toNat ∧ c.toNat ≤ 57 := by
  induction u using Nat.strongRecOn with
  | _ u ih =>
    by_cases h : u < 10
    · rw [decDigits_one h]; intro c hc; rw [List.mem_singleton] at hc; subst hc; rw [digit_toNat u h]; omega
    · rw [decDigits, dif_neg h]; intro c hc
      rw [List.mem_append, List.mem_singleton] at hc
      rcases hc with hc | hc
      · exact ih (u / 10) (by omega) c hc
      · subst hc; rw [digit_toNat _ (by omega)]; omega

theorem decDigits_head (u : Nat) (h0 : 0 < u) : ∃ c t, decDigits u = c :: t ∧ 49 ≤ c.toNat := by
  induction u using Nat.strongRecOn with
  | _ u ih =>
    by_cases h : u < 10
    · exact ⟨_, [], decDigits_one h, by rw [digit_toNat u h]; omega⟩
    · obtain ⟨c, t, e, hc⟩ := ih (u / 10) (by omega) (by omega)
      exact ⟨c, t ++ [UInt8.ofNat (48 + u % 10)], by rw [decDigits, dif_neg h, e]; rfl, hc⟩

theorem decDigits_len (u : Nat) (h : u < 10000000000000000000) : 1 ≤ (decDigits u).length ∧ (decDigits u).length ≤ 19 := by
  rw [decDigits_length]
  refine ⟨nDigits_pos u, ?_⟩
  rcases Nat.eq_zero_or_pos u with rfl | h1
  · rw [nDigits_small (by omega)]; omega
  · false_or_by_contra
    rename_i hn
    have hlow : 10 ^ (nDigits u - 1) ≤ u := by
      have key : ∀ n : Nat, 0 < n → 10 ^ (nDigits n - 1) ≤ n := by
        intro n
        induction n using Nat.strongRecOn with
        | _ n ih =>
          intro hp
          by_cases h10 : n < 10
          · rw [nDigits_small h10]; simp; omega
          · rw [nDigits_big h10]
            have h2 := ih (n / 10) (by omega) (by omega)
            have h3 := nDigits_pos (n / 10)
            rw [show nDigits (n / 10) + 1 - 1 = (nDigits (n / 10) - 1) + 1 from by omega, Nat.pow_succ]
            omega
      exact key u h1
    have : 10 ^ 19 ≤ 10 ^ (nDigits u - 1) := Nat.pow_le_pow_right (by omega) (by omega)
    have h19 : (10:Nat) ^ 19 = 10000000000000000000 := by decide
    omega


theorem decDigits_len20 (u : Nat) (h : u < 18446744073709551616) : 1 ≤ (decDigits u).length ∧ (decDigits u).length ≤ 20 := by
  rw [decDigits_length]
  exact ⟨nDigits_pos u, nDigits_le20 u h⟩
theorem decDigits_step (u : Nat) (h : 10 ≤ u) : decDigits u = decDigits (u / 10) ++ [UInt8.ofNat (48 + u % 10)] := by
  rw [decDigits, dif_neg (by omega)]
theorem decDigits_small (u : Nat) (h : u < 10) : decDigits u = [UInt8.ofNat (48 + u % 10)] := by
  rw [decDigits_one h, Nat.mod_eq_of_lt h]
end Go.Proofs.Qxb6604517aDoor
