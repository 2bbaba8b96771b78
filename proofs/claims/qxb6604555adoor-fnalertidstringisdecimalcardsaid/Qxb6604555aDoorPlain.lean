import Derived.Lib.ItoaMem
namespace Go.Proofs.Qxb6604555aDoor
open Go.Lib

/-- The number that a row of decimal digits spells. -/
def dval (l : List UInt8) : Nat := l.foldl (fun a c => a * 10 + (c.toNat - 48)) 0

theorem dval_snoc (l : List UInt8) (c : UInt8) : dval (l ++ [c]) = dval l * 10 + (c.toNat - 48) := by
  simp [dval, List.foldl_append]

theorem foldl_ge (l : List UInt8) : ∀ a : Nat, a ≤ l.foldl (fun a c => a * 10 + (c.toNat - 48)) a := by
  induction l with
  | nil => intro a; simp
  | cons c l ih => intro a; simp only [List.foldl_cons]; have := ih (a*10 + (c.toNat-48)); omega

theorem dval_take_le (l : List UInt8) (k : Nat) : dval (l.take k) ≤ dval l := by
  have h : dval l = dval (l.take k ++ l.drop k) := by rw [List.take_append_drop]
  rw [h]; unfold dval; rw [List.foldl_append]; exact foldl_ge _ _

theorem digit_toNat (d : Nat) (h : d < 10) : (UInt8.ofNat (48 + d)).toNat = 48 + d := by
  simp; omega

theorem dval_decDigits (u : Nat) : dval (decDigits u) = u := by
  induction u using Nat.strongRecOn with
  | _ u ih =>
    by_cases h : u < 10
    · rw [decDigits_one h]; simp only [dval, List.foldl_cons, List.foldl_nil]; rw [digit_toNat u h]; omega
    · rw [decDigits, dif_neg h, dval_snoc, ih (u / 10) (by omega), digit_toNat _ (by omega)]; omega

theorem decDigits_range (u : Nat) : ∀ c ∈ decDigits u, 48 ≤ c.toNat ∧ c.toNat ≤ 57 := by
  induction u using Nat.strongRecOn with
  | _ u ih =>
    by_cases h : u < 10
    · rw [decDigits_one h]; intro c hc; rw [List.mem_singleton] at hc; subst hc; rw [digit_toNat u h]; omega
    · rw [decDigits, dif_neg h]; intro c hc
      rw [List.mem_append, List.mem_singleton] at hc
      rcases hc with hc | hc
      · exact ih (u / 10) (by omega) c hc
      · subst hc; rw [digit_toNat _ (by omega)]; omega

theorem decDigits_head (u : Nat) (h0 : 0 < u) : ∃ c t, decDigits u = c :: t ∧ 49 ≤ c.toNat := by
  induction u using Nat.strongRecOn with
  | _ u ih =>
    by_cases h : u < 10
    · exact ⟨_, [], decDigits_one h, by rw [digit_toNat u h]; omega⟩
    · obtain ⟨c, t, e, hc⟩ := ih (u / 10) (by omega) (by omega)
      exact ⟨c, t ++ [UInt8.ofNat (48 + u % 10)], by rw [decDigits, dif_neg h, e]; rfl, hc⟩

theorem decDigits_len (u : Nat) (h : u < 10000000000000000000) : 1 ≤ (decDigits u).length ∧ (decDigits u).length ≤ 19 := by
  rw [decDigits_length]
  refine ⟨nDigits_pos u, ?_⟩
  rcases Nat.eq_zero_or_pos u with rfl | h1
  · rw [nDigits_small (by omega)]; omega
  · false_or_by_contra
    rename_i hn
    have hlow : 10 ^ (nDigits u - 1) ≤ u := by
      have key : ∀ n : Nat, 0 < n → 10 ^ (nDigits n - 1) ≤ n := by
        intro n
        induction n using Nat.strongRecOn with
        | _ n ih =>
          intro hp
          by_cases h10 : n < 10
          · rw [nDigits_small h10]; simp; omega
          · rw [nDigits_big h10]
            have h2 := ih (n / 10) (by omega) (by omega)
            have h3 := nDigits_pos (n / 10)
            rw [show nDigits (n / 10) + 1 - 1 = (nDigits (n / 10) - 1) + 1 from by omega, Nat.pow_succ]
            omega
      exact key u h1
    have : 10 ^ 19 ≤ 10 ^ (nDigits u - 1) := Nat.pow_le_pow_right (by omega) (by omega)
    have h19 : (10:Nat) ^ 19 = 10000000000000000000 := by decide
    omega

/-- What the digits from place st up to (not including) place k spell. -/
def pv (l : List UInt8) (st k : Nat) : Nat := dval ((l.drop st).take (k - st))

theorem pv_start (l : List UInt8) (st : Nat) : pv l st st = 0 := by simp [pv, dval]

theorem pv_step (l : List UInt8) (st k : Nat) (hst : st ≤ k) (hk : k < l.length) : pv l st (k + 1) = pv l st k * 10 + (l[k].toNat - 48) := by
  unfold pv
  rw [show k + 1 - st = (k - st) + 1 from by omega, List.take_succ_eq_append_getElem (by simp; omega), dval_snoc]
  simp only [List.getElem_drop]
  have e : st + (k - st) = k := by omega
  simp only [e]

theorem pv_le (l : List UInt8) (st k : Nat) : pv l st k ≤ dval (l.drop st) := dval_take_le _ _

theorem pv_full (l : List UInt8) (st : Nat) (_h : st ≤ l.length) : pv l st l.length = dval (l.drop st) := by
  unfold pv; rw [List.take_of_length_le (by simp)]

/-- What a string's bytes, read from place st on, are good for: digits; they spell u. -/
structure Spells (s : ByteArray) (st u : Nat) : Prop where
  lo : 1 ≤ s.size
  hi : s.size ≤ 20
  first : st < s.size
  dig : ∀ (k : Nat) (h : k < s.size), st ≤ k → 48 ≤ s[k].toNat ∧ s[k].toNat ≤ 57
  val : dval (s.data.toList.drop st) = u
  small : u ≤ 9223372036854775808
  lead : (u = 0 ∧ s.size = st + 1) ∨ ∃ h : st < s.size, 49 ≤ s[st].toNat

theorem getElem_toList (s : ByteArray) (k : Nat) (h : k < s.size) : s[k] = s.data.toList[k]'(by simpa using h) := rfl

theorem spells_nonneg (s : ByteArray) (n : Nat) (h : s.data.toList = itoa (n : Int)) (hn : n ≤ 9223372036854775807) : Spells s 0 n := by
  rw [itoa_nonneg] at h
  have hsz : s.size = (decDigits n).length := by rw [← h]; simp
  have hl := decDigits_len n (by omega)
  refine ⟨by omega, by omega, by omega, fun k hk _ => ?_, by rw [h]; exact dval_decDigits n, by omega, ?_⟩
  · exact decDigits_range n _ (by rw [← h, getElem_toList]; exact List.getElem_mem _)
  · rcases Nat.eq_zero_or_pos n with rfl | hp
    · left; refine ⟨rfl, ?_⟩; rw [hsz, decDigits_one (by omega)]; rfl
    · right
      obtain ⟨c, t, e, hc⟩ := decDigits_head n hp
      refine ⟨by omega, ?_⟩
      rw [getElem_toList]
      have : s.data.toList[0]'(by simp; omega) = c := by
        have : s.data.toList = c :: t := by rw [h, e]
        simp [this]
      rw [this]; exact hc

theorem spells_neg (s : ByteArray) (n : Nat) (h : s.data.toList = itoa (-(n : Int))) (h1 : 1 ≤ n) (hn : n ≤ 9223372036854775808) :
    Spells s 1 n ∧ ∃ h0 : 0 < s.size, s[0].toNat = 45 := by
  rw [itoa_neg n h1] at h
  have hsz : s.size = (decDigits n).length + 1 := by
    have : s.data.toList.length = (decDigits n).length + 1 := by rw [h]; rfl
    simpa using this
  have hl := decDigits_len n (by omega)
  refine ⟨⟨by omega, by omega, by omega, fun k hk h1k => ?_, by rw [h]; exact dval_decDigits n, by omega, ?_⟩, by omega, ?_⟩
  · obtain ⟨j, rfl⟩ : ∃ j, k = j + 1 := ⟨k - 1, by omega⟩
    refine decDigits_range n _ ?_
    rw [getElem_toList]
    have e : s.data.toList[j + 1]'(by simp; omega) = (decDigits n)[j]'(by omega) := by simp [h]
    rw [e]; exact List.getElem_mem _
  · right
    obtain ⟨c, t, e, hc⟩ := decDigits_head n h1
    refine ⟨by omega, ?_⟩
    rw [getElem_toList]
    have : s.data.toList[1]'(by simp; omega) = c := by
      have : s.data.toList = 45 :: c :: t := by rw [h, e]
      simp [this]
    rw [this]; exact hc
  · rw [getElem_toList]
    have : s.data.toList[0]'(by simp; omega) = 45 := by simp [h]
    rw [this]; rfl

end Go.Proofs.Qxb6604555aDoor
