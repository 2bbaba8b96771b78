import Derived.Test.Qxb6604517aDoorAbDec
namespace Go.Proofs.Qxb6604517aDoor
open Go.RowKit

/-- The number that a row of bytes spells. -/
def vb (t : List UInt8) : Nat := t.foldl (fun n c => n * 256 + c.toNat) 0
theorem vb_snoc (t : List UInt8) (c : UInt8) : vb (t ++ [c]) = vb t * 256 + c.toNat := by simp [vb, List.foldl_append]
theorem vb_from (t : List UInt8) : ∀ a : Nat, t.foldl (fun n c => n * 256 + c.toNat) a = a * 256 ^ t.length + vb t := by
  induction t with
  | nil => intro a; simp [vb]
  | cons c t ih =>
    intro a
    have h1 := ih (a * 256 + c.toNat)
    have h2 := ih (0 * 256 + c.toNat)
    unfold vb
    simp only [List.foldl_cons, List.length_cons]
    rw [h1, h2, Nat.pow_succ]
    have e1 : (a * 256 + c.toNat) * 256 ^ t.length = a * (256 ^ t.length * 256) + c.toNat * 256 ^ t.length := by
      rw [Nat.add_mul, Nat.mul_assoc, Nat.mul_comm 256]
    rw [e1, Nat.zero_mul, Nat.zero_add, Nat.add_assoc]
theorem vb_append (a b : List UInt8) : vb (a ++ b) = vb a * 256 ^ b.length + vb b := by
  rw [← vb_from b (vb a)]
  simp [vb, List.foldl_append]
theorem vb_lt (t : List UInt8) : vb t < 256 ^ t.length := by
  induction t with
  | nil => simp [vb]
  | cons c t ih =>
    have h := vb_append [c] t
    have h1 : vb [c] = c.toNat := by simp [vb]
    rw [h1] at h
    rw [show c :: t = [c] ++ t from rfl, h]
    have hc := c.toNat_lt
    have : c.toNat * 256 ^ t.length ≤ 255 * 256 ^ t.length := Nat.mul_le_mul_right _ (by omega)
    simp only [List.length_append, List.length_singleton]
    rw [Nat.add_comm 1 t.length, Nat.pow_succ]
    omega
theorem l8_mod (t : List UInt8) : ∀ a b : Nat, a = b % 18446744073709551616 → t.foldl (fun n c => n * 256 % 18446744073709551616 + c.toNat) a = t.foldl (fun n c => n * 256 + c.toNat) b % 18446744073709551616 := by
  induction t with
  | nil => intro a b h; exact h
  | cons c t ih =>
    intro a b h
    simp only [List.foldl_cons]
    refine ih _ _ ?_
    have hc := c.toNat_lt
    omega
theorem l8_vb (t : List UInt8) : l8 t = vb (t.drop (t.length - 8)) := by
  have h : l8 t = vb t % 18446744073709551616 := l8_mod t 0 0 rfl
  rw [h]
  by_cases h8 : 8 < t.length
  · have e : vb t = vb (t.take (t.length - 8) ++ t.drop (t.length - 8)) := by rw [List.take_append_drop]
    have hl : (t.drop (t.length - 8)).length = 8 := by rw [List.length_drop]; omega
    have hlt := vb_lt (t.drop (t.length - 8))
    rw [hl, show (256 : Nat) ^ 8 = 18446744073709551616 by decide] at hlt
    rw [e, vb_append, hl, show (256 : Nat) ^ 8 = 18446744073709551616 by decide]
    omega
  · have e : t.length - 8 = 0 := by omega
    rw [e, List.drop_zero]
    have hlt := vb_lt t
    have : 256 ^ t.length ≤ 256 ^ 8 := Nat.pow_le_pow_right (by omega) (by omega)
    rw [show (256 : Nat) ^ 8 = 18446744073709551616 by decide] at this
    omega

theorem pow28 (d : Nat) : (2 : Nat) ^ (8 * d) = 256 ^ d := by rw [Nat.pow_mul]

/-- A byte laid below what is there already. -/
theorem or_place (Y c d : Nat) (hc : c < 256) (hd : d < 8) (hY : Y * 256 ^ (d + 1) < 18446744073709551616) :
    bits .or .u64 ((Y * 256 ^ (d + 1) : Nat) : Int) (IntKind.u64.wrap ((c : Int) * 2 ^ (8 * d))) = (((Y * 256 + c) * 256 ^ d : Nat) : Int) := by
  have hp : 256 ^ (d + 1) ≤ 256 ^ 8 := Nat.pow_le_pow_right (by omega) (by omega)
  rw [show (256 : Nat) ^ 8 = 18446744073709551616 by decide] at hp
  have hcd : c * 256 ^ d < 256 ^ (d + 1) := by
    rw [Nat.pow_succ, Nat.mul_comm c]
    exact Nat.mul_lt_mul_of_pos_left hc (Nat.pow_pos (by omega))
  have e1 : (c : Int) * 2 ^ (8 * d) = ((c * 256 ^ d : Nat) : Int) := by
    rw [Int.natCast_mul, ← pow28]; simp
  rw [e1, wrap_u64, Int.emod_eq_of_lt (by omega) (by omega), u64_or _ _ (by omega) (by omega) (by omega) (by omega), Int.toNat_natCast, Int.toNat_natCast]
  have h := Nat.shiftLeft_add_eq_or_of_lt (i := 8 * (d + 1)) (b := c * 256 ^ d) (by rw [pow28]; exact hcd) Y
  rw [Nat.shiftLeft_eq, pow28] at h
  rw [← h, Nat.pow_succ, Nat.add_mul, Nat.mul_assoc, Nat.mul_comm 256]

set_option maxHeartbeats 1600000 in
set_option maxRecDepth 100000 in
theorem last8_any (x : Value) (t : List UInt8) (w : World) (hx : Rd w.heap.size w x t) (ht : t.length ≤ 10000000) :
    Calls Tryd.prog 22 #[x] w fun e w' => e = .returned (.int .u64 (l8 t : Int)) ∧ w' = w := by
  obtain ⟨a, b, o, cap, rfl, h1, h2⟩ := hx
  obtain ⟨n, hn⟩ : ∃ n, n = t.length := ⟨_, rfl⟩
  rw [← hn] at ht ⊢
  have HN := Lib.hid hn
  clear hn
  obtain ⟨s, hs⟩ : ∃ s, s = n - 8 := ⟨_, rfl⟩
  have hvb : l8 t = vb (t.drop s) := by rw [hs, HN.out]; exact l8_vb t
  obtain ⟨R, hR⟩ : ∃ R : Int, R = (l8 t : Int) := ⟨_, rfl⟩
  rw [hvb] at hR
  rw [hvb, ← hR]
  have HR := Lib.hid hR
  clear hvb hR
  by_cases h8 : 8 < n
  · have hsi : (n : Int) - 8 = (s : Int) := by omega
    have hs8 : n ≤ s + 8 := by omega
    have hsn : s ≤ n := by omega
    clear hs
    go_enter Tryd.func22, Tryd.ntmps22
    go_wp2
    go_loop [4, 5] (fun x k => ∃ (j : Nat) (X : Int), j ≤ n ∧ s ≤ j ∧ k = .int .i64 (j : Int) ∧ x = .int .u64 X ∧ Hid (X = ((vb ((t.drop s).take (j - s)) * 256 ^ (n - j) : Nat) : Int))) (fun _ k => n - (intOf k).toNat)
    case atStart => exact ⟨s, 0, hsn, Nat.le_refl _, rfl, rfl, by show _ = _; simp [vb]⟩
    case round =>
      obtain ⟨j, X, hj, hsj, rfl, rfl, hX⟩ := hrel
      by_cases hlt : j < n
      · have hjl : j < t.length := by rw [← HN.out]; exact hlt
        have ha := (h1 (by omega)).1
        cases ha
        have hcell := h2 j hjl
        obtain ⟨C, hC⟩ : ∃ C : Int, C = (t[j].toNat : Int) := ⟨_, rfl⟩
        have hc256 := t[j].toNat_lt
        rw [← hC] at hcell
        have hC0 : 0 ≤ C := by omega
        have hC1 : C < 256 := by omega
        have hd8 : (n : Int) - 1 - (j : Int) < 8 := by omega
        have hd0 : 0 ≤ (n : Int) - 1 - (j : Int) := by omega
        have hseg : (t.drop s).take (j + 1 - s) = (t.drop s).take (j - s) ++ [t[j]] := by
          rw [show j + 1 - s = (j - s) + 1 by omega, List.take_succ_eq_append_getElem (by rw [List.length_drop]; omega)]
          first
            | (congr 2; done)
            | (congr 2; rw [List.getElem_drop]; congr 1; omega)
        have hYl : vb ((t.drop s).take (j - s)) < 256 ^ (j - s) := by
          have h := vb_lt ((t.drop s).take (j - s))
          rwa [List.length_take, List.length_drop, Nat.min_eq_left (by omega)] at h
        have hYm : vb ((t.drop s).take (j - s)) * 256 ^ (n - 1 - j + 1) < 18446744073709551616 := by
          have h3 : vb ((t.drop s).take (j - s)) * 256 ^ (n - 1 - j + 1) < 256 ^ (j - s) * 256 ^ (n - 1 - j + 1) := Nat.mul_lt_mul_of_pos_right hYl (Nat.pow_pos (by omega))
          rw [← Nat.pow_add] at h3
          have h4 : 256 ^ (j - s + (n - 1 - j + 1)) ≤ 256 ^ 8 := Nat.pow_le_pow_right (by omega) (by omega)
          rw [show (256 : Nat) ^ 8 = 18446744073709551616 by decide] at h4
          omega
        have hor := or_place (vb ((t.drop s).take (j - s))) t[j].toNat (n - 1 - j) hc256 (by omega) hYm
        rw [show n - 1 - j + 1 = n - j by omega, ← hX.out, ← hC] at hor
        have hY : ((vb ((t.drop s).take (j - s)) * 256 + t[j].toNat) * 256 ^ (n - 1 - j) : Nat) = vb ((t.drop s).take (j + 1 - s)) * 256 ^ (n - (j + 1)) := by
          rw [hseg, vb_snoc, show n - (j + 1) = n - 1 - j by omega]
        rw [hY] at hor
        obtain ⟨Z, hZ⟩ : ∃ Z : Int, Z = ((vb ((t.drop s).take (j + 1 - s)) * 256 ^ (n - (j + 1)) : Nat) : Int) := ⟨_, rfl⟩
        rw [← hZ] at hor
        have HZ := Lib.hid hZ
        clear h1 h2 hC hc256 hZ hY hYm hYl hseg hX
        go_wp2
        go_round
        case rel => exact ⟨j + 1, Z, by omega, by omega, by go_num, rfl, HZ.out⟩
        case measure => simp [intOf]; omega
      · obtain rfl : j = n := by omega
        have hXR : R = X := by
          rw [HR.out, hX.out, Nat.sub_self, List.take_of_length_le (by rw [List.length_drop, ← HN.out]; omega)]
          simp
        subst hXR
        clear hX h1 h2
        go_wp2
        go_ret
        exact ⟨rfl, rfl⟩
  · obtain rfl : s = 0 := by omega
    have hs8 : n ≤ 0 + 8 := by omega
    have hsn : 0 ≤ n := by omega
    clear hs
    go_enter Tryd.func22, Tryd.ntmps22
    go_wp2
    go_loop [4, 5] (fun x k => ∃ (j : Nat) (X : Int), j ≤ n ∧ 0 ≤ j ∧ k = .int .i64 (j : Int) ∧ x = .int .u64 X ∧ Hid (X = ((vb ((t.drop 0).take (j - 0)) * 256 ^ (n - j) : Nat) : Int))) (fun _ k => n - (intOf k).toNat)
    case atStart => exact ⟨0, 0, hsn, Nat.le_refl _, rfl, rfl, by show _ = _; simp [vb]⟩
    case round =>
      obtain ⟨j, X, hj, hsj, rfl, rfl, hX⟩ := hrel
      by_cases hlt : j < n
      · have hjl : j < t.length := by rw [← HN.out]; exact hlt
        have ha := (h1 (by omega)).1
        cases ha
        have hcell := h2 j hjl
        obtain ⟨C, hC⟩ : ∃ C : Int, C = (t[j].toNat : Int) := ⟨_, rfl⟩
        have hc256 := t[j].toNat_lt
        rw [← hC] at hcell
        have hC0 : 0 ≤ C := by omega
        have hC1 : C < 256 := by omega
        have hd8 : (n : Int) - 1 - (j : Int) < 8 := by omega
        have hd0 : 0 ≤ (n : Int) - 1 - (j : Int) := by omega
        have hseg : (t.drop 0).take (j + 1 - 0) = (t.drop 0).take (j - 0) ++ [t[j]] := by
          rw [show j + 1 - 0 = (j - 0) + 1 by omega, List.take_succ_eq_append_getElem (by rw [List.length_drop]; omega)]
          first
            | (congr 2; done)
            | (congr 2; rw [List.getElem_drop]; congr 1; omega)
        have hYl : vb ((t.drop 0).take (j - 0)) < 256 ^ (j - 0) := by
          have h := vb_lt ((t.drop 0).take (j - 0))
          rwa [List.length_take, List.length_drop, Nat.min_eq_left (by omega)] at h
        have hYm : vb ((t.drop 0).take (j - 0)) * 256 ^ (n - 1 - j + 1) < 18446744073709551616 := by
          have h3 : vb ((t.drop 0).take (j - 0)) * 256 ^ (n - 1 - j + 1) < 256 ^ (j - 0) * 256 ^ (n - 1 - j + 1) := Nat.mul_lt_mul_of_pos_right hYl (Nat.pow_pos (by omega))
          rw [← Nat.pow_add] at h3
          have h4 : 256 ^ (j - 0 + (n - 1 - j + 1)) ≤ 256 ^ 8 := Nat.pow_le_pow_right (by omega) (by omega)
          rw [show (256 : Nat) ^ 8 = 18446744073709551616 by decide] at h4
          omega
        have hor := or_place (vb ((t.drop 0).take (j - 0))) t[j].toNat (n - 1 - j) hc256 (by omega) hYm
        rw [show n - 1 - j + 1 = n - j by omega, ← hX.out, ← hC] at hor
        have hY : ((vb ((t.drop 0).take (j - 0)) * 256 + t[j].toNat) * 256 ^ (n - 1 - j) : Nat) = vb ((t.drop 0).take (j + 1 - 0)) * 256 ^ (n - (j + 1)) := by
          rw [hseg, vb_snoc, show n - (j + 1) = n - 1 - j by omega]
        rw [hY] at hor
        obtain ⟨Z, hZ⟩ : ∃ Z : Int, Z = ((vb ((t.drop 0).take (j + 1 - 0)) * 256 ^ (n - (j + 1)) : Nat) : Int) := ⟨_, rfl⟩
        rw [← hZ] at hor
        have HZ := Lib.hid hZ
        clear h1 h2 hC hc256 hZ hY hYm hYl hseg hX
        go_wp2
        go_round
        case rel => exact ⟨j + 1, Z, by omega, by omega, by go_num, rfl, HZ.out⟩
        case measure => simp [intOf]; omega
      · obtain rfl : j = n := by omega
        have hXR : R = X := by
          rw [HR.out, hX.out, Nat.sub_self, List.take_of_length_le (by rw [List.length_drop, ← HN.out]; omega)]
          simp
        subst hXR
        clear hX h1 h2
        go_wp2
        go_ret
        exact ⟨rfl, rfl⟩
end Go.Proofs.Qxb6604517aDoor
