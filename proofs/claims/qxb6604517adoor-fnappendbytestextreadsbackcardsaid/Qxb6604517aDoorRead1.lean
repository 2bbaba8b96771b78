import Derived.Test.Qxb6604517aDoorHex
import Derived.Test.Qxb6604517aDoorDecimal
namespace Go.Proofs.Qxb6604517aDoor
open Go.RowKit

/-- Cells of a row that read as the bytes l. -/
def At (w : World) (b o : Nat) (l : List UInt8) : Prop := ∀ j (hj : j < l.length), w.cell? ⟨b, o + j, none⟩ = some (.int .u8 (l[j].toNat : Int))

theorem At.left {w : World} {b o : Nat} {l l' : List UInt8} (h : At w b o (l ++ l')) : At w b o l := fun j hj => by
  have := h j (by simp; omega)
  rwa [List.getElem_append_left hj] at this
theorem At.right {w : World} {b o : Nat} {l l' : List UInt8} (h : At w b o (l ++ l')) : At w b (o + l.length) l' := fun j hj => by
  have := h (l.length + j) (by simp; omega)
  rw [List.getElem_append_right (by omega)] at this
  simpa [Nat.add_assoc] using this

/-- What a row of digits, read from the left, gives at its place k. -/
theorem take_step (D : List UInt8) (hr : ∀ c ∈ D, 48 ≤ c.toNat ∧ c.toNat ≤ 57) (k : Nat) (hk : k < D.length) :
    (48 ≤ D[k].toNat ∧ D[k].toNat ≤ 57) ∧ dval (D.take (k + 1)) = dval (D.take k) * 10 + (D[k].toNat - 48) ∧ dval (D.take (k + 1)) ≤ dval D := by
  refine ⟨hr _ (List.getElem_mem hk), ?_, dval_take_le _ _⟩
  rw [List.take_succ_eq_append_getElem hk, dval_snoc]

set_option maxHeartbeats 400000 in
theorem hexval_any (x : Nat) (hx : x < 16) (w : World) :
    Calls Tryd.prog 25 #[.int .u8 ((hexd x).toNat : Int)] w fun e w' => e = .returned (.tuple #[.int .u8 (x : Int), .bool true]) ∧ w' = w := by
  have hh := hexd_toNat x hx
  by_cases h : x < 10
  · rw [if_pos h] at hh
    obtain ⟨C, hC⟩ : ∃ C : Int, C = ((hexd x).toNat : Int) := ⟨_, rfl⟩
    rw [← hC]
    have e1 : C - 48 = (x : Int) := by omega
    have b1 : 48 ≤ C := by omega
    have b2 : C ≤ 57 := by omega
    clear hC hh
    go_enter Tryd.func25, Tryd.ntmps25
    go_wp2
    exact bodyPost_ret (v := .tuple #[.int .u8 (x : Int), .bool true]) (by simp [results, Tryd.results25, go_sem]) rfl ⟨rfl, rfl⟩
  · rw [if_neg h] at hh
    obtain ⟨C, hC⟩ : ∃ C : Int, C = ((hexd x).toNat : Int) := ⟨_, rfl⟩
    rw [← hC]
    have e1 : C - 97 + 10 = (x : Int) := by omega
    have b1 : 97 ≤ C := by omega
    have b2 : C ≤ 102 := by omega
    clear hC hh
    go_enter Tryd.func25, Tryd.ntmps25
    go_wp2
    exact bodyPost_ret (v := .tuple #[.int .u8 (x : Int), .bool true]) (by simp [results, Tryd.results25, go_sem]) rfl ⟨rfl, rfl⟩

set_option maxHeartbeats 1600000 in
set_option maxRecDepth 100000 in
theorem pdec_any (w : World) (b o cap u : Nat) (hu : u < 18446744073709551616) (hA : At w b o (Lib.decDigits u)) :
    Calls Tryd.prog 15 #[.slice (some ⟨b, o, none⟩) (Lib.decDigits u).length cap] w fun e w' => e = .returned (.tuple #[.int .u64 (u : Int), .bool true]) ∧ w' = w := by
  obtain ⟨D, hD⟩ : ∃ D, D = Lib.decDigits u := ⟨_, rfl⟩
  have hlu := decDigits_len20 u hu
  have hrg := decDigits_range u
  have hdv := dval_decDigits u
  have hhd : D.length = 1 ∨ ∃ (h : 0 < D.length), 49 ≤ D[0].toNat := by
    rcases Nat.eq_zero_or_pos u with h | h
    · left; rw [hD, h, Lib.decDigits_one (by omega)]; rfl
    · obtain ⟨c, t, e, hc⟩ := decDigits_head u h
      right; rw [hD]; refine ⟨by omega, ?_⟩; simp [e, hc]
  rw [← hD] at hlu hrg hdv hA ⊢
  obtain ⟨n, hn⟩ : ∃ n, n = D.length := ⟨_, rfl⟩
  rw [← hn] at hlu ⊢
  have HN := Lib.hid hn
  have HA := Lib.hid hA
  have HRG := Lib.hid hrg
  have HDV := Lib.hid hdv
  have HU := Lib.hid hu
  obtain ⟨UI, hUI⟩ : ∃ U : Int, U = (u : Int) := ⟨_, rfl⟩
  have HUI := Lib.hid hUI
  rw [← hUI]
  have h0D : 0 < D.length := by omega
  have hcell0 : w.cell? ⟨b, o, none⟩ = some (.int .u8 (D[0].toNat : Int)) := by have := hA 0 h0D; simpa using this
  obtain ⟨X0, hX0⟩ : ∃ X : Int, X = (D[0].toNat : Int) := ⟨_, rfl⟩
  rw [← hX0] at hcell0
  have hX0r : 48 ≤ X0 ∧ X0 ≤ 57 := by have := hrg _ (List.getElem_mem h0D); omega
  have hhd' : X0 = 48 → n ≤ 1 := by
    intro h48
    rcases hhd with h | ⟨_, h⟩
    · omega
    · omega
  clear hA hrg hdv hu hUI hD hn hX0 hhd h0D
  have hn1 : 1 ≤ (n : Int) := by omega
  have hn20 : (n : Int) ≤ 20 := by omega
  have hn0 : ((n : Int) == 0) = false := beq_eq_false_iff_ne.2 (by omega)
  have key : ∀ (hc : X0 ≠ 48 ∨ (X0 = 48 ∧ (n : Int) ≤ 1)), Calls Tryd.prog 15 #[.slice (some ⟨b, o, none⟩) n cap] w fun e w' => e = .returned (.tuple #[.int .u64 UI, .bool true]) ∧ w' = w := by
    intro hc
    clear hhd'
    rcases hc with hc | ⟨rfl, hc⟩
    · go_enter Tryd.func15, Tryd.ntmps15
      go_wp2
      go_loop [4, 5, 6, 7] (fun x i _c _d => ∃ (k : Nat) (X : Int), k ≤ n ∧ i = .int .i64 (k : Int) ∧ x = .int .u64 X ∧ 0 ≤ X ∧ Hid (X = (dval (D.take k) : Int))) (fun _ i _ _ => n - (intOf i).toNat)
      case atStart => exact ⟨0, 0, Nat.zero_le _, rfl, rfl, by omega, by show _ = _; simp [dval]⟩
      case round =>
        obtain ⟨k, X, hk, rfl, rfl, hX0', hX⟩ := hrel
        by_cases hlt : k < n
        · have hkl : k < D.length := by rw [← HN.out]; exact hlt
          have hcell := HA.out k hkl
          obtain ⟨hr, hst, hle⟩ := take_step D HRG.out k hkl
          rw [HDV.out] at hle
          obtain ⟨Y, hY⟩ : ∃ Y : Int, Y = (D[k].toNat : Int) := ⟨_, rfl⟩
          have hYr : 48 ≤ Y ∧ Y ≤ 57 := by omega
          rw [← hY] at hcell
          have hXY : X * 10 + (Y - 48) = (dval (D.take (k + 1)) : Int) := by rw [hX.out, hst]; omega
          have hXb : X * 10 + (Y - 48) ≤ 18446744073709551615 := by rw [hXY]; have := HU.out; omega
          have hXd : X ≤ (18446744073709551615 - (Y - 48)) / 10 := by omega
          have hX4 : X ≤ 1844674407370955161 := by omega
          have HXY := Lib.hid hXY
          clear hX hst hle hr hY hXY hkl
          go_wp2
          go_round
          case rel => exact ⟨k + 1, X * 10 + (Y - 48), by omega, by go_num, by go_num, by omega, HXY.out⟩
          case measure => simp [intOf]; omega
        · obtain rfl : k = n := by omega
          have hXU : UI = X := by
            rw [hX.out, HUI.out, List.take_of_length_le (Nat.le_of_eq HN.out.symm), HDV.out]
          subst hXU
          clear hX hlt hX0'
          go_wp2
          exact bodyPost_ret (v := .tuple #[.int .u64 UI, .bool true]) (by simp [results, Tryd.results15, go_sem]) rfl ⟨rfl, rfl⟩
    · go_enter Tryd.func15, Tryd.ntmps15
      go_wp2
      go_loop [4, 5, 6, 7] (fun x i _c _d => ∃ (k : Nat) (X : Int), k ≤ n ∧ i = .int .i64 (k : Int) ∧ x = .int .u64 X ∧ 0 ≤ X ∧ Hid (X = (dval (D.take k) : Int))) (fun _ i _ _ => n - (intOf i).toNat)
      case atStart => exact ⟨0, 0, Nat.zero_le _, rfl, rfl, by omega, by show _ = _; simp [dval]⟩
      case round =>
        obtain ⟨k, X, hk, rfl, rfl, hX0', hX⟩ := hrel
        by_cases hlt : k < n
        · have hkl : k < D.length := by rw [← HN.out]; exact hlt
          have hcell := HA.out k hkl
          obtain ⟨hr, hst, hle⟩ := take_step D HRG.out k hkl
          rw [HDV.out] at hle
          obtain ⟨Y, hY⟩ : ∃ Y : Int, Y = (D[k].toNat : Int) := ⟨_, rfl⟩
          have hYr : 48 ≤ Y ∧ Y ≤ 57 := by omega
          rw [← hY] at hcell
          have hXY : X * 10 + (Y - 48) = (dval (D.take (k + 1)) : Int) := by rw [hX.out, hst]; omega
          have hXb : X * 10 + (Y - 48) ≤ 18446744073709551615 := by rw [hXY]; have := HU.out; omega
          have hXd : X ≤ (18446744073709551615 - (Y - 48)) / 10 := by omega
          have hX4 : X ≤ 1844674407370955161 := by omega
          have HXY := Lib.hid hXY
          clear hX hst hle hr hY hXY hkl
          go_wp2
          go_round
          case rel => exact ⟨k + 1, X * 10 + (Y - 48), by omega, by go_num, by go_num, by omega, HXY.out⟩
          case measure => simp [intOf]; omega
        · obtain rfl : k = n := by omega
          have hXU : UI = X := by
            rw [hX.out, HUI.out, List.take_of_length_le (Nat.le_of_eq HN.out.symm), HDV.out]
          subst hXU
          clear hX hlt hX0'
          go_wp2
          exact bodyPost_ret (v := .tuple #[.int .u64 UI, .bool true]) (by simp [results, Tryd.results15, go_sem]) rfl ⟨rfl, rfl⟩
  by_cases h48 : X0 = 48
  · exact key (Or.inr ⟨h48, by have := hhd' h48; omega⟩)
  · exact key (Or.inl h48)

set_option maxHeartbeats 400000 in
/-- hasDot, where there is none. -/
theorem nodot_any (w : World) (b o cap : Nat) (l : List UInt8) (hl : l.length ≤ 1000) (hA : At w b o l) (h : ∀ c ∈ l, c ≠ 46) :
    Calls Tryd.prog 31 #[.slice (some ⟨b, o, none⟩) l.length cap] w fun e w' => e = .returned (.bool false) ∧ w' = w := by
  obtain ⟨n, hn⟩ : ∃ n, n = l.length := ⟨_, rfl⟩
  rw [← hn] at hl ⊢
  have HN := Lib.hid hn
  have HA := Lib.hid hA
  have HD := Lib.hid h
  clear hn hA h
  go_enter Tryd.func31, Tryd.ntmps31
  go_wp2
  go_loop [3] (fun i => ∃ k : Nat, k ≤ n ∧ i = .int .i64 k) (fun i => n - (intOf i).toNat)
  case atStart => exact ⟨0, Nat.zero_le _, rfl⟩
  case round =>
    obtain ⟨k, hk, rfl⟩ := hrel
    by_cases hlt : k < n
    · have hkl : k < l.length := by rw [← HN.out]; exact hlt
      have hc := HA.out k hkl
      have hne := HD.out _ (List.getElem_mem hkl)
      obtain ⟨C, hC⟩ : ∃ C : Int, C = (l[k].toNat : Int) := ⟨_, rfl⟩
      have hC46 : C ≠ 46 := by
        intro e
        apply hne
        apply UInt8.toNat_inj.1
        show l[k].toNat = 46
        omega
      rw [← hC] at hc
      clear hC hne
      go_wp2
      go_round
      case rel => exact ⟨k + 1, by omega, by go_num⟩
      case measure => simp [intOf]; omega
    · go_wp2
      go_ret
      exact ⟨rfl, rfl⟩

set_option maxHeartbeats 400000 in
/-- hasDot, where there is one. -/
theorem dot_any (w : World) (b o cap : Nat) (l : List UInt8) (hl : l.length ≤ 1000) (hA : At w b o l) (h : 46 ∈ l) :
    Calls Tryd.prog 31 #[.slice (some ⟨b, o, none⟩) l.length cap] w fun e w' => e = .returned (.bool true) ∧ w' = w := by
  obtain ⟨n, hn⟩ : ∃ n, n = l.length := ⟨_, rfl⟩
  rw [← hn] at hl ⊢
  have HN := Lib.hid hn
  have HA := Lib.hid hA
  have HD := Lib.hid h
  clear hn hA h
  go_enter Tryd.func31, Tryd.ntmps31
  go_wp2
  go_loop [3] (fun i => ∃ k : Nat, k ≤ n ∧ i = .int .i64 k ∧ Hid (46 ∈ l.drop k)) (fun i => n - (intOf i).toNat)
  case atStart => exact ⟨0, Nat.zero_le _, rfl, by show _ ∈ _; simpa using HD.out⟩
  case round =>
    obtain ⟨k, hk, rfl, hm⟩ := hrel
    have hkl : k < l.length := by
      false_or_by_contra
      have := hm.out
      rw [List.drop_of_length_le (by omega)] at this
      simp at this
    have hlt : k < n := by rw [HN.out]; exact hkl
    have hc := HA.out k hkl
    by_cases hz : l[k] = 46
    · rw [hz] at hc
      have hc' : w.cell? ⟨b, o + k, none⟩ = some (.int .u8 46) := hc
      clear hc hz
      go_wp2
      go_ret
      exact ⟨rfl, rfl⟩
    · obtain ⟨C, hC⟩ : ∃ C : Int, C = (l[k].toNat : Int) := ⟨_, rfl⟩
      have hC46 : C ≠ 46 := by
        intro e
        apply hz
        apply UInt8.toNat_inj.1
        show l[k].toNat = 46
        omega
      rw [← hC] at hc
      have hm' : 46 ∈ l.drop (k + 1) := by
        have := hm.out
        rw [List.drop_eq_getElem_cons hkl, List.mem_cons] at this
        rcases this with h | h
        · exact absurd h.symm hz
        · exact h
      have HM' := Lib.hid hm'
      clear hC hz hm hm'
      go_wp2
      go_round
      case rel => exact ⟨k + 1, by omega, by go_num, HM'.out⟩
      case measure => simp [intOf]; omega
end Go.Proofs.Qxb6604517aDoor
