import Derived.Test.Qxb6602894aDoorLaw3
namespace Go.Proofs.Qxb6602894aDoor
open Go.RowKit

/-- What the parser meets: cells of a row that read as the bytes l. -/
def At (w : World) (b o : Nat) (l : List UInt8) : Prop := ∀ j (hj : j < l.length), w.cell? ⟨b, o + j, none⟩ = some (.int .u8 (l[j].toNat : Int))

theorem At.left {w : World} {b o : Nat} {l l' : List UInt8} (h : At w b o (l ++ l')) : At w b o l := fun j hj => by
  have := h j (by simp; omega)
  rwa [List.getElem_append_left hj] at this

theorem At.right {w : World} {b o : Nat} {l l' : List UInt8} (h : At w b o (l ++ l')) : At w b (o + l.length) l' := fun j hj => by
  have := h (l.length + j) (by simp; omega)
  rw [List.getElem_append_right (by omega)] at this
  simpa [Nat.add_assoc] using this

theorem cut_form (p f : Nat) (h0 : f ≠ 0) (h : f < 10 ^ p) : ∃ e a, e + 1 ≤ p ∧ a % 10 ≠ 0 ∧ a < 10 ^ (e + 1) ∧ f = a * 10 ^ (p - (e + 1)) ∧ cut p f = pad (e + 1) a := by
  induction p generalizing f with
  | zero => simp at h; omega
  | succ p ih =>
    by_cases hz : f % 10 = 0
    · obtain ⟨e, a, h1, h2, h3, h4, h5⟩ := ih (f / 10) (by omega) (by rw [Nat.pow_succ] at h; omega)
      refine ⟨e, a, by omega, h2, h3, ?_, by rw [cut, if_pos hz, h5]⟩
      rw [show p + 1 - (e + 1) = (p - (e + 1)) + 1 from by omega, Nat.pow_succ, ← Nat.mul_assoc, ← h4]
      omega
    · exact ⟨p, f, by omega, hz, h, by simp, by rw [cut, if_neg hz]⟩

theorem pad_range (k a : Nat) : ∀ c ∈ pad k a, 48 ≤ c.toNat ∧ c.toNat ≤ 57 := by
  induction k generalizing a with
  | zero => intro c hc; simp [pad] at hc
  | succ k ih =>
    intro c hc
    rw [pad, List.mem_append, List.mem_singleton] at hc
    rcases hc with hc | hc
    · exact ih _ c hc
    · subst hc; rw [digit_toNat _ (by omega)]; omega

theorem dval_pad (k a : Nat) (h : a < 10 ^ k) : dval (pad k a) = a := by
  induction k generalizing a with
  | zero => simp at h; subst h; rfl
  | succ k ih => rw [pad, dval_snoc, ih (a / 10) (by rw [Nat.pow_succ] at h; omega), digit_toNat _ (by omega)]; omega

/-- What a row of digits, read from the left, gives at its place k. -/
theorem take_step (D : List UInt8) (hr : ∀ c ∈ D, 48 ≤ c.toNat ∧ c.toNat ≤ 57) (k : Nat) (hk : k < D.length) :
    (48 ≤ D[k].toNat ∧ D[k].toNat ≤ 57) ∧ dval (D.take (k + 1)) = dval (D.take k) * 10 + (D[k].toNat - 48) ∧ dval (D.take (k + 1)) ≤ dval D := by
  refine ⟨hr _ (List.getElem_mem hk), ?_, dval_take_le _ _⟩
  rw [List.take_succ_eq_append_getElem hk, dval_snoc]

set_option maxHeartbeats 3200000 in
set_option maxRecDepth 100000 in
theorem parse_pos (w : World) (b o cap : Nat) (u f p : Nat) (hu : u < 18446744073709551616) (hp8 : p ≤ 8) (hf : f < 10 ^ p) (hA : At w b o (fixedText false u f p)) :
    Calls Tryd.prog 13 #[.slice (some ⟨b, o, none⟩) (fixedText false u f p).length cap, .int .i64 (p : Int)] w fun e w' => e = .returned (.tuple #[.bool false, .int .u64 (u : Int), .int .u64 (f : Int), .bool true]) ∧ w' = w := by
  obtain ⟨D, hD⟩ : ∃ D, D = Lib.decDigits u := ⟨_, rfl⟩
  have hlu := decDigits_len20 u hu
  have hrg := decDigits_range u
  have hdv := dval_decDigits u
  have hhd : D.length = 1 ∨ ∃ (h : 0 < D.length), 49 ≤ D[0].toNat := by
    rcases Nat.eq_zero_or_pos u with h | h
    · left; rw [hD, h, Lib.decDigits_one (by omega)]; rfl
    · obtain ⟨c, t, e, hc⟩ := decDigits_head u h
      right; rw [hD]; refine ⟨by omega, ?_⟩; simp [e, hc]
  unfold fixedText at hA ⊢
  rw [← hD] at hlu hrg hdv hA ⊢
  obtain ⟨TL, hTL⟩ : ∃ TL : List UInt8, TL = if f = 0 then [] else 46 :: cut p f := ⟨_, rfl⟩
  rw [← hTL] at hA ⊢
  have hA1 : At w b o (if false = true then [45] else []) := hA.left
  have hA2 : At w b (o + 0) D := hA.right.left
  have hA3 : At w b (o + 0 + D.length) TL := hA.right.right
  obtain ⟨m, hm⟩ : ∃ m, m = ((if false = true then [45] else []) ++ (D ++ TL)).length := ⟨_, rfl⟩
  rw [← hm]
  have hm2 : m = 0 + D.length + TL.length := by rw [hm]; simp <;> omega
  obtain ⟨nD, hnD⟩ : ∃ n, n = D.length := ⟨_, rfl⟩
  rw [← hnD] at hlu hm2 hA3
  have HND := Lib.hid hnD
  have hcD : ∀ k (hk : k < D.length), w.cell? ⟨b, o + (0 + k), none⟩ = some (.int .u8 (D[k].toNat : Int)) := fun k hk => by
    rw [← Nat.add_assoc]; exact hA2 k hk
  have HCD := Lib.hid hcD
  have HRG := Lib.hid hrg
  have HDV := Lib.hid hdv
  have HU := Lib.hid hu
  obtain ⟨UI, hUI⟩ : ∃ U : Int, U = (u : Int) := ⟨_, rfl⟩
  have HUI := Lib.hid hUI
  rw [← hUI]
  clear hA hm hcD hrg hdv hu hUI hA2 hD hnD
  have hm30 : m ≤ 30 := by
    rw [hm2, hTL]
    split
    · simp; omega
    · have := cut_len p f
      simp; omega
  have h0D : 0 < D.length := by rw [← HND.out]; omega
  have hcell0 : w.cell? ⟨b, o, none⟩ = some (.int .u8 (D[0].toNat : Int)) := by have := HCD.out 0 h0D; simpa using this
  obtain ⟨X0, hX0⟩ : ∃ X : Int, X = (D[0].toNat : Int) := ⟨_, rfl⟩
  rw [← hX0] at hcell0
  have hX045 : X0 ≠ 45 := by have := HRG.out _ (List.getElem_mem h0D); omega
  have hX0r : 48 ≤ X0 ∧ X0 ≤ 57 := by have := HRG.out _ (List.getElem_mem h0D); omega
  have hhd' : nD = 1 ∨ 49 ≤ X0 := by
    rcases hhd with h | ⟨_, h⟩
    · exact Or.inl (HND.out.trans h)
    · right; omega
  clear hX0 hhd h0D
  by_cases hf0 : f = 0
  · rw [if_pos hf0] at hTL
    subst hTL
    simp only [List.length_nil, Nat.add_zero] at hm2
    subst hf0
    have HM := Lib.hid hm2
    have hmS : (0 : Int) < (m : Int) := by omega
    clear hA3 hm2
    go_enter Tryd.func13, Tryd.ntmps13
    go_wp2
    go_loop [8, 11, 12] (fun i x _y => ∃ (k : Nat) (j : Nat) (X : Int), k ≤ nD ∧ Hid (j = 0 + k) ∧ i = .int .i64 (j : Int) ∧ x = .int .u64 X ∧ 0 ≤ X ∧ X ≤ 18446744073709551615 ∧ Hid (X = (dval (D.take k) : Int))) (fun i _ _ => m - (intOf i).toNat)
    case atStart => exact ⟨0, 0, 0, Nat.zero_le _, rfl, rfl, rfl, by omega, by omega, by show _ = _; simp [dval]⟩
    case round =>
      obtain ⟨k, j, X, hk, HJ, rfl, rfl, hX0', hX1', hX⟩ := hrel
      have hj := HJ.out
      have hm2 := HM.out
      by_cases hlt : k < nD
      · have hkl : k < D.length := by rw [← HND.out]; exact hlt
        have hcell : w.cell? ⟨b, o + j, none⟩ = some (.int .u8 (D[k].toNat : Int)) := by rw [hj]; exact HCD.out k hkl
        obtain ⟨hr, hst, hle⟩ := take_step D HRG.out k hkl
        rw [HDV.out] at hle
        obtain ⟨Y, hY⟩ : ∃ Y : Int, Y = (D[k].toNat : Int) := ⟨_, rfl⟩
        have hYr : 48 ≤ Y ∧ Y ≤ 57 := by omega
        rw [← hY] at hcell
        have hXY : X * 10 + (Y - 48) = (dval (D.take (k + 1)) : Int) := by rw [hX.out, hst]; omega
        have hXb : X * 10 + (Y - 48) ≤ 18446744073709551615 := by rw [hXY]; have := HU.out; omega
        have hXd : X ≤ (18446744073709551615 - (Y - 48)) / 10 := by omega
        have hX4 : X ≤ 1844674407370955161 := by omega
        have HXY := Lib.hid hXY
        have hjm : (j : Int) < (m : Int) := by omega
        clear hX hst hle hr hY hXY hX1' hkl hj hm2
        go_wp2
        go_round
        case rel => exact ⟨k + 1, j + 1, X * 10 + (Y - 48), by omega, by show _ = _; have := HJ.out; omega, by go_num, by go_num, by omega, by omega, HXY.out⟩
        case measure => have := HJ.out; have := HM.out; simp [intOf]; omega
      · obtain rfl : k = nD := by omega
        have hXU : UI = X := by
          rw [hX.out, HUI.out, List.take_of_length_le (Nat.le_of_eq HND.out.symm), HDV.out]
        subst hXU
        clear hX hlt hX0' hX1'
        obtain rfl : j = m := by omega
        have hjs : (j : Int) ≠ 0 := by omega
        by_cases hx : X0 = 48
        · have hj1 : (j : Int) - 0 ≤ 1 := by omega
          subst hx
          clear hhd' hj hm2
          go_wp2
          exact bodyPost_ret (v := .tuple #[.bool false, .int .u64 UI, .int .u64 0, .bool true]) (by simp [results, Tryd.results13, go_sem]) rfl ⟨rfl, rfl⟩
        · clear hhd' hj hm2
          go_wp2
          exact bodyPost_ret (v := .tuple #[.bool false, .int .u64 UI, .int .u64 0, .bool true]) (by simp [results, Tryd.results13, go_sem]) rfl ⟨rfl, rfl⟩
  · rw [if_neg hf0] at hTL
    obtain ⟨e, a, g1, g2, g3, g4, g5⟩ := cut_form p f hf0 hf
    obtain ⟨C, hC⟩ : ∃ C, C = pad (e + 1) a := ⟨_, rfl⟩
    rw [g5, ← hC] at hTL
    have hCl : e + 1 = C.length := by rw [hC, pad_len]
    have hCr := pad_range (e + 1) a
    have hCd := dval_pad (e + 1) a g3
    rw [← hC] at hCr hCd
    have hlast : ∀ (h : e < C.length), C[e].toNat ≠ 48 := by
      intro h
      have : C[e] = UInt8.ofNat (48 + a % 10) := by
        simp only [hC, pad]
        rw [List.getElem_append_right (by rw [pad_len]; omega)]
        simp [pad_len]
      rw [this, digit_toNat _ (by omega)]
      omega
    subst hTL
    have hcell46 : w.cell? ⟨b, o + (0 + nD), none⟩ = some (.int .u8 46) := by
      have := hA3 0 (by simp)
      simpa [Nat.add_assoc] using this
    have hcC : ∀ k (hk : k < C.length), w.cell? ⟨b, o + (0 + nD + 1 + k), none⟩ = some (.int .u8 (C[k].toNat : Int)) := by
      intro k hk
      have := hA3 (k + 1) (by simp; omega)
      simp only [List.getElem_cons_succ] at this
      rw [← this]
      congr 2; omega
    simp only [List.length_cons] at hm2
    rw [← hCl] at hm2
    have HM := Lib.hid hm2
    have hmS : (0 : Int) < (m : Int) := by omega
    have HCC := Lib.hid hcC
    have HCl := Lib.hid hCl
    have HCr := Lib.hid hCr
    have HCd := Lib.hid hCd
    have HLa := Lib.hid hlast
    have H4 := Lib.hid g4
    have ha8 : a < 100000000 := by
      have : 10 ^ (e + 1) ≤ 10 ^ 8 := Nat.pow_le_pow_right (by omega) (by omega)
      omega
    have hf8 : f < 100000000 := by
      have : 10 ^ p ≤ 10 ^ 8 := Nat.pow_le_pow_right (by omega) hp8
      omega
    have HA8 := Lib.hid ha8
    obtain ⟨FI, hFI⟩ : ∃ F : Int, F = (f : Int) := ⟨_, rfl⟩
    have HFI := Lib.hid hFI
    rw [← hFI]
    have hpw := fun W => pow_any (p - (e + 1)) (by omega) W
    have hpb := pow_bound (p - (e + 1)) (by omega)
    have hmul : (a : Int) * ((10 ^ (p - (e + 1)) : Nat) : Int) = FI := by rw [hFI, g4, Int.natCast_mul]
    have hsub : ((p - (e + 1) : Nat) : Int) = (p : Int) - ((e : Int) + 1) := by omega
    rw [hsub] at hpw
    obtain ⟨Q, hQ⟩ : ∃ Q : Int, Q = ((10 ^ (p - (e + 1)) : Nat) : Int) := ⟨_, rfl⟩
    rw [← hQ] at hpb hmul
    rw [← hQ] at hpw
    obtain ⟨AI, hAI⟩ : ∃ A : Int, A = (a : Int) := ⟨_, rfl⟩
    have HAI := Lib.hid hAI
    rw [← hAI] at hmul
    have hA0 : 0 ≤ AI := by omega
    have hA1' : AI < 100000000 := by omega
    have hF0 : 0 ≤ FI := by omega
    have hF1 : FI < 100000000 := by omega
    clear hm2 hA3 hcC hCl hCr hCd hlast g4 g5 hC hQ ha8 hf hFI hf8 hsub hAI g2 g3 hf0
    go_enter Tryd.func13, Tryd.ntmps13
    go_wp2
    go_loop [8, 11, 12] (fun i x _y => ∃ (k : Nat) (j : Nat) (X : Int), k ≤ nD ∧ Hid (j = 0 + k) ∧ i = .int .i64 (j : Int) ∧ x = .int .u64 X ∧ 0 ≤ X ∧ X ≤ 18446744073709551615 ∧ Hid (X = (dval (D.take k) : Int))) (fun i _ _ => m - (intOf i).toNat)
    case atStart => exact ⟨0, 0, 0, Nat.zero_le _, rfl, rfl, rfl, by omega, by omega, by show _ = _; simp [dval]⟩
    case round =>
      obtain ⟨k, j, X, hk, HJ, rfl, rfl, hX0', hX1', hX⟩ := hrel
      have hj := HJ.out
      have hm2 := HM.out
      by_cases hlt : k < nD
      · have hkl : k < D.length := by rw [← HND.out]; exact hlt
        have hcell : w.cell? ⟨b, o + j, none⟩ = some (.int .u8 (D[k].toNat : Int)) := by rw [hj]; exact HCD.out k hkl
        obtain ⟨hr, hst, hle⟩ := take_step D HRG.out k hkl
        rw [HDV.out] at hle
        obtain ⟨Y, hY⟩ : ∃ Y : Int, Y = (D[k].toNat : Int) := ⟨_, rfl⟩
        have hYr : 48 ≤ Y ∧ Y ≤ 57 := by omega
        rw [← hY] at hcell
        have hXY : X * 10 + (Y - 48) = (dval (D.take (k + 1)) : Int) := by rw [hX.out, hst]; omega
        have hXb : X * 10 + (Y - 48) ≤ 18446744073709551615 := by rw [hXY]; have := HU.out; omega
        have hXd : X ≤ (18446744073709551615 - (Y - 48)) / 10 := by omega
        have hX4 : X ≤ 1844674407370955161 := by omega
        have HXY := Lib.hid hXY
        have hjm : (j : Int) < (m : Int) := by omega
        clear hX hst hle hr hY hXY hX1' hkl hj hm2
        go_wp2
        go_round
        case rel => exact ⟨k + 1, j + 1, X * 10 + (Y - 48), by omega, by show _ = _; have := HJ.out; omega, by go_num, by go_num, by omega, by omega, HXY.out⟩
        case measure => have := HJ.out; have := HM.out; simp [intOf]; omega
      · obtain rfl : k = nD := by omega
        have hXU : UI = X := by
          rw [hX.out, HUI.out, List.take_of_length_le (Nat.le_of_eq HND.out.symm), HDV.out]
        subst hXU
        clear hX hlt hX0' hX1'
        have hjm : (j : Int) < (m : Int) := by omega
        have hjm' : (j : Int) ≠ (m : Int) := by omega
        rw [← hj] at hcell46 HCC
        have hjr : (j : Int) ≤ 21 := by omega
        have hjs : (j : Int) ≠ 0 := by omega
        have HMJ := Lib.hid (show m = j + (e + 1 + 1) by omega)
        by_cases hx : X0 = 48
        · have hj1 : (j : Int) - 0 ≤ 1 := by omega
          subst hx
          clear hhd' hj hm2
          go_wp2
          go_loop [8, 14] (fun i x => ∃ (q : Nat) (r : Nat) (X : Int), q ≤ e + 1 ∧ Hid (r = j + 1 + q) ∧ i = .int .i64 (r : Int) ∧ x = .int .u64 X ∧ 0 ≤ X ∧ X < 100000000 ∧ Hid (X = (dval (C.take q) : Int))) (fun i _ => m - (intOf i).toNat)
          case atStart => exact ⟨0, j + 1, 0, Nat.zero_le _, rfl, by go_num, rfl, by omega, by omega, by show _ = _; simp [dval]⟩
          case round =>
            obtain ⟨q, r, X, hq, HR0, rfl, rfl, hX0', hX1', hX⟩ := hrel
            have hr0 := HR0.out
            have hmj := HMJ.out
            by_cases hlt : q < e + 1
            · have hkl : q < C.length := by rw [← HCl.out]; exact hlt
              have hcell : w.cell? ⟨b, o + r, none⟩ = some (.int .u8 (C[q].toNat : Int)) := by rw [hr0]; exact HCC.out q hkl
              obtain ⟨hr, hst, hle⟩ := take_step C HCr.out q hkl
              rw [HCd.out] at hle
              obtain ⟨Y, hY⟩ : ∃ Y : Int, Y = (C[q].toNat : Int) := ⟨_, rfl⟩
              have hYr : 48 ≤ Y ∧ Y ≤ 57 := by omega
              rw [← hY] at hcell
              have hXY : X * 10 + (Y - 48) = (dval (C.take (q + 1)) : Int) := by rw [hX.out, hst]; omega
              have hXb : X * 10 + (Y - 48) < 100000000 := by rw [hXY]; have := HA8.out; omega
              have HXY := Lib.hid hXY
              have hrm : (r : Int) < (m : Int) := by omega
              have hrp : (r : Int) - ((j : Int) + 1) < (p : Int) := by omega
              clear hX hst hle hr hY hXY hkl hr0 hmj
              go_wp2
              go_round
              case rel => exact ⟨q + 1, r + 1, X * 10 + (Y - 48), by omega, by show _ = _; have := HR0.out; omega, by go_num, by go_num, by omega, by omega, HXY.out⟩
              case measure => have := HR0.out; have := HMJ.out; simp [intOf]; omega
            · obtain rfl : q = e + 1 := by omega
              have hXA : X = AI := by
                rw [hX.out, HAI.out, List.take_of_length_le (Nat.le_of_eq HCl.out.symm), HCd.out]
              subst hXA
              have hel : e < C.length := by rw [← HCl.out]; omega
              obtain ⟨Y, hY⟩ : ∃ Y : Int, Y = (C[e].toNat : Int) := ⟨_, rfl⟩
              have hYn : Y ≠ 48 := by have := HLa.out hel; omega
              have hcl : w.cell? ⟨b, o + (j + 1 + e), none⟩ = some (.int .u8 Y) := by rw [hY]; exact HCC.out e hel
              have hYr : 0 ≤ Y ∧ Y ≤ 255 := by have := C[e].toNat_lt; omega
              obtain rfl : r = m := by omega
              obtain ⟨z, hz⟩ : ∃ z, z = j + 1 + e := ⟨_, rfl⟩
              rw [← hz] at hcl
              have hrz : (r : Int) - 1 = (z : Int) := by omega
              have hzr : (z : Int) < (r : Int) := by omega
              have hke : (r : Int) - ((j : Int) + 1) = (e : Int) + 1 := by omega
              have hne : ((e : Int) + 1 == 0) = false := beq_eq_false_iff_ne.2 (by omega)
              have hY48 : (Y == 48) = false := beq_eq_false_iff_ne.2 hYn
              clear hX hY hel hlt hr0 hmj hz
              go_wp2_with (go_at_call 6; refine (hpw _).mono ?_; rintro e w' ⟨rfl, h⟩; replace h := h.symm; subst h)
              exact bodyPost_ret (v := .tuple #[.bool false, .int .u64 UI, .int .u64 FI, .bool true]) (by simp [results, Tryd.results13, go_sem]) rfl ⟨rfl, rfl⟩
        · clear hhd' hj hm2
          go_wp2
          go_loop [8, 14] (fun i x => ∃ (q : Nat) (r : Nat) (X : Int), q ≤ e + 1 ∧ Hid (r = j + 1 + q) ∧ i = .int .i64 (r : Int) ∧ x = .int .u64 X ∧ 0 ≤ X ∧ X < 100000000 ∧ Hid (X = (dval (C.take q) : Int))) (fun i _ => m - (intOf i).toNat)
          case atStart => exact ⟨0, j + 1, 0, Nat.zero_le _, rfl, by go_num, rfl, by omega, by omega, by show _ = _; simp [dval]⟩
          case round =>
            obtain ⟨q, r, X, hq, HR0, rfl, rfl, hX0', hX1', hX⟩ := hrel
            have hr0 := HR0.out
            have hmj := HMJ.out
            by_cases hlt : q < e + 1
            · have hkl : q < C.length := by rw [← HCl.out]; exact hlt
              have hcell : w.cell? ⟨b, o + r, none⟩ = some (.int .u8 (C[q].toNat : Int)) := by rw [hr0]; exact HCC.out q hkl
              obtain ⟨hr, hst, hle⟩ := take_step C HCr.out q hkl
              rw [HCd.out] at hle
              obtain ⟨Y, hY⟩ : ∃ Y : Int, Y = (C[q].toNat : Int) := ⟨_, rfl⟩
              have hYr : 48 ≤ Y ∧ Y ≤ 57 := by omega
              rw [← hY] at hcell
              have hXY : X * 10 + (Y - 48) = (dval (C.take (q + 1)) : Int) := by rw [hX.out, hst]; omega
              have hXb : X * 10 + (Y - 48) < 100000000 := by rw [hXY]; have := HA8.out; omega
              have HXY := Lib.hid hXY
              have hrm : (r : Int) < (m : Int) := by omega
              have hrp : (r : Int) - ((j : Int) + 1) < (p : Int) := by omega
              clear hX hst hle hr hY hXY hkl hr0 hmj
              go_wp2
              go_round
              case rel => exact ⟨q + 1, r + 1, X * 10 + (Y - 48), by omega, by show _ = _; have := HR0.out; omega, by go_num, by go_num, by omega, by omega, HXY.out⟩
              case measure => have := HR0.out; have := HMJ.out; simp [intOf]; omega
            · obtain rfl : q = e + 1 := by omega
              have hXA : X = AI := by
                rw [hX.out, HAI.out, List.take_of_length_le (Nat.le_of_eq HCl.out.symm), HCd.out]
              subst hXA
              have hel : e < C.length := by rw [← HCl.out]; omega
              obtain ⟨Y, hY⟩ : ∃ Y : Int, Y = (C[e].toNat : Int) := ⟨_, rfl⟩
              have hYn : Y ≠ 48 := by have := HLa.out hel; omega
              have hcl : w.cell? ⟨b, o + (j + 1 + e), none⟩ = some (.int .u8 Y) := by rw [hY]; exact HCC.out e hel
              have hYr : 0 ≤ Y ∧ Y ≤ 255 := by have := C[e].toNat_lt; omega
              obtain rfl : r = m := by omega
              obtain ⟨z, hz⟩ : ∃ z, z = j + 1 + e := ⟨_, rfl⟩
              rw [← hz] at hcl
              have hrz : (r : Int) - 1 = (z : Int) := by omega
              have hzr : (z : Int) < (r : Int) := by omega
              have hke : (r : Int) - ((j : Int) + 1) = (e : Int) + 1 := by omega
              have hne : ((e : Int) + 1 == 0) = false := beq_eq_false_iff_ne.2 (by omega)
              have hY48 : (Y == 48) = false := beq_eq_false_iff_ne.2 hYn
              clear hX hY hel hlt hr0 hmj hz
              go_wp2_with (go_at_call 6; refine (hpw _).mono ?_; rintro e w' ⟨rfl, h⟩; replace h := h.symm; subst h)
              exact bodyPost_ret (v := .tuple #[.bool false, .int .u64 UI, .int .u64 FI, .bool true]) (by simp [results, Tryd.results13, go_sem]) rfl ⟨rfl, rfl⟩

set_option maxHeartbeats 3200000 in
set_option maxRecDepth 100000 in
theorem parse_neg (w : World) (b o cap : Nat) (u f p : Nat) (hu : u < 18446744073709551616) (hp8 : p ≤ 8) (hf : f < 10 ^ p) (hA : At w b o (fixedText true u f p)) :
    Calls Tryd.prog 13 #[.slice (some ⟨b, o, none⟩) (fixedText true u f p).length cap, .int .i64 (p : Int)] w fun e w' => e = .returned (.tuple #[.bool true, .int .u64 (u : Int), .int .u64 (f : Int), .bool true]) ∧ w' = w := by
  obtain ⟨D, hD⟩ : ∃ D, D = Lib.decDigits u := ⟨_, rfl⟩
  have hlu := decDigits_len20 u hu
  have hrg := decDigits_range u
  have hdv := dval_decDigits u
  have hhd : D.length = 1 ∨ ∃ (h : 0 < D.length), 49 ≤ D[0].toNat := by
    rcases Nat.eq_zero_or_pos u with h | h
    · left; rw [hD, h, Lib.decDigits_one (by omega)]; rfl
    · obtain ⟨c, t, e, hc⟩ := decDigits_head u h
      right; rw [hD]; refine ⟨by omega, ?_⟩; simp [e, hc]
  unfold fixedText at hA ⊢
  rw [← hD] at hlu hrg hdv hA ⊢
  obtain ⟨TL, hTL⟩ : ∃ TL : List UInt8, TL = if f = 0 then [] else 46 :: cut p f := ⟨_, rfl⟩
  rw [← hTL] at hA ⊢
  have hA1 : At w b o (if true = true then [45] else []) := hA.left
  have hA2 : At w b (o + 1) D := hA.right.left
  have hA3 : At w b (o + 1 + D.length) TL := hA.right.right
  obtain ⟨m, hm⟩ : ∃ m, m = ((if true = true then [45] else []) ++ (D ++ TL)).length := ⟨_, rfl⟩
  rw [← hm]
  have hm2 : m = 1 + D.length + TL.length := by rw [hm]; simp <;> omega
  obtain ⟨nD, hnD⟩ : ∃ n, n = D.length := ⟨_, rfl⟩
  rw [← hnD] at hlu hm2 hA3
  have HND := Lib.hid hnD
  have hcD : ∀ k (hk : k < D.length), w.cell? ⟨b, o + (1 + k), none⟩ = some (.int .u8 (D[k].toNat : Int)) := fun k hk => by
    rw [← Nat.add_assoc]; exact hA2 k hk
  have HCD := Lib.hid hcD
  have HRG := Lib.hid hrg
  have HDV := Lib.hid hdv
  have HU := Lib.hid hu
  obtain ⟨UI, hUI⟩ : ∃ U : Int, U = (u : Int) := ⟨_, rfl⟩
  have HUI := Lib.hid hUI
  rw [← hUI]
  have hc45 : w.cell? ⟨b, o, none⟩ = some (.int .u8 45) := hA1 0 (by simp)
  clear hA hm hcD hrg hdv hu hUI hA2 hD hnD
  have hm30 : m ≤ 30 := by
    rw [hm2, hTL]
    split
    · simp; omega
    · have := cut_len p f
      simp; omega
  have h0D : 0 < D.length := by rw [← HND.out]; omega
  have hcell0 : w.cell? ⟨b, o + 1, none⟩ = some (.int .u8 (D[0].toNat : Int)) := by have := HCD.out 0 h0D; simpa using this
  obtain ⟨X0, hX0⟩ : ∃ X : Int, X = (D[0].toNat : Int) := ⟨_, rfl⟩
  rw [← hX0] at hcell0
  have hX045 : X0 ≠ 45 := by have := HRG.out _ (List.getElem_mem h0D); omega
  have hX0r : 48 ≤ X0 ∧ X0 ≤ 57 := by have := HRG.out _ (List.getElem_mem h0D); omega
  have hhd' : nD = 1 ∨ 49 ≤ X0 := by
    rcases hhd with h | ⟨_, h⟩
    · exact Or.inl (HND.out.trans h)
    · right; omega
  clear hX0 hhd h0D
  by_cases hf0 : f = 0
  · rw [if_pos hf0] at hTL
    subst hTL
    simp only [List.length_nil, Nat.add_zero] at hm2
    subst hf0
    have HM := Lib.hid hm2
    have hmS : (1 : Int) < (m : Int) := by omega
    clear hA3 hm2
    go_enter Tryd.func13, Tryd.ntmps13
    go_wp2
    go_loop [8, 11, 12] (fun i x _y => ∃ (k : Nat) (j : Nat) (X : Int), k ≤ nD ∧ Hid (j = 1 + k) ∧ i = .int .i64 (j : Int) ∧ x = .int .u64 X ∧ 0 ≤ X ∧ X ≤ 18446744073709551615 ∧ Hid (X = (dval (D.take k) : Int))) (fun i _ _ => m - (intOf i).toNat)
    case atStart => exact ⟨0, 1, 0, Nat.zero_le _, rfl, rfl, rfl, by omega, by omega, by show _ = _; simp [dval]⟩
    case round =>
      obtain ⟨k, j, X, hk, HJ, rfl, rfl, hX0', hX1', hX⟩ := hrel
      have hj := HJ.out
      have hm2 := HM.out
      by_cases hlt : k < nD
      · have hkl : k < D.length := by rw [← HND.out]; exact hlt
        have hcell : w.cell? ⟨b, o + j, none⟩ = some (.int .u8 (D[k].toNat : Int)) := by rw [hj]; exact HCD.out k hkl
        obtain ⟨hr, hst, hle⟩ := take_step D HRG.out k hkl
        rw [HDV.out] at hle
        obtain ⟨Y, hY⟩ : ∃ Y : Int, Y = (D[k].toNat : Int) := ⟨_, rfl⟩
        have hYr : 48 ≤ Y ∧ Y ≤ 57 := by omega
        rw [← hY] at hcell
        have hXY : X * 10 + (Y - 48) = (dval (D.take (k + 1)) : Int) := by rw [hX.out, hst]; omega
        have hXb : X * 10 + (Y - 48) ≤ 18446744073709551615 := by rw [hXY]; have := HU.out; omega
        have hXd : X ≤ (18446744073709551615 - (Y - 48)) / 10 := by omega
        have hX4 : X ≤ 1844674407370955161 := by omega
        have HXY := Lib.hid hXY
        have hjm : (j : Int) < (m : Int) := by omega
        clear hX hst hle hr hY hXY hX1' hkl hj hm2
        go_wp2
        go_round
        case rel => exact ⟨k + 1, j + 1, X * 10 + (Y - 48), by omega, by show _ = _; have := HJ.out; omega, by go_num, by go_num, by omega, by omega, HXY.out⟩
        case measure => have := HJ.out; have := HM.out; simp [intOf]; omega
      · obtain rfl : k = nD := by omega
        have hXU : UI = X := by
          rw [hX.out, HUI.out, List.take_of_length_le (Nat.le_of_eq HND.out.symm), HDV.out]
        subst hXU
        clear hX hlt hX0' hX1'
        obtain rfl : j = m := by omega
        have hjs : (j : Int) ≠ 1 := by omega
        by_cases hx : X0 = 48
        · have hj1 : (j : Int) - 1 ≤ 1 := by omega
          subst hx
          clear hhd' hj hm2
          go_wp2
          exact bodyPost_ret (v := .tuple #[.bool true, .int .u64 UI, .int .u64 0, .bool true]) (by simp [results, Tryd.results13, go_sem]) rfl ⟨rfl, rfl⟩
        · clear hhd' hj hm2
          go_wp2
          exact bodyPost_ret (v := .tuple #[.bool true, .int .u64 UI, .int .u64 0, .bool true]) (by simp [results, Tryd.results13, go_sem]) rfl ⟨rfl, rfl⟩
  · rw [if_neg hf0] at hTL
    obtain ⟨e, a, g1, g2, g3, g4, g5⟩ := cut_form p f hf0 hf
    obtain ⟨C, hC⟩ : ∃ C, C = pad (e + 1) a := ⟨_, rfl⟩
    rw [g5, ← hC] at hTL
    have hCl : e + 1 = C.length := by rw [hC, pad_len]
    have hCr := pad_range (e + 1) a
    have hCd := dval_pad (e + 1) a g3
    rw [← hC] at hCr hCd
    have hlast : ∀ (h : e < C.length), C[e].toNat ≠ 48 := by
      intro h
      have : C[e] = UInt8.ofNat (48 + a % 10) := by
        simp only [hC, pad]
        rw [List.getElem_append_right (by rw [pad_len]; omega)]
        simp [pad_len]
      rw [this, digit_toNat _ (by omega)]
      omega
    subst hTL
    have hcell46 : w.cell? ⟨b, o + (1 + nD), none⟩ = some (.int .u8 46) := by
      have := hA3 0 (by simp)
      simpa [Nat.add_assoc] using this
    have hcC : ∀ k (hk : k < C.length), w.cell? ⟨b, o + (1 + nD + 1 + k), none⟩ = some (.int .u8 (C[k].toNat : Int)) := by
      intro k hk
      have := hA3 (k + 1) (by simp; omega)
      simp only [List.getElem_cons_succ] at this
      rw [← this]
      congr 2; omega
    simp only [List.length_cons] at hm2
    rw [← hCl] at hm2
    have HM := Lib.hid hm2
    have hmS : (1 : Int) < (m : Int) := by omega
    have HCC := Lib.hid hcC
    have HCl := Lib.hid hCl
    have HCr := Lib.hid hCr
    have HCd := Lib.hid hCd
    have HLa := Lib.hid hlast
    have H4 := Lib.hid g4
    have ha8 : a < 100000000 := by
      have : 10 ^ (e + 1) ≤ 10 ^ 8 := Nat.pow_le_pow_right (by omega) (by omega)
      omega
    have hf8 : f < 100000000 := by
      have : 10 ^ p ≤ 10 ^ 8 := Nat.pow_le_pow_right (by omega) hp8
      omega
    have HA8 := Lib.hid ha8
    obtain ⟨FI, hFI⟩ : ∃ F : Int, F = (f : Int) := ⟨_, rfl⟩
    have HFI := Lib.hid hFI
    rw [← hFI]
    have hpw := fun W => pow_any (p - (e + 1)) (by omega) W
    have hpb := pow_bound (p - (e + 1)) (by omega)
    have hmul : (a : Int) * ((10 ^ (p - (e + 1)) : Nat) : Int) = FI := by rw [hFI, g4, Int.natCast_mul]
    have hsub : ((p - (e + 1) : Nat) : Int) = (p : Int) - ((e : Int) + 1) := by omega
    rw [hsub] at hpw
    obtain ⟨Q, hQ⟩ : ∃ Q : Int, Q = ((10 ^ (p - (e + 1)) : Nat) : Int) := ⟨_, rfl⟩
    rw [← hQ] at hpb hmul
    rw [← hQ] at hpw
    obtain ⟨AI, hAI⟩ : ∃ A : Int, A = (a : Int) := ⟨_, rfl⟩
    have HAI := Lib.hid hAI
    rw [← hAI] at hmul
    have hA0 : 0 ≤ AI := by omega
    have hA1' : AI < 100000000 := by omega
    have hF0 : 0 ≤ FI := by omega
    have hF1 : FI < 100000000 := by omega
    clear hm2 hA3 hcC hCl hCr hCd hlast g4 g5 hC hQ ha8 hf hFI hf8 hsub hAI g2 g3 hf0
    go_enter Tryd.func13, Tryd.ntmps13
    go_wp2
    go_loop [8, 11, 12] (fun i x _y => ∃ (k : Nat) (j : Nat) (X : Int), k ≤ nD ∧ Hid (j = 1 + k) ∧ i = .int .i64 (j : Int) ∧ x = .int .u64 X ∧ 0 ≤ X ∧ X ≤ 18446744073709551615 ∧ Hid (X = (dval (D.take k) : Int))) (fun i _ _ => m - (intOf i).toNat)
    case atStart => exact ⟨0, 1, 0, Nat.zero_le _, rfl, rfl, rfl, by omega, by omega, by show _ = _; simp [dval]⟩
    case round =>
      obtain ⟨k, j, X, hk, HJ, rfl, rfl, hX0', hX1', hX⟩ := hrel
      have hj := HJ.out
      have hm2 := HM.out
      by_cases hlt : k < nD
      · have hkl : k < D.length := by rw [← HND.out]; exact hlt
        have hcell : w.cell? ⟨b, o + j, none⟩ = some (.int .u8 (D[k].toNat : Int)) := by rw [hj]; exact HCD.out k hkl
        obtain ⟨hr, hst, hle⟩ := take_step D HRG.out k hkl
        rw [HDV.out] at hle
        obtain ⟨Y, hY⟩ : ∃ Y : Int, Y = (D[k].toNat : Int) := ⟨_, rfl⟩
        have hYr : 48 ≤ Y ∧ Y ≤ 57 := by omega
        rw [← hY] at hcell
        have hXY : X * 10 + (Y - 48) = (dval (D.take (k + 1)) : Int) := by rw [hX.out, hst]; omega
        have hXb : X * 10 + (Y - 48) ≤ 18446744073709551615 := by rw [hXY]; have := HU.out; omega
        have hXd : X ≤ (18446744073709551615 - (Y - 48)) / 10 := by omega
        have hX4 : X ≤ 1844674407370955161 := by omega
        have HXY := Lib.hid hXY
        have hjm : (j : Int) < (m : Int) := by omega
        clear hX hst hle hr hY hXY hX1' hkl hj hm2
        go_wp2
        go_round
        case rel => exact ⟨k + 1, j + 1, X * 10 + (Y - 48), by omega, by show _ = _; have := HJ.out; omega, by go_num, by go_num, by omega, by omega, HXY.out⟩
        case measure => have := HJ.out; have := HM.out; simp [intOf]; omega
      · obtain rfl : k = nD := by omega
        have hXU : UI = X := by
          rw [hX.out, HUI.out, List.take_of_length_le (Nat.le_of_eq HND.out.symm), HDV.out]
        subst hXU
        clear hX hlt hX0' hX1'
        have hjm : (j : Int) < (m : Int) := by omega
        have hjm' : (j : Int) ≠ (m : Int) := by omega
        rw [← hj] at hcell46 HCC
        have hjr : (j : Int) ≤ 21 := by omega
        have hjs : (j : Int) ≠ 1 := by omega
        have HMJ := Lib.hid (show m = j + (e + 1 + 1) by omega)
        by_cases hx : X0 = 48
        · have hj1 : (j : Int) - 1 ≤ 1 := by omega
          subst hx
          clear hhd' hj hm2
          go_wp2
          go_loop [8, 14] (fun i x => ∃ (q : Nat) (r : Nat) (X : Int), q ≤ e + 1 ∧ Hid (r = j + 1 + q) ∧ i = .int .i64 (r : Int) ∧ x = .int .u64 X ∧ 0 ≤ X ∧ X < 100000000 ∧ Hid (X = (dval (C.take q) : Int))) (fun i _ => m - (intOf i).toNat)
          case atStart => exact ⟨0, j + 1, 0, Nat.zero_le _, rfl, by go_num, rfl, by omega, by omega, by show _ = _; simp [dval]⟩
          case round =>
            obtain ⟨q, r, X, hq, HR0, rfl, rfl, hX0', hX1', hX⟩ := hrel
            have hr0 := HR0.out
            have hmj := HMJ.out
            by_cases hlt : q < e + 1
            · have hkl : q < C.length := by rw [← HCl.out]; exact hlt
              have hcell : w.cell? ⟨b, o + r, none⟩ = some (.int .u8 (C[q].toNat : Int)) := by rw [hr0]; exact HCC.out q hkl
              obtain ⟨hr, hst, hle⟩ := take_step C HCr.out q hkl
              rw [HCd.out] at hle
              obtain ⟨Y, hY⟩ : ∃ Y : Int, Y = (C[q].toNat : Int) := ⟨_, rfl⟩
              have hYr : 48 ≤ Y ∧ Y ≤ 57 := by omega
              rw [← hY] at hcell
              have hXY : X * 10 + (Y - 48) = (dval (C.take (q + 1)) : Int) := by rw [hX.out, hst]; omega
              have hXb : X * 10 + (Y - 48) < 100000000 := by rw [hXY]; have := HA8.out; omega
              have HXY := Lib.hid hXY
              have hrm : (r : Int) < (m : Int) := by omega
              have hrp : (r : Int) - ((j : Int) + 1) < (p : Int) := by omega
              clear hX hst hle hr hY hXY hkl hr0 hmj
              go_wp2
              go_round
              case rel => exact ⟨q + 1, r + 1, X * 10 + (Y - 48), by omega, by show _ = _; have := HR0.out; omega, by go_num, by go_num, by omega, by omega, HXY.out⟩
              case measure => have := HR0.out; have := HMJ.out; simp [intOf]; omega
            · obtain rfl : q = e + 1 := by omega
              have hXA : X = AI := by
                rw [hX.out, HAI.out, List.take_of_length_le (Nat.le_of_eq HCl.out.symm), HCd.out]
              subst hXA
              have hel : e < C.length := by rw [← HCl.out]; omega
              obtain ⟨Y, hY⟩ : ∃ Y : Int, Y = (C[e].toNat : Int) := ⟨_, rfl⟩
              have hYn : Y ≠ 48 := by have := HLa.out hel; omega
              have hcl : w.cell? ⟨b, o + (j + 1 + e), none⟩ = some (.int .u8 Y) := by rw [hY]; exact HCC.out e hel
              have hYr : 0 ≤ Y ∧ Y ≤ 255 := by have := C[e].toNat_lt; omega
              obtain rfl : r = m := by omega
              obtain ⟨z, hz⟩ : ∃ z, z = j + 1 + e := ⟨_, rfl⟩
              rw [← hz] at hcl
              have hrz : (r : Int) - 1 = (z : Int) := by omega
              have hzr : (z : Int) < (r : Int) := by omega
              have hke : (r : Int) - ((j : Int) + 1) = (e : Int) + 1 := by omega
              have hne : ((e : Int) + 1 == 0) = false := beq_eq_false_iff_ne.2 (by omega)
              have hY48 : (Y == 48) = false := beq_eq_false_iff_ne.2 hYn
              clear hX hY hel hlt hr0 hmj hz
              go_wp2_with (go_at_call 6; refine (hpw _).mono ?_; rintro e w' ⟨rfl, h⟩; replace h := h.symm; subst h)
              exact bodyPost_ret (v := .tuple #[.bool true, .int .u64 UI, .int .u64 FI, .bool true]) (by simp [results, Tryd.results13, go_sem]) rfl ⟨rfl, rfl⟩
        · clear hhd' hj hm2
          go_wp2
          go_loop [8, 14] (fun i x => ∃ (q : Nat) (r : Nat) (X : Int), q ≤ e + 1 ∧ Hid (r = j + 1 + q) ∧ i = .int .i64 (r : Int) ∧ x = .int .u64 X ∧ 0 ≤ X ∧ X < 100000000 ∧ Hid (X = (dval (C.take q) : Int))) (fun i _ => m - (intOf i).toNat)
          case atStart => exact ⟨0, j + 1, 0, Nat.zero_le _, rfl, by go_num, rfl, by omega, by omega, by show _ = _; simp [dval]⟩
          case round =>
            obtain ⟨q, r, X, hq, HR0, rfl, rfl, hX0', hX1', hX⟩ := hrel
            have hr0 := HR0.out
            have hmj := HMJ.out
            by_cases hlt : q < e + 1
            · have hkl : q < C.length := by rw [← HCl.out]; exact hlt
              have hcell : w.cell? ⟨b, o + r, none⟩ = some (.int .u8 (C[q].toNat : Int)) := by rw [hr0]; exact HCC.out q hkl
              obtain ⟨hr, hst, hle⟩ := take_step C HCr.out q hkl
              rw [HCd.out] at hle
              obtain ⟨Y, hY⟩ : ∃ Y : Int, Y = (C[q].toNat : Int) := ⟨_, rfl⟩
              have hYr : 48 ≤ Y ∧ Y ≤ 57 := by omega
              rw [← hY] at hcell
              have hXY : X * 10 + (Y - 48) = (dval (C.take (q + 1)) : Int) := by rw [hX.out, hst]; omega
              have hXb : X * 10 + (Y - 48) < 100000000 := by rw [hXY]; have := HA8.out; omega
              have HXY := Lib.hid hXY
              have hrm : (r : Int) < (m : Int) := by omega
              have hrp : (r : Int) - ((j : Int) + 1) < (p : Int) := by omega
              clear hX hst hle hr hY hXY hkl hr0 hmj
              go_wp2
              go_round
              case rel => exact ⟨q + 1, r + 1, X * 10 + (Y - 48), by omega, by show _ = _; have := HR0.out; omega, by go_num, by go_num, by omega, by omega, HXY.out⟩
              case measure => have := HR0.out; have := HMJ.out; simp [intOf]; omega
            · obtain rfl : q = e + 1 := by omega
              have hXA : X = AI := by
                rw [hX.out, HAI.out, List.take_of_length_le (Nat.le_of_eq HCl.out.symm), HCd.out]
              subst hXA
              have hel : e < C.length := by rw [← HCl.out]; omega
              obtain ⟨Y, hY⟩ : ∃ Y : Int, Y = (C[e].toNat : Int) := ⟨_, rfl⟩
              have hYn : Y ≠ 48 := by have := HLa.out hel; omega
              have hcl : w.cell? ⟨b, o + (j + 1 + e), none⟩ = some (.int .u8 Y) := by rw [hY]; exact HCC.out e hel
              have hYr : 0 ≤ Y ∧ Y ≤ 255 := by have := C[e].toNat_lt; omega
              obtain rfl : r = m := by omega
              obtain ⟨z, hz⟩ : ∃ z, z = j + 1 + e := ⟨_, rfl⟩
              rw [← hz] at hcl
              have hrz : (r : Int) - 1 = (z : Int) := by omega
              have hzr : (z : Int) < (r : Int) := by omega
              have hke : (r : Int) - ((j : Int) + 1) = (e : Int) + 1 := by omega
              have hne : ((e : Int) + 1 == 0) = false := beq_eq_false_iff_ne.2 (by omega)
              have hY48 : (Y == 48) = false := beq_eq_false_iff_ne.2 hYn
              clear hX hY hel hlt hr0 hmj hz
              go_wp2_with (go_at_call 6; refine (hpw _).mono ?_; rintro e w' ⟨rfl, h⟩; replace h := h.symm; subst h)
              exact bodyPost_ret (v := .tuple #[.bool true, .int .u64 UI, .int .u64 FI, .bool true]) (by simp [results, Tryd.results13, go_sem]) rfl ⟨rfl, rfl⟩
end Go.Proofs.Qxb6602894aDoor
