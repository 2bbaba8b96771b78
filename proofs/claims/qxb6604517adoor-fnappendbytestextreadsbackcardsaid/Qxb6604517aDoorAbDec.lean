import Derived.Test.Qxb6604517aDoorAbHex
namespace Go.Proofs.Qxb6604517aDoor
open Go.RowKit

/-- The number that 'n = n<<8 | c' comes to. -/
def l8 (t : List UInt8) : Nat := t.foldl (fun n c => n * 256 % 18446744073709551616 + c.toNat) 0
theorem l8_snoc (t : List UInt8) (c : UInt8) : l8 (t ++ [c]) = l8 t * 256 % 18446744073709551616 + c.toNat := by simp [l8, List.foldl_append]

theorem wrap_u64 (y : Int) : IntKind.u64.wrap y = y % 18446744073709551616 := by simp [IntKind.wrap, IntKind.signed, IntKind.bits]
theorem shl_or (X C : Int) (h0 : 0 ≤ C) (h1 : C < 256) : bits .or .u64 (IntKind.u64.wrap (X * 256)) C = X * 256 % 18446744073709551616 + C := by
  rw [wrap_u64]
  exact or_lo8 _ _ h0 h1 (by omega) (by omega) (by omega)
theorem l8_lt (t : List UInt8) : l8 t < 18446744073709551616 := by
  unfold l8
  rcases List.eq_nil_or_concat t with rfl | ⟨u, c, rfl⟩
  · simp
  · have := l8_snoc u c
    unfold l8 at this
    rw [List.concat_eq_append, this]
    have := c.toNat_lt
    omega

set_option maxHeartbeats 1600000 in
set_option maxRecDepth 100000 in
theorem ab_dec (B : Nat) (A : Int) (hA : A ≠ 8 ∧ A ≠ 9 ∧ A ≠ 4 ∧ A ≠ 5) (v : Value) (l : List UInt8) (x : Value) (t : List UInt8) (w : World) (hd : Dst B w v l) (hx : Rd w.heap.size w x t) (hB : B ≤ w.heap.size) (hl : l.length ≤ 10000000) (ht : t.length ≤ 10000000)
    (htab : Lib.TabIs Tryd.prog w powName .u64 Lib.pow10Tab) :
    Calls Tryd.prog 23 #[v, .int .u8 A, x] w fun e w' => ∃ v', e = .returned v' ∧ Dst B w' v' (l ++ Lib.decDigits (l8 t)) ∧ Step B w w' := by
  obtain ⟨a, b, o, cap, rfl, h1, h2⟩ := hx
  obtain ⟨n, hn⟩ : ∃ n, n = t.length := ⟨_, rfl⟩
  rw [← hn] at ht ⊢
  have HN := Lib.hid hn
  have h8 : (A == 8) = false := beq_eq_false_iff_ne.2 (by omega)
  have h9 : (A == 9) = false := beq_eq_false_iff_ne.2 (by omega)
  have h4 : (A == 4) = false := beq_eq_false_iff_ne.2 (by omega)
  have h5 : (A == 5) = false := beq_eq_false_iff_ne.2 (by omega)
  have HT := Lib.hid htab
  clear hn hA htab
  go_enter Tryd.func23, Tryd.ntmps23
  go_wp2
  go_loop [11, 13, 55] (fun x _c k => ∃ (j : Nat) (X : Int), j ≤ n ∧ k = .int .i64 (j : Int) ∧ x = .int .u64 X ∧ 0 ≤ X ∧ X ≤ 18446744073709551615 ∧ Hid (X = (l8 (t.take j) : Int))) (fun _ _ k => n - (intOf k).toNat)
  case atStart => exact ⟨0, 0, Nat.zero_le _, rfl, rfl, by omega, by omega, by show _ = _; simp [l8]⟩
  case round =>
    obtain ⟨j, X, hj, rfl, rfl, hX0, hX1, hX⟩ := hrel
    by_cases hlt : j < n
    · have hjl : j < t.length := by rw [← HN.out]; exact hlt
      have ha := (h1 (by omega)).1
      cases ha
      have hcell := h2 j hjl
      obtain ⟨C, hC⟩ : ∃ C : Int, C = (t[j].toNat : Int) := ⟨_, rfl⟩
      have hc256 := t[j].toNat_lt
      rw [← hC] at hcell
      have hC0 : 0 ≤ C := by omega
      have hC1 : C < 256 := by omega
      have hor := shl_or X C hC0 hC1
      have hst : X * 256 % 18446744073709551616 + C = (l8 (t.take (j + 1)) : Int) := by
        rw [List.take_succ_eq_append_getElem hjl, l8_snoc, hX.out, hC]; omega
      have hbb : 0 ≤ X * 256 % 18446744073709551616 + C ∧ X * 256 % 18446744073709551616 + C ≤ 18446744073709551615 := by omega
      have HST := Lib.hid hst
      clear h1 h2 hC hc256 hst
      go_wp2
      go_round
      case rel => exact ⟨j + 1, _, by omega, by go_num, rfl, hbb.1, hbb.2, HST.out⟩
      case measure => simp [intOf]; omega
    · obtain rfl : j = n := by omega
      have hXe : X = (l8 t : Int) := by rw [hX.out, List.take_of_length_le (Nat.le_of_eq HN.out.symm)]
      have HAD := Lib.hid (fun (W : World) (d : Dst B W v l) (h : B ≤ W.heap.size) (hT : Lib.TabIs Tryd.prog W powName .u64 Lib.pow10Tab) => adec_any B (l8 t) X hXe (l8_lt t) v l W d h (by omega) hT)
      clear hXe hX h1 h2 hlt
      go_wp2_with fail
      refine (HAD.out w hd hB HT.out).mono ?_
      rintro e w3 ⟨v3, rfl, o3, b3⟩
      go_wp2
      go_ret
      exact ⟨v3, rfl, Dst.own o3, b3⟩

set_option maxHeartbeats 1600000 in
set_option maxRecDepth 100000 in
theorem ab_decNo (B : Nat) (A : Int) (hA : A = 8 ∨ A = 9) (v : Value) (l : List UInt8) (x : Value) (t : List UInt8) (w : World) (hd : Dst B w v l) (hx : Rd w.heap.size w x t) (hB : B ≤ w.heap.size) (hl : l.length ≤ 10000000) (ht : t.length ≤ 10000000) (hn4 : t.length ≠ 4) (hn16 : t.length ≠ 16)
    (htab : Lib.TabIs Tryd.prog w powName .u64 Lib.pow10Tab) :
    Calls Tryd.prog 23 #[v, .int .u8 A, x] w fun e w' => ∃ v', e = .returned v' ∧ Dst B w' v' (l ++ Lib.decDigits (l8 t)) ∧ Step B w w' := by
  obtain ⟨a, b, o, cap, rfl, h1, h2⟩ := hx
  obtain ⟨n, hn⟩ : ∃ n, n = t.length := ⟨_, rfl⟩
  rw [← hn] at ht hn4 hn16 ⊢
  have HN := Lib.hid hn
  have HT := Lib.hid htab
  rcases hA with rfl | rfl
  · clear hn htab
    have hsn := fun W => sliceNo_any a n cap W hn4 hn16
    go_enter Tryd.func23, Tryd.ntmps23
    go_wp2_with fail
    refine (hsn _).mono ?_
    rintro e w1 ⟨rfl, hb0⟩
    go_wp2
    have hb1 : Below w.heap.size w (w1.alloc (.cells #[.int .u64 0, .int .u64 0, .pointer none] 64)) := hb0.alloc hb0.size _
    generalize w1.alloc (.cells #[.int .u64 0, .int .u64 0, .pointer none] 64) = W1 at hb1 ⊢
    go_loop [11, 13, 55] (fun x _c k => ∃ (j : Nat) (X : Int), j ≤ n ∧ k = .int .i64 (j : Int) ∧ x = .int .u64 X ∧ 0 ≤ X ∧ X ≤ 18446744073709551615 ∧ Hid (X = (l8 (t.take j) : Int))) (fun _ _ k => n - (intOf k).toNat)
    case atStart => exact ⟨0, 0, Nat.zero_le _, rfl, rfl, by omega, by omega, by show _ = _; simp [l8]⟩
    case round =>
      obtain ⟨j, X, hj, rfl, rfl, hX0, hX1, hX⟩ := hrel
      by_cases hlt : j < n
      · have hjl : j < t.length := by rw [← HN.out]; exact hlt
        have ha := (h1 (by omega)).1
        cases ha
        have hcell : W1.cell? ⟨b, o + j, none⟩ = some (.int .u8 (t[j].toNat : Int)) := by
          rw [hb1.cell (p := ⟨b, o + j, none⟩) (h1 (by omega)).2]; exact h2 j hjl
        obtain ⟨C, hC⟩ : ∃ C : Int, C = (t[j].toNat : Int) := ⟨_, rfl⟩
        have hc256 := t[j].toNat_lt
        rw [← hC] at hcell
        have hC0 : 0 ≤ C := by omega
        have hC1 : C < 256 := by omega
        have hor := shl_or X C hC0 hC1
        have hst : X * 256 % 18446744073709551616 + C = (l8 (t.take (j + 1)) : Int) := by
          rw [List.take_succ_eq_append_getElem hjl, l8_snoc, hX.out, hC]; omega
        have hbb : 0 ≤ X * 256 % 18446744073709551616 + C ∧ X * 256 % 18446744073709551616 + C ≤ 18446744073709551615 := by omega
        have HST := Lib.hid hst
        clear h1 h2 hC hc256 hst
        go_wp2
        go_round
        case rel => exact ⟨j + 1, _, by omega, by go_num, rfl, hbb.1, hbb.2, HST.out⟩
        case measure => simp [intOf]; omega
      · obtain rfl : j = n := by omega
        have hXe : X = (l8 t : Int) := by rw [hX.out, List.take_of_length_le (Nat.le_of_eq HN.out.symm)]
        have HAD := Lib.hid (fun (W : World) (d : Dst B W v l) (h : B ≤ W.heap.size) (hT : Lib.TabIs Tryd.prog W powName .u64 Lib.pow10Tab) => adec_any B (l8 t) X hXe (l8_lt t) v l W d h (by omega) hT)
        clear hXe hX h1 h2 hlt
        go_wp2_with fail
        refine (HAD.out W1 (hd.on hb1) (Nat.le_trans hB hb1.size) (Lib.tabBelow_of_tabIs HT.out W1 hb1)).mono ?_
        rintro e w3 ⟨v3, rfl, o3, b3⟩
        go_wp2
        go_ret
        exact ⟨v3, rfl, Dst.own o3, (Step.of hb1 hB).trans b3⟩
  · clear hn htab
    have hsn := fun W => sliceNo_any a n cap W hn4 hn16
    go_enter Tryd.func23, Tryd.ntmps23
    go_wp2_with fail
    refine (hsn _).mono ?_
    rintro e w1 ⟨rfl, hb0⟩
    go_wp2
    have hb1 : Below w.heap.size w (w1.alloc (.cells #[.int .u64 0, .int .u64 0, .pointer none] 64)) := hb0.alloc hb0.size _
    generalize w1.alloc (.cells #[.int .u64 0, .int .u64 0, .pointer none] 64) = W1 at hb1 ⊢
    go_loop [11, 13, 55] (fun x _c k => ∃ (j : Nat) (X : Int), j ≤ n ∧ k = .int .i64 (j : Int) ∧ x = .int .u64 X ∧ 0 ≤ X ∧ X ≤ 18446744073709551615 ∧ Hid (X = (l8 (t.take j) : Int))) (fun _ _ k => n - (intOf k).toNat)
    case atStart => exact ⟨0, 0, Nat.zero_le _, rfl, rfl, by omega, by omega, by show _ = _; simp [l8]⟩
    case round =>
      obtain ⟨j, X, hj, rfl, rfl, hX0, hX1, hX⟩ := hrel
      by_cases hlt : j < n
      · have hjl : j < t.length := by rw [← HN.out]; exact hlt
        have ha := (h1 (by omega)).1
        cases ha
        have hcell : W1.cell? ⟨b, o + j, none⟩ = some (.int .u8 (t[j].toNat : Int)) := by
          rw [hb1.cell (p := ⟨b, o + j, none⟩) (h1 (by omega)).2]; exact h2 j hjl
        obtain ⟨C, hC⟩ : ∃ C : Int, C = (t[j].toNat : Int) := ⟨_, rfl⟩
        have hc256 := t[j].toNat_lt
        rw [← hC] at hcell
        have hC0 : 0 ≤ C := by omega
        have hC1 : C < 256 := by omega
        have hor := shl_or X C hC0 hC1
        have hst : X * 256 % 18446744073709551616 + C = (l8 (t.take (j + 1)) : Int) := by
          rw [List.take_succ_eq_append_getElem hjl, l8_snoc, hX.out, hC]; omega
        have hbb : 0 ≤ X * 256 % 18446744073709551616 + C ∧ X * 256 % 18446744073709551616 + C ≤ 18446744073709551615 := by omega
        have HST := Lib.hid hst
        clear h1 h2 hC hc256 hst
        go_wp2
        go_round
        case rel => exact ⟨j + 1, _, by omega, by go_num, rfl, hbb.1, hbb.2, HST.out⟩
        case measure => simp [intOf]; omega
      · obtain rfl : j = n := by omega
        have hXe : X = (l8 t : Int) := by rw [hX.out, List.take_of_length_le (Nat.le_of_eq HN.out.symm)]
        have HAD := Lib.hid (fun (W : World) (d : Dst B W v l) (h : B ≤ W.heap.size) (hT : Lib.TabIs Tryd.prog W powName .u64 Lib.pow10Tab) => adec_any B (l8 t) X hXe (l8_lt t) v l W d h (by omega) hT)
        clear hXe hX h1 h2 hlt
        go_wp2_with fail
        refine (HAD.out W1 (hd.on hb1) (Nat.le_trans hB hb1.size) (Lib.tabBelow_of_tabIs HT.out W1 hb1)).mono ?_
        rintro e w3 ⟨v3, rfl, o3, b3⟩
        go_wp2
        go_ret
        exact ⟨v3, rfl, Dst.own o3, (Step.of hb1 hB).trans b3⟩
end Go.Proofs.Qxb6604517aDoor
