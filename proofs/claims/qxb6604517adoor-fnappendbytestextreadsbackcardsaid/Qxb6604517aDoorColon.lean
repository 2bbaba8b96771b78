import Derived.Test.Qxb6604517aDoorAbHex
namespace Go.Proofs.Qxb6604517aDoor
open Go.RowKit

theorem cx_at (t : List UInt8) : ∀ i (hi : i < t.length), (cx t)[3 * i]? = some 58 ∧ (cx t)[3 * i + 1]? = some (hexd (t[i].toNat / 16)) ∧ (cx t)[3 * i + 2]? = some (hexd (t[i].toNat % 16)) := by
  induction t with
  | nil => intro i hi; simp at hi
  | cons c t ih =>
    intro i hi
    cases i with
    | zero => simp [cx]
    | succ i =>
      have h := ih i (by simpa using hi)
      simp only [List.getElem_cons_succ]
      rw [cx, show 3 * (i + 1) = 3 * i + 1 + 1 + 1 by omega]
      simpa using h

theorem colon_len (t : List UInt8) : (colonHex t).length = 3 * t.length - 1 := by rw [colonHex, List.length_drop, cx_len]
theorem colon_at (t : List UInt8) (k : Nat) (h : k < (colonHex t).length) : ∃ hi : k / 3 < t.length, (colonHex t)[k] = if k % 3 = 0 then hexd (t[k / 3].toNat / 16) else if k % 3 = 1 then hexd (t[k / 3].toNat % 16) else 58 := by
  have hl := colon_len t
  have hi : k / 3 < t.length := by omega
  refine ⟨hi, ?_⟩
  have e : (colonHex t)[k]? = (cx t)[k + 1]? := by rw [colonHex, List.getElem?_drop, Nat.add_comm]
  have g : (colonHex t)[k]? = some (colonHex t)[k] := List.getElem?_eq_getElem h
  rw [e] at g
  obtain ⟨c0, c1, c2⟩ := cx_at t (k / 3) hi
  by_cases h0 : k % 3 = 0
  · rw [if_pos h0]
    rw [show k + 1 = 3 * (k / 3) + 1 by omega, c1] at g
    exact (Option.some.inj g).symm
  · rw [if_neg h0]
    by_cases h1 : k % 3 = 1
    · rw [if_pos h1]
      rw [show k + 1 = 3 * (k / 3) + 2 by omega, c2] at g
      exact (Option.some.inj g).symm
    · rw [if_neg h1]
      have hi' : k / 3 + 1 < t.length := by omega
      obtain ⟨d0, _, _⟩ := cx_at t (k / 3 + 1) hi'
      rw [show k + 1 = 3 * (k / 3 + 1) by omega, d0] at g
      exact (Option.some.inj g).symm

set_option maxHeartbeats 1600000 in
set_option maxRecDepth 100000 in
theorem colon_any (x : Value) (t : List UInt8) (w : World) (hx : Rd w.heap.size w x t) (ht : t.length ≤ 10000000) :
    Calls Tryd.prog 20 #[x] w fun e w' => ∃ v', e = .returned v' ∧ Rd w'.heap.size w' v' (colonHex t) ∧ Below w.heap.size w w' := by
  obtain ⟨a, b, o, cap, rfl, h1, h2⟩ := hx
  obtain ⟨n, hn⟩ : ∃ n, n = t.length := ⟨_, rfl⟩
  rw [← hn] at ht ⊢
  rcases Nat.eq_zero_or_pos n with rfl | hpos
  · have ht0 : t = [] := List.eq_nil_of_length_eq_zero hn.symm
    subst ht0
    clear h1 h2 hn
    go_enter Tryd.func20, Tryd.ntmps20
    go_wp2
    go_ret
    exact ⟨_, rfl, ⟨_, 0, 0, _, rfl, fun h => absurd h (by simp [colonHex, cx]), fun j hj => absurd hj (by simp [colonHex, cx])⟩, (Below.refl _ _).alloc (Nat.le_refl _) _⟩
  · obtain ⟨L, hL⟩ : ∃ L, L = colonHex t := ⟨_, rfl⟩
    have hLl : L.length = 3 * n - 1 := by rw [hL, colon_len, hn]
    obtain ⟨m, hm⟩ : ∃ m, m = 3 * n - 1 := ⟨_, rfl⟩
    rw [← hL]
    rw [← hm] at hLl
    have hmi : 3 * (n : Int) - 1 = (m : Int) := by omega
    have hm3 : m ≤ 30000000 := by omega
    have HN := Lib.hid hn
    have HM := Lib.hid hm
    have HLl := Lib.hid hLl
    have hat : ∀ k (hk : k < L.length), ∃ hi : k / 3 < t.length, L[k] = if k % 3 = 0 then hexd (t[k / 3].toNat / 16) else if k % 3 = 1 then hexd (t[k / 3].toNat % 16) else 58 := by subst hL; exact fun k hk => colon_at t k hk
    have HAT := Lib.hid hat
    clear hn hm hLl hat hL
    obtain ⟨i0, hi, hz0, hz1, hz2⟩ := info_parts infoByte
    go_enter Tryd.func20, Tryd.ntmps20
    go_wp2_with (at_make; refine wpList_make_full _ rfl _ _ 22 rfl w.heap.size 5 i0 (.int .u8 0) 1 Tryd.underlying22 hi hz0 hz1 .i64 .i64 _ _ m rfl rfl (by omega) (by omega) (by rw [hz2]; omega) (by unfold maxLen; omega) (Nat.le_refl _) ?_)
    intro w1 hown hgrow
    have hb1 : Below w.heap.size w w1 := (Below.refl _ _).grown hgrow (Nat.le_refl _) (fun k hk => by cases hk)
    have hown1 : w1.ownsRow w.heap.size 5 1 (.slice (some ⟨w.heap.size, 0, none⟩) m m) m (part L m 0) := by
      rw [part_start, ← toList_madeCells_one]; exact hown
    clear hown hgrow
    go_wp2
    go_loopw [5, 6] (fun i _c wr => ∃ k : Nat, k ≤ m ∧ i = .int .i64 k ∧ wr.ownsRow w.heap.size 5 1 (.slice (some ⟨w.heap.size, 0, none⟩) m m) m (part L m k) ∧ Below w.heap.size w wr) (fun i _ _ => m - (intOf i).toNat)
    case atStart => exact ⟨0, Nat.zero_le _, rfl, hown1, hb1⟩
    case round =>
      obtain ⟨k, hk, rfl, hown, hb⟩ := hrel
      clear hown1 hb1
      by_cases hlt : k < m
      · have hkL : k < L.length := by rw [HLl.out]; exact hlt
        obtain ⟨h3, hLk⟩ := HAT.out k hkL
        have hk3 : k / 3 < n := by rw [HN.out]; exact h3
        have ha := (h1 (by omega)).1
        cases ha
        have hcell : wr.cell? ⟨b, o + k / 3, none⟩ = some (.int .u8 (t[k / 3].toNat : Int)) := by
          rw [hb.cell (p := ⟨b, o + k / 3, none⟩) (h1 (by omega)).2]; exact h2 (k / 3) h3
        obtain ⟨x, hx0⟩ := part_at L m k k (by omega) (by omega) (by omega)
        have hx : wr.cell? ⟨w.heap.size, k, none⟩ = some x := by rw [hown.cellAt k (by omega)]; exact hx0
        have hf := hown.frozenAt k
        have hst := Lib.hid (hown.stored k (.int .u8 (L[k].toNat : Int))).1
        have hps := Lib.hid (part_set L m k hkL (by omega))
        obtain ⟨C, hC⟩ : ∃ C : Int, C = (t[k / 3].toNat : Int) := ⟨_, rfl⟩
        have hc256 := t[k / 3].toNat_lt
        rw [← hC] at hcell
        have hC0 : 0 ≤ C := by omega
        have hC1 : C < 256 := by omega
        have hk3i : (k : Int) / 3 < (n : Int) := by omega
        obtain ⟨V, hV⟩ : ∃ V : Int, V = (L[k].toNat : Int) := ⟨_, rfl⟩
        rw [← hV] at hst hps
        by_cases h0 : k % 3 = 0
        · rw [if_pos h0] at hLk
          have hVe : V = ((hexd (C / 16).toNat).toNat : Int) := by rw [hV, hLk, hC, show ((t[k / 3].toNat : Int) / 16).toNat = t[k / 3].toNat / 16 by omega]
          have hd := fun W => hexDigit_any (C / 16) W (by omega) (by omega)
          rw [← hVe] at hd
          have hr : (k : Int) % 3 = 0 := by omega
          clear hown hx0 h1 h2 hC hc256 hVe hV hLk
          go_wp2_with (go_at_call 27; refine (hd _).mono ?_; rintro e w' ⟨rfl, h⟩; replace h := h.symm; subst h)
          go_roundw
          case rel => exact ⟨k + 1, by omega, by go_num, by rw [← hps.out]; exact hst.out, hb.setCell (Nat.le_refl _) _⟩
          case measure => simp [intOf]; omega
        · rw [if_neg h0] at hLk
          by_cases h1' : k % 3 = 1
          · rw [if_pos h1'] at hLk
            have hVe : V = ((hexd (C % 16).toNat).toNat : Int) := by rw [hV, hLk, hC, show ((t[k / 3].toNat : Int) % 16).toNat = t[k / 3].toNat % 16 by omega]
            have hd := fun W => hexDigit_any (C % 16) W (by omega) (by omega)
            rw [← hVe] at hd
            have hand := and15_u8 C hC0 hC1
            have hr : (k : Int) % 3 = 1 := by omega
            clear hown hx0 h1 h2 hC hc256 hVe hV hLk
            go_wp2_with (go_at_call 27; refine (hd _).mono ?_; rintro e w' ⟨rfl, h⟩; replace h := h.symm; subst h)
            go_roundw
            case rel => exact ⟨k + 1, by omega, by go_num, by rw [← hps.out]; exact hst.out, hb.setCell (Nat.le_refl _) _⟩
            case measure => simp [intOf]; omega
          · rw [if_neg h1'] at hLk
            have hVe : V = 58 := by rw [hV, hLk]; rfl
            subst hVe
            have hr : (k : Int) % 3 = 2 := by omega
            clear hown hx0 h1 h2 hC hc256 hV hLk
            go_wp2
            go_roundw
            case rel => exact ⟨k + 1, by omega, by go_num, by rw [← hps.out]; exact hst.out, hb.setCell (Nat.le_refl _) _⟩
            case measure => simp [intOf]; omega
      · obtain rfl : k = m := by omega
        have hown0 := Lib.hid hown
        clear hown h1 h2
        go_wp2
        go_ret
        refine ⟨_, rfl, (Full.own HLl.out.symm (B := w.heap.size) ?_).rd, hb⟩
        have := hown0.out
        rw [part_end L _ HLl.out.symm] at this
        exact this
end Go.Proofs.Qxb6604517aDoor
