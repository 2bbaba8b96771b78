import Derived.Test.Qxb6604517aDoorRead2
import Derived.Test.Qxb6604517aDoorColon
namespace Go.Proofs.Qxb6604517aDoor
open Go.RowKit

theorem cx_drop_at (t : List UInt8) (k : Nat) (hk : k < t.length) : (colonHex t)[3 * k]? = some (hexd (t[k].toNat / 16)) ∧ (colonHex t)[3 * k + 1]? = some (hexd (t[k].toNat % 16)) ∧ (k + 1 < t.length → (colonHex t)[3 * k + 2]? = some 58) := by
  unfold colonHex
  obtain ⟨_, c1, c2⟩ := cx_at t k hk
  refine ⟨?_, ?_, fun h => ?_⟩
  · rw [List.getElem?_drop, show 1 + 3 * k = 3 * k + 1 by omega]; exact c1
  · rw [List.getElem?_drop, show 1 + (3 * k + 1) = 3 * k + 2 by omega]; exact c2
  · rw [List.getElem?_drop, show 1 + (3 * k + 2) = 3 * (k + 1) by omega]; exact (cx_at t (k + 1) h).1

set_option maxHeartbeats 3200000 in
set_option maxRecDepth 100000 in
theorem pcolon_any (w : World) (x : Value) (t : List UInt8) (hx : Rd w.heap.size w x (colonHex t)) (ht : t.length ≤ 10000000) :
    Calls Tryd.prog 14 #[x] w fun e w' => ∃ v', e = .returned (.tuple #[v', .bool true]) ∧ Rd w'.heap.size w' v' t ∧ Below w.heap.size w w' := by
  obtain ⟨a, b, o, cap, rfl, h1, h2⟩ := hx
  have hcl := colon_len t
  obtain ⟨n, hn⟩ : ∃ n, n = t.length := ⟨_, rfl⟩
  obtain ⟨m, hm⟩ : ∃ m, m = (colonHex t).length := ⟨_, rfl⟩
  have hcells : ∀ (W : World), Below w.heap.size w W → ∀ j c, (colonHex t)[j]? = some c → W.cell? ⟨b, o + j, none⟩ = some (.int .u8 (c.toNat : Int)) := by
    intro W hb j c hj
    obtain ⟨hjl, rfl⟩ := List.getElem?_eq_some_iff.1 hj
    rw [hb.cell (p := ⟨b, o + j, none⟩) (h1 (by omega)).2]
    exact h2 j hjl
  rw [← hm] at hcl h1 ⊢
  rw [← hn] at ht hcl
  rcases Nat.eq_zero_or_pos n with rfl | hpos
  · have ht0 : t = [] := List.eq_nil_of_length_eq_zero hn.symm
    obtain rfl : m = 0 := by omega
    subst ht0
    clear h1 h2 hn hcl hcells hm
    go_enter Tryd.func14, Tryd.ntmps14
    go_wp2
    exact bodyPost_ret (v := .tuple #[.slice (some ⟨w.heap.size, 0, none⟩) 0 0, .bool true]) (by simp [results, Tryd.results14, go_sem]) rfl ⟨_, rfl, ⟨_, 0, 0, _, rfl, fun h => absurd h (by simp), fun j hj => absurd hj (by simp)⟩, (Below.refl _ _).alloc (Nat.le_refl _) _⟩
  · obtain ⟨ha, hbl⟩ := h1 (by omega)
    subst ha
    have HCE := Lib.hid hcells
    have HN := Lib.hid hn
    have hm0 : ((m : Int) == 0) = false := beq_eq_false_iff_ne.2 (by omega)
    have hm1 : (m : Int) + 1 = 3 * (n : Int) := by omega
    have hm3 : ((m : Int) + 1) % 3 = 0 := by omega
    have hmd : ((m : Int) + 1) / 3 = (n : Int) := by omega
    have hm4 : (m : Int) ≤ 30000000 := by omega
    have HM := Lib.hid hm1
    clear h1 h2 hcells hm hcl hn hm1
    obtain ⟨i0, hi, hz0, hz1, hz2⟩ := info_parts infoByte
    go_enter Tryd.func14, Tryd.ntmps14
    go_wp2_with (at_make; refine wpList_make_full _ rfl _ _ 22 rfl w.heap.size 5 i0 (.int .u8 0) 1 Tryd.underlying22 hi hz0 hz1 .i64 .i64 _ _ n rfl rfl (by omega) (by omega) (by rw [hz2]; omega) (by unfold maxLen; omega) (Nat.le_refl _) ?_)
    intro w1 hown hgrow
    have hb1 : Below w.heap.size w w1 := (Below.refl _ _).grown hgrow (Nat.le_refl _) (fun k hk => by cases hk)
    have hown1 : w1.ownsRow w.heap.size 5 1 (.slice (some ⟨w.heap.size, 0, none⟩) n n) n (part t n 0) := by
      rw [part_start, ← toList_madeCells_one]; exact hown
    clear hown hgrow
    go_wp2
    go_loopw [6, 7, 8, 9, 10] (fun i _a _b _c _d wr => ∃ k : Nat, k ≤ n ∧ i = .int .i64 k ∧ wr.ownsRow w.heap.size 5 1 (.slice (some ⟨w.heap.size, 0, none⟩) n n) n (part t n k) ∧ Below w.heap.size w wr) (fun i _ _ _ _ _ => n - (intOf i).toNat)
    case atStart => exact ⟨0, Nat.zero_le _, rfl, hown1, hb1⟩
    case round =>
      obtain ⟨k, hk, rfl, hown, hb⟩ := hrel
      clear hown1 hb1
      by_cases hlt : k < n
      · have hkt : k < t.length := by rw [← HN.out]; exact hlt
        obtain ⟨q1, q2, q3⟩ := cx_drop_at t k hkt
        have c1 := HCE.out wr hb _ _ q1
        have c2 := HCE.out wr hb _ _ q2
        obtain ⟨y, hx0⟩ := part_at t n k k (by omega) (by omega) (by omega)
        have hy : wr.cell? ⟨w.heap.size, k, none⟩ = some y := by rw [hown.cellAt k (by omega)]; exact hx0
        have hf := hown.frozenAt k
        have hst := Lib.hid (hown.stored k (.int .u8 (t[k].toNat : Int))).1
        have hps := Lib.hid (part_set t n k hkt (by omega))
        have hc256 := t[k].toNat_lt
        have v1 := fun W => hexval_any (t[k].toNat / 16) (by omega) W
        have v2 := fun W => hexval_any (t[k].toNat % 16) (by omega) W
        have hor : bits .or .u8 (((t[k].toNat / 16 : Nat) : Int) * 16) ((t[k].toNat % 16 : Nat) : Int) = (t[k].toNat : Int) := by
          rw [or4_u8 _ _ (by omega) (by omega) (by omega) (by omega)]; omega
        obtain ⟨P, hP⟩ : ∃ P : Int, P = ((t[k].toNat / 16 : Nat) : Int) := ⟨_, rfl⟩
        obtain ⟨R, hR⟩ : ∃ P : Int, P = ((t[k].toNat % 16 : Nat) : Int) := ⟨_, rfl⟩
        obtain ⟨C1, hC1⟩ : ∃ P : Int, P = ((hexd (t[k].toNat / 16)).toNat : Int) := ⟨_, rfl⟩
        obtain ⟨C2, hC2⟩ : ∃ P : Int, P = ((hexd (t[k].toNat % 16)).toNat : Int) := ⟨_, rfl⟩
        obtain ⟨V, hV⟩ : ∃ P : Int, P = (t[k].toNat : Int) := ⟨_, rfl⟩
        rw [← hP, ← hR, ← hV] at hor
        rw [← hP, ← hC1] at v1
        rw [← hR, ← hC2] at v2
        rw [← hC1] at c1
        rw [← hC2] at c2
        rw [← hV] at hst hps
        have hP0 : 0 ≤ P := by omega
        have hP1 : P < 16 := by omega
        have hR0 : 0 ≤ R := by omega
        have hR1 : R < 16 := by omega
        have hk1 : 3 * (k : Int) < (m : Int) := by have := HM.out; omega
        have hk2 : 3 * (k : Int) + 1 < (m : Int) := by have := HM.out; omega
        have key : k + 1 < n ∨ k + 1 = n := by omega
        rcases key with hlast | hlast
        · have c3 := HCE.out wr hb _ _ (q3 (by rw [← HN.out]; exact hlast))
          have c3' : wr.cell? ⟨b, o + (3 * k + 2), none⟩ = some (.int .u8 58) := c3
          have hk3 : 3 * (k : Int) + 2 < (m : Int) := by have := HM.out; omega
          have hkl : (k : Int) < (n : Int) - 1 := by omega
          clear hown hx0 hc256 hP hR hC1 hC2 hV q1 q2 q3 c3 hlast
          go_wp2_with fail
          refine (v1 _).mono ?_
          rintro e w' ⟨rfl, h⟩
          replace h := h.symm
          subst h
          go_wp2_with fail
          refine (v2 _).mono ?_
          rintro e w' ⟨rfl, h⟩
          replace h := h.symm
          subst h
          go_wp2
          go_roundw
          case rel => exact ⟨k + 1, by omega, by go_num, by rw [← hps.out]; exact hst.out, hb.setCell (Nat.le_refl _) _⟩
          case measure => simp [intOf]; omega
        · have hkl : (n : Int) ≤ (k : Int) + 1 := by omega
          have hkd : decide ((k : Int) < (n : Int) - 1) = false := decide_eq_false (by omega)
          clear hown hx0 hc256 hP hR hC1 hC2 hV q1 q2 q3 hlast
          go_wp2_with fail
          refine (v1 _).mono ?_
          rintro e w' ⟨rfl, h⟩
          replace h := h.symm
          subst h
          go_wp2_with fail
          refine (v2 _).mono ?_
          rintro e w' ⟨rfl, h⟩
          replace h := h.symm
          subst h
          go_wp2
          go_roundw
          case rel => exact ⟨k + 1, by omega, by go_num, by rw [← hps.out]; exact hst.out, hb.setCell (Nat.le_refl _) _⟩
          case measure => simp [intOf]; omega
      · obtain rfl : k = n := by omega
        have hown0 := Lib.hid hown
        clear hown
        go_wp2
        refine bodyPost_ret (v := .tuple #[.slice (some ⟨w.heap.size, 0, none⟩) k k, .bool true]) (by simp [results, Tryd.results14, go_sem]) rfl ⟨_, rfl, (Full.own HN.out (B := w.heap.size) ?_).rd, hb⟩
        have := hown0.out
        rw [part_end t _ HN.out] at this
        exact this
end Go.Proofs.Qxb6604517aDoor
