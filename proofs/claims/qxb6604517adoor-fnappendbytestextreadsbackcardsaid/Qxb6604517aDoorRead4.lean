import Derived.Test.Qxb6604517aDoorRead3
import Derived.Test.Qxb6604517aDoorLastEight
namespace Go.Proofs.Qxb6604517aDoor
open Go.RowKit

theorem vb_digit : ∀ (n : Nat) (l : List UInt8), l.length = n → ∀ j, vb l / 256 ^ j % 256 = if j < n then (l.getD (n - 1 - j) 0).toNat else 0
  | 0, l, h, j => by
    have : l = [] := List.eq_nil_of_length_eq_zero h
    subst this
    simp [vb]
  | n + 1, l, h, j => by
    rcases List.eq_nil_or_concat l with rfl | ⟨u, c, rfl⟩
    · simp at h
    · rw [List.concat_eq_append] at h ⊢
      have hu : u.length = n := by simpa using h
      have hc := c.toNat_lt
      rw [vb_snoc]
      cases j with
      | zero =>
        rw [if_pos (by omega), Nat.pow_zero, Nat.div_one, List.getD_eq_getElem?_getD, List.getElem?_append_right (by omega)]
        simp [hu]
      | succ j =>
        have ih := vb_digit n u hu j
        rw [Nat.pow_succ, Nat.mul_comm (256 ^ j), ← Nat.div_div_eq_div_mul, show (vb u * 256 + c.toNat) / 256 = vb u by omega, ih]
        by_cases hj : j < n
        · rw [if_pos hj, if_pos (by omega), List.getD_eq_getElem?_getD, List.getD_eq_getElem?_getD, List.getElem?_append_left (by omega), show n + 1 - 1 - (j + 1) = n - 1 - j by omega]
        · rw [if_neg hj, if_neg (by omega)]

/-- Byte k of the last eight, noughts in front. -/
def pb (t : List UInt8) (k : Nat) : UInt8 := if 8 ≤ t.length + k then t.getD (t.length + k - 8) 0 else 0
theorem pb_l8 (t : List UInt8) (k : Nat) (hk : k < 8) : l8 t / 256 ^ (7 - k) % 256 = (pb t k).toNat := by
  rw [l8_vb, vb_digit _ _ rfl (7 - k), List.length_drop]
  unfold pb
  by_cases h : 8 ≤ t.length + k
  · rw [if_pos h, if_pos (by omega), List.getD_eq_getElem?_getD, List.getElem?_drop, List.getD_eq_getElem?_getD]
    congr 3
    omega
  · rw [if_neg h, if_neg (by omega)]
    rfl

/-- Block G is an array of eight bytes whose first k are f. -/
def BA (f : Nat → Int) (G k : Nat) (w : World) : Prop :=
  ∃ cur : Array Value, w.heap[G]? = some (.cells cur 40 (0, 0)) ∧ cur.size = 8 ∧ (∀ i, i < k → cur[i]? = some (.int .u8 (f i))) ∧ ∀ i, k ≤ i → i < 8 → cur[i]? = some (.int .u8 0)
theorem BA.cell {f : Nat → Int} {G k : Nat} {w : World} (h : BA f G k w) (i : Nat) (hi : i < k) : w.cell? ⟨G, i, none⟩ = some (.int .u8 (f i)) := by
  obtain ⟨cur, h, hs, hc, _⟩ := h
  simp [World.cell?, h, hc i hi]
theorem BA.zero {f : Nat → Int} {G k : Nat} {w : World} (h : BA f G k w) (i : Nat) (hi : k ≤ i) (h8 : i < 8) : w.cell? ⟨G, i, none⟩ = some (.int .u8 0) := by
  obtain ⟨cur, h, hs, _, hc⟩ := h
  simp [World.cell?, h, hc i hi h8]
theorem BA.free {f : Nat → Int} {G k : Nat} {w : World} (h : BA f G k w) (i : Nat) : w.frozen? ⟨G, i, none⟩ = false := by
  obtain ⟨cur, h, hs, hc, _⟩ := h
  simp [World.frozen?, h]
theorem BA.put {f : Nat → Int} {G k : Nat} {w : World} (h : BA f G k w) (hk : k < 8) : BA f G (k + 1) (w.setCell ⟨G, k, none⟩ (.int .u8 (f k))) := by
  obtain ⟨cur, h, hs, hc, hz⟩ := h
  refine ⟨_, heap_setCell_at h k _, by simpa using hs, fun i hi => ?_, fun i hi h8 => ?_⟩
  · by_cases e : i = k
    · subst e
      rw [Array.getElem?_setIfInBounds_self_of_lt (by omega)]
    · rw [Array.getElem?_setIfInBounds_ne (by omega)]
      exact hc i (by omega)
  · rw [Array.getElem?_setIfInBounds_ne (by omega)]
    exact hz i (by omega) h8
theorem BA.same {f : Nat → Int} {G k : Nat} {w : World} (h : BA f G k w) (hk : k < 8) (h0 : f k = 0) : BA f G (k + 1) w := by
  obtain ⟨cur, h, hs, hc, hz⟩ := h
  refine ⟨cur, h, hs, fun i hi => ?_, fun i hi h8 => hz i (by omega) h8⟩
  by_cases e : i = k
  · subst e; rw [h0]; exact hz i (Nat.le_refl _) hk
  · exact hc i (by omega)
theorem BA.far {f : Nat → Int} {G k : Nat} {w : World} (h : BA f G k w) {G' : Nat} (hne : G ≠ G') (o : Nat) (v : Value) : BA f G k (w.setCell ⟨G', o, none⟩ v) := by
  obtain ⟨cur, h, r⟩ := h
  refine ⟨cur, ?_, r⟩
  show (w.heap.modify G' _)[G]? = _
  rw [Array.getElem?_modify, if_neg (by omega)]
  exact h
def agg8 (f : Nat → Int) : Value := .agg #[.int .u8 (f 0), .int .u8 (f 1), .int .u8 (f 2), .int .u8 (f 3), .int .u8 (f 4), .int .u8 (f 5), .int .u8 (f 6), .int .u8 (f 7)]

set_option maxHeartbeats 1600000 in
set_option maxRecDepth 100000 in
theorem be8_any (w : World) (t : List UInt8) (N : Int) (hN : N = (l8 t : Int)) :
    Calls Tryd.prog 16 #[.int .u64 N] w fun e w' => e = .returned (agg8 fun k => ((pb t k).toNat : Int)) ∧ Below w.heap.size w w' := by
  have hlt := l8_lt t
  have hN0 : 0 ≤ N := by omega
  have hN1 : N ≤ 18446744073709551615 := by omega
  have hd : ∀ k, k < 8 → N / 256 ^ (7 - k) % 256 = ((pb t k).toNat : Int) := fun k hk => by
    rw [hN, ← pb_l8 t k hk]; simp
  have HD := Lib.hid hd
  obtain ⟨f, hf⟩ : ∃ f : Nat → Int, f = fun k => ((pb t k).toNat : Int) := ⟨_, rfl⟩
  rw [← hf]
  have HF := Lib.hid hf
  clear hd hN hlt hf
  go_enter Tryd.func16, Tryd.ntmps16
  go_wp2
  go_loopw [4] (fun i wr => ∃ k : Nat, k ≤ 8 ∧ i = .int .i64 k ∧ BA f (w.heap.size + 1) k wr ∧ BA f w.heap.size 0 wr ∧ Below w.heap.size w wr) (fun i _ => 8 - (intOf i).toNat)
  case atStart =>
    refine ⟨0, Nat.zero_le _, rfl, ⟨_, by simpa using heap_alloc_new (w.alloc _) _, rfl, fun i hi => absurd hi (by omega), ?_⟩, ⟨_, by rw [Below.heap_alloc _ _ _ (by simp)]; exact heap_alloc_new w _, rfl, fun i hi => absurd hi (by omega), ?_⟩, ((Below.refl _ _).alloc (Nat.le_refl _) _).alloc (by simp) _⟩
    · intro i _ hi
      have : i = 0 ∨ i = 1 ∨ i = 2 ∨ i = 3 ∨ i = 4 ∨ i = 5 ∨ i = 6 ∨ i = 7 := by omega
      rcases this with rfl | rfl | rfl | rfl | rfl | rfl | rfl | rfl <;> rfl
    · intro i _ hi
      have : i = 0 ∨ i = 1 ∨ i = 2 ∨ i = 3 ∨ i = 4 ∨ i = 5 ∨ i = 6 ∨ i = 7 := by omega
      rcases this with rfl | rfl | rfl | rfl | rfl | rfl | rfl | rfl <;> rfl
  case round =>
    obtain ⟨k, hk, rfl, hG, hZ, hb⟩ := hrel
    by_cases hlt : k < 8
    · have c := hG.zero k (Nat.le_refl _) hlt
      have hfz := hG.free k
      have h7 : (7 : Int) - (k : Int) < 8 := by omega
      have h70 : 0 ≤ (7 : Int) - (k : Int) := by omega
      have hval : N / 2 ^ (8 * (7 - k)) % 256 = f k := by
        have h1 := HD.out k hlt
        rw [HF.out]
        show _ = ((pb t k).toNat : Int)
        rw [← h1, Int.pow_mul]
        rfl
      have HP := Lib.hid (hG.put hlt)
      have HZ := Lib.hid (BA.far hZ (show w.heap.size ≠ w.heap.size + 1 by omega) k (.int .u8 (f k)))
      have HBb := Lib.hid (hb.setCell (p := ⟨w.heap.size + 1, k, none⟩) (by show w.heap.size ≤ w.heap.size + 1; omega) (.int .u8 (f k)))
      clear hG hZ hb
      go_wp2
      go_roundw
      case rel => exact ⟨k + 1, by omega, by go_num, HP.out, HZ.out, HBb.out⟩
      case measure => simp [intOf]; omega
    · obtain rfl : k = 8 := by omega
      have HG := Lib.hid hG
      have HZ := Lib.hid hZ
      have HB := Lib.hid hb
      have g0 := hG.cell 0 (by omega)
      have g1 := hG.cell 1 (by omega)
      have g2 := hG.cell 2 (by omega)
      have g3 := hG.cell 3 (by omega)
      have g4 := hG.cell 4 (by omega)
      have g5 := hG.cell 5 (by omega)
      have g6 := hG.cell 6 (by omega)
      have g7 := hG.cell 7 (by omega)
      have z0 := hZ.zero 0 (by omega) (by omega)
      have z1 := hZ.zero 1 (by omega) (by omega)
      have z2 := hZ.zero 2 (by omega) (by omega)
      have z3 := hZ.zero 3 (by omega) (by omega)
      have z4 := hZ.zero 4 (by omega) (by omega)
      have z5 := hZ.zero 5 (by omega) (by omega)
      have z6 := hZ.zero 6 (by omega) (by omega)
      have z7 := hZ.zero 7 (by omega) (by omega)
      have f0 := hZ.free 0
      have f1 := hZ.free 1
      have f2 := hZ.free 2
      have f3 := hZ.free 3
      have f4 := hZ.free 4
      have f5 := hZ.free 5
      have f6 := hZ.free 6
      have f7 := hZ.free 7
      clear hG hZ hb
      go_wp2
      have hz8 := (((((((HZ.out.put (by omega)).put (by omega)).put (by omega)).put (by omega)).put (by omega)).put (by omega)).put (by omega)).put (by omega)
      have hb8 := (((((((HB.out.setCell (p := ⟨w.heap.size, 0, none⟩) (Nat.le_refl _) (.int .u8 (f 0))).setCell (p := ⟨w.heap.size, 1, none⟩) (Nat.le_refl _) (.int .u8 (f 1))).setCell (p := ⟨w.heap.size, 2, none⟩) (Nat.le_refl _) (.int .u8 (f 2))).setCell (p := ⟨w.heap.size, 3, none⟩) (Nat.le_refl _) (.int .u8 (f 3))).setCell (p := ⟨w.heap.size, 4, none⟩) (Nat.le_refl _) (.int .u8 (f 4))).setCell (p := ⟨w.heap.size, 5, none⟩) (Nat.le_refl _) (.int .u8 (f 5))).setCell (p := ⟨w.heap.size, 6, none⟩) (Nat.le_refl _) (.int .u8 (f 6))).setCell (p := ⟨w.heap.size, 7, none⟩) (Nat.le_refl _) (.int .u8 (f 7))
      simp only [Nat.zero_add, Nat.reduceAdd] at hz8
      generalize ((((((((wr.setCell ⟨w.heap.size, 0, none⟩ (.int .u8 (f 0))).setCell ⟨w.heap.size, 1, none⟩ (.int .u8 (f 1))).setCell ⟨w.heap.size, 2, none⟩ (.int .u8 (f 2))).setCell ⟨w.heap.size, 3, none⟩ (.int .u8 (f 3))).setCell ⟨w.heap.size, 4, none⟩ (.int .u8 (f 4))).setCell ⟨w.heap.size, 5, none⟩ (.int .u8 (f 5))).setCell ⟨w.heap.size, 6, none⟩ (.int .u8 (f 6))).setCell ⟨w.heap.size, 7, none⟩ (.int .u8 (f 7))) = W9 at hz8 hb8 ⊢
      have c0 := hz8.cell 0 (by omega)
      have c1 := hz8.cell 1 (by omega)
      have c2 := hz8.cell 2 (by omega)
      have c3 := hz8.cell 3 (by omega)
      have c4 := hz8.cell 4 (by omega)
      have c5 := hz8.cell 5 (by omega)
      have c6 := hz8.cell 6 (by omega)
      have c7 := hz8.cell 7 (by omega)
      exact bodyPost_ret (v := agg8 f) (by simp [results, Tryd.results16, go_sem, agg8, c0, c1, c2, c3, c4, c5, c6, c7]) rfl ⟨rfl, hb8⟩

set_option maxHeartbeats 1600000 in
set_option maxRecDepth 100000 in
theorem pad8_any (w : World) (x : Value) (t : List UInt8) (hx : Rd w.heap.size w x t) (ht : t.length ≤ 10000000) :
    Calls Tryd.prog 17 #[x] w fun e w' => e = .returned (agg8 fun k => ((pb t k).toNat : Int)) ∧ Below w.heap.size w w' := by
  obtain ⟨a, b, o, cap, rfl, h1, h2⟩ := hx
  obtain ⟨n, hn⟩ : ∃ n, n = t.length := ⟨_, rfl⟩
  rw [← hn] at ht h1 ⊢
  have hcl : ∀ (W : World), Below w.heap.size w W → ∀ j, j < n → a = some ⟨b, o, none⟩ ∧ W.cell? ⟨b, o + j, none⟩ = some (.int .u8 ((t.getD j 0).toNat : Int)) := by
    intro W hb j hj
    refine ⟨(h1 (by omega)).1, ?_⟩
    rw [hb.cell (p := ⟨b, o + j, none⟩) (h1 (by omega)).2, h2 j (by omega), List.getD_eq_getElem?_getD, List.getElem?_eq_getElem (by omega)]
    rfl
  have HCL := Lib.hid hcl
  have HN := Lib.hid hn
  obtain ⟨f, hf⟩ : ∃ f : Nat → Int, f = fun k => ((pb t k).toNat : Int) := ⟨_, rfl⟩
  rw [← hf]
  have HF := Lib.hid hf
  clear hcl h1 h2 hn hf
  go_enter Tryd.func17, Tryd.ntmps17
  go_wp2
  go_loopw [4, 5] (fun i _j wr => ∃ k : Nat, k ≤ 8 ∧ i = .int .i64 k ∧ BA f (w.heap.size + 1) k wr ∧ BA f w.heap.size 0 wr ∧ Below w.heap.size w wr) (fun i _ _ => 8 - (intOf i).toNat)
  case atStart =>
    refine ⟨0, Nat.zero_le _, rfl, ⟨_, by simpa using heap_alloc_new (w.alloc _) _, rfl, fun i hi => absurd hi (by omega), ?_⟩, ⟨_, by rw [Below.heap_alloc _ _ _ (by simp)]; exact heap_alloc_new w _, rfl, fun i hi => absurd hi (by omega), ?_⟩, ((Below.refl _ _).alloc (Nat.le_refl _) _).alloc (by simp) _⟩
    · intro i _ hi
      have : i = 0 ∨ i = 1 ∨ i = 2 ∨ i = 3 ∨ i = 4 ∨ i = 5 ∨ i = 6 ∨ i = 7 := by omega
      rcases this with rfl | rfl | rfl | rfl | rfl | rfl | rfl | rfl <;> rfl
    · intro i _ hi
      have : i = 0 ∨ i = 1 ∨ i = 2 ∨ i = 3 ∨ i = 4 ∨ i = 5 ∨ i = 6 ∨ i = 7 := by omega
      rcases this with rfl | rfl | rfl | rfl | rfl | rfl | rfl | rfl <;> rfl
  case round =>
    obtain ⟨k, hk, rfl, hG, hZ, hb⟩ := hrel
    by_cases hlt : k < 8
    · have c := hG.zero k (Nat.le_refl _) hlt
      have hfz := hG.free k
      by_cases h8 : 8 ≤ n + k
      · obtain ⟨j, hj⟩ : ∃ j, j = n + k - 8 := ⟨_, rfl⟩
        obtain ⟨ha, hc2⟩ := HCL.out wr hb j (by omega)
        cases ha
        have hval : ((t.getD j 0).toNat : Int) = f k := by
          rw [HF.out]
          show _ = ((pb t k).toNat : Int)
          rw [pb, if_pos (by rw [← HN.out]; exact h8), hj, HN.out]
        rw [hval] at hc2
        have hji : (n : Int) - 8 + (k : Int) = (j : Int) := by omega
        have hjn : (j : Int) < (n : Int) := by omega
        have HP := Lib.hid (hG.put hlt)
        have HZ := Lib.hid (BA.far hZ (show w.heap.size ≠ w.heap.size + 1 by omega) k (.int .u8 (f k)))
        have HBb := Lib.hid (hb.setCell (p := ⟨w.heap.size + 1, k, none⟩) (by show w.heap.size ≤ w.heap.size + 1; omega) (.int .u8 (f k)))
        clear hG hZ hb hval hj
        go_wp2
        go_roundw
        case rel => exact ⟨k + 1, by omega, by go_num, HP.out, HZ.out, HBb.out⟩
        case measure => simp [intOf]; omega
      · have hval : f k = 0 := by
          rw [HF.out]
          show ((pb t k).toNat : Int) = 0
          rw [pb, if_neg (by rw [← HN.out]; exact h8)]
          rfl
        have hji : (n : Int) - 8 + (k : Int) < 0 := by omega
        have HP := Lib.hid (hG.same hlt hval)
        have HZ := Lib.hid hZ
        have HBb := Lib.hid hb
        clear hG hZ hb hval
        go_wp2
        go_roundw
        case rel => exact ⟨k + 1, by omega, by go_num, HP.out, HZ.out, HBb.out⟩
        case measure => simp [intOf]; omega
    · obtain rfl : k = 8 := by omega
      have HG := Lib.hid hG
      have HZ := Lib.hid hZ
      have HB := Lib.hid hb
      have g0 := hG.cell 0 (by omega)
      have g1 := hG.cell 1 (by omega)
      have g2 := hG.cell 2 (by omega)
      have g3 := hG.cell 3 (by omega)
      have g4 := hG.cell 4 (by omega)
      have g5 := hG.cell 5 (by omega)
      have g6 := hG.cell 6 (by omega)
      have g7 := hG.cell 7 (by omega)
      have z0 := hZ.zero 0 (by omega) (by omega)
      have z1 := hZ.zero 1 (by omega) (by omega)
      have z2 := hZ.zero 2 (by omega) (by omega)
      have z3 := hZ.zero 3 (by omega) (by omega)
      have z4 := hZ.zero 4 (by omega) (by omega)
      have z5 := hZ.zero 5 (by omega) (by omega)
      have z6 := hZ.zero 6 (by omega) (by omega)
      have z7 := hZ.zero 7 (by omega) (by omega)
      have f0 := hZ.free 0
      have f1 := hZ.free 1
      have f2 := hZ.free 2
      have f3 := hZ.free 3
      have f4 := hZ.free 4
      have f5 := hZ.free 5
      have f6 := hZ.free 6
      have f7 := hZ.free 7
      clear hG hZ hb
      go_wp2
      have hz8 := (((((((HZ.out.put (by omega)).put (by omega)).put (by omega)).put (by omega)).put (by omega)).put (by omega)).put (by omega)).put (by omega)
      have hb8 := (((((((HB.out.setCell (p := ⟨w.heap.size, 0, none⟩) (Nat.le_refl _) (.int .u8 (f 0))).setCell (p := ⟨w.heap.size, 1, none⟩) (Nat.le_refl _) (.int .u8 (f 1))).setCell (p := ⟨w.heap.size, 2, none⟩) (Nat.le_refl _) (.int .u8 (f 2))).setCell (p := ⟨w.heap.size, 3, none⟩) (Nat.le_refl _) (.int .u8 (f 3))).setCell (p := ⟨w.heap.size, 4, none⟩) (Nat.le_refl _) (.int .u8 (f 4))).setCell (p := ⟨w.heap.size, 5, none⟩) (Nat.le_refl _) (.int .u8 (f 5))).setCell (p := ⟨w.heap.size, 6, none⟩) (Nat.le_refl _) (.int .u8 (f 6))).setCell (p := ⟨w.heap.size, 7, none⟩) (Nat.le_refl _) (.int .u8 (f 7))
      simp only [Nat.zero_add, Nat.reduceAdd] at hz8
      generalize ((((((((wr.setCell ⟨w.heap.size, 0, none⟩ (.int .u8 (f 0))).setCell ⟨w.heap.size, 1, none⟩ (.int .u8 (f 1))).setCell ⟨w.heap.size, 2, none⟩ (.int .u8 (f 2))).setCell ⟨w.heap.size, 3, none⟩ (.int .u8 (f 3))).setCell ⟨w.heap.size, 4, none⟩ (.int .u8 (f 4))).setCell ⟨w.heap.size, 5, none⟩ (.int .u8 (f 5))).setCell ⟨w.heap.size, 6, none⟩ (.int .u8 (f 6))).setCell ⟨w.heap.size, 7, none⟩ (.int .u8 (f 7))) = W9 at hz8 hb8 ⊢
      have c0 := hz8.cell 0 (by omega)
      have c1 := hz8.cell 1 (by omega)
      have c2 := hz8.cell 2 (by omega)
      have c3 := hz8.cell 3 (by omega)
      have c4 := hz8.cell 4 (by omega)
      have c5 := hz8.cell 5 (by omega)
      have c6 := hz8.cell 6 (by omega)
      have c7 := hz8.cell 7 (by omega)
      exact bodyPost_ret (v := agg8 f) (by simp [results, Tryd.results17, go_sem, agg8, c0, c1, c2, c3, c4, c5, c6, c7]) rfl ⟨rfl, hb8⟩
end Go.Proofs.Qxb6604517aDoor
