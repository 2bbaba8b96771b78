import Derived.Test.Qxb6604517aDoorRead18
namespace Go.Proofs.Qxb6604517aDoor
open Go.RowKit

set_option maxHeartbeats 3200000 in
set_option maxRecDepth 100000 in
theorem law4_coln4 (v x : Value) (l t : List UInt8) (w : World) (a4 a6 : Addr) (hz : Zs w.heap.size w a4 a6) (hv : Rd w.heap.size w v l) (hx : Rd w.heap.size w x t) (_hl : l.length ≤ 524288) (ht : t.length ≤ 524288)
    (htab : Lib.TabIs Tryd.prog w powName .u64 Lib.pow10Tab) (ht0 : t.length = 0) (hl0 : l.length = 0) :
    Calls Tryd.prog 4 #[v, .int .u8 4, x] w fun e w' => e = .returned (.bool true) ∧ Below w.heap.size w w' := by
  have hT : Hid (Lib.TabBelow Tryd.prog w.heap.size w powName .u64 Lib.pow10Tab) := Lib.tabBelow_of_tabIs htab
  have HZ := Lib.hid hz
  have HC1 := Lib.hid (clone_any w v l hv (by omega))
  have HC2 := Lib.hid (fun (W : World) (hb : Below w.heap.size w W) => clone_any W x t ((hx.on hb).mono hb.size) (by omega))
  have HZZ := Lib.hid (fun (W : World) (p y : Value) (z : Zs W.heap.size W a4 a6) (tb : Lib.TabIs Tryd.prog W powName .u64 Lib.pow10Tab) (d : Dst W.heap.size W p l) (r : Rd W.heap.size W y t) => zz9 W.heap.size 4 a4 a6 p l y t W z tb d r (Nat.le_refl _) (by omega) (by omega))
  have htn : notn 4 t = ([] : List UInt8) := by unfold notn; rw [if_neg (by omega), if_neg (by omega), if_pos (by omega), List.eq_nil_of_length_eq_zero ht0]; rfl
  rw [htn] at HZZ
  have HPT := Lib.hid (fun (W : World) (a : Option Addr) (c : Nat) => pcolon_any W (.slice a 0 c) t (by rw [List.eq_nil_of_length_eq_zero ht0]; exact ⟨a, 0, 0, c, rfl, fun h => absurd h (by simp [colonHex, cx]), fun j hj => absurd hj (by simp [colonHex, cx])⟩) (by omega))
  have HSM := Lib.hid (fun (W : World) (p q : Value) (h1 : Rd W.heap.size W p l) (h2 : Rd W.heap.size W q l) => same_any W.heap.size W p q l h1 h2 (by omega))
  have HSV := Lib.hid (fun (W : World) (p q : Value) (h1 : Rd W.heap.size W p t) (h2 : Rd W.heap.size W q t) => same_any W.heap.size W p q t h1 h2 (by omega))
  simp only [List.append_nil] at HZZ
  obtain ⟨a1, b1, o1, cap1, rfl, _, _⟩ := hv
  obtain ⟨a2, b2, o2, cap2, rfl, _, _⟩ := hx
  obtain ⟨n, hn⟩ : ∃ n, n = l.length := ⟨_, rfl⟩
  have HN := Lib.hid hn
  obtain ⟨m, hm⟩ : ∃ m, m = t.length := ⟨_, rfl⟩
  have HMm := Lib.hid hm
  rw [hl0] at HC1 ⊢
  rw [← hm] at ht HC2 ⊢
  clear ht0
  clear htab hz hn htn hm
  go_enter Tryd.func4, Tryd.ntmps4
  go_wp2_with (first | (go_at_call 11; go_in) | fail)
  refine HC1.out.mono ?_
  rintro e w1 ⟨v1, rfl, f1, k1⟩
  go_wp2_with fail
  refine (HC2.out w1 k1).mono ?_
  rintro e w2 ⟨v2, rfl, f2, k2⟩
  have kAll : Below w.heap.size w w2 := k1.trans (k2.mono k1.size)
  have k2s := k2.size
  have f1a := f1.on k2
  go_wp2_with fail
  refine (HZZ.out w2 v1 v2 (Zs.up (HZ.out.on kAll) kAll.size) (hT.out w2 kAll) (f1a.dst _) f2.rd).mono ?_
  rintro e w5 ⟨v5, rfl, d5, s5⟩
  have s5s := s5.size
  have f1b := Lib.hid (((f1a.mono k2s).on s5.below).mono s5s)
  have f2b := Lib.hid ((f2.on s5.below).mono s5s)
  obtain ⟨a1', b1', rfl, _, _⟩ := f1a
  obtain ⟨a2', b2', rfl, _, _⟩ := f2
  have hb5 := Lib.hid (kAll.trans (s5.below.mono kAll.size))
  rw [hl0] at f1b ⊢
  rw [← HMm.out] at f2b ⊢
  have hR := Lib.hid (Rd.dst d5)
  rcases d5.open0 hl0 with rfl | ⟨p, cap, rfl⟩
  · clear d5 s5 kAll k1 k2 f1 HZZ HC1 HC2 hT HZ s5s k2s
    go_wp2_with fail
    refine (HSM.out w5 _ _ hR.out f1b.out.rd).mono ?_
    rintro e w6 ⟨rfl, q, h⟩
    replace h := h.symm
    subst h
    clear HSM f1b
    go_wp2_with fail
    refine (HPT.out (w5.drewN q) _ _).mono ?_
    rintro e w7 ⟨v7, rfl, r7, hb7⟩
    replace hb7 : Below w5.heap.size w5 w7 := (below_drewN (Below.refl _ _) q).trans hb7
    have hb7s := hb7.size
    have f7 : Full w5.heap.size w7 _ t := f2b.out.on hb7
    go_wp2_with fail
    refine (HSV.out w7 _ _ r7 (f7.rd.mono hb7s)).mono ?_
    rintro e w9 ⟨rfl, q9, h9⟩
    replace h9 := h9.symm
    subst h9
    have hB9 := Lib.hid (below_drewN (hb5.out.trans (hb7.mono hb5.out.size)) q9)
    clear f7 r7 hb7 hb7s hb5
    go_wp2
    go_ret
    exact ⟨rfl, hB9.out⟩
  · clear d5 s5 kAll k1 k2 f1 HZZ HC1 HC2 hT HZ s5s k2s
    go_wp2_with fail
    refine (HSM.out w5 _ _ hR.out f1b.out.rd).mono ?_
    rintro e w6 ⟨rfl, q, h⟩
    replace h := h.symm
    subst h
    clear HSM f1b
    go_wp2_with fail
    all_goals
      refine (HPT.out (w5.drewN q) _ _).mono ?_
      rintro e w7 ⟨v7, rfl, r7, hb7⟩
      replace hb7 : Below w5.heap.size w5 w7 := (below_drewN (Below.refl _ _) q).trans hb7
      have hb7s := hb7.size
      have f7 : Full w5.heap.size w7 _ t := f2b.out.on hb7
      go_wp2_with fail
      refine (HSV.out w7 _ _ r7 (f7.rd.mono hb7s)).mono ?_
      rintro e w9 ⟨rfl, q9, h9⟩
      replace h9 := h9.symm
      subst h9
      have hB9 := Lib.hid (below_drewN (hb5.out.trans (hb7.mono hb5.out.size)) q9)
      clear f7 r7 hb7 hb7s hb5
      go_wp2
      go_ret
      exact ⟨rfl, hB9.out⟩

set_option maxHeartbeats 3200000 in
set_option maxRecDepth 100000 in
theorem law4_coln5 (v x : Value) (l t : List UInt8) (w : World) (a4 a6 : Addr) (hz : Zs w.heap.size w a4 a6) (hv : Rd w.heap.size w v l) (hx : Rd w.heap.size w x t) (_hl : l.length ≤ 524288) (ht : t.length ≤ 524288)
    (htab : Lib.TabIs Tryd.prog w powName .u64 Lib.pow10Tab) (ht0 : t.length = 0) (hl0 : l.length = 0) :
    Calls Tryd.prog 4 #[v, .int .u8 5, x] w fun e w' => e = .returned (.bool true) ∧ Below w.heap.size w w' := by
  have hT : Hid (Lib.TabBelow Tryd.prog w.heap.size w powName .u64 Lib.pow10Tab) := Lib.tabBelow_of_tabIs htab
  have HZ := Lib.hid hz
  have HC1 := Lib.hid (clone_any w v l hv (by omega))
  have HC2 := Lib.hid (fun (W : World) (hb : Below w.heap.size w W) => clone_any W x t ((hx.on hb).mono hb.size) (by omega))
  have HZZ := Lib.hid (fun (W : World) (p y : Value) (z : Zs W.heap.size W a4 a6) (tb : Lib.TabIs Tryd.prog W powName .u64 Lib.pow10Tab) (d : Dst W.heap.size W p l) (r : Rd W.heap.size W y t) => zz9 W.heap.size 5 a4 a6 p l y t W z tb d r (Nat.le_refl _) (by omega) (by omega))
  have htn : notn 5 t = ([] : List UInt8) := by unfold notn; rw [if_neg (by omega), if_neg (by omega), if_pos (by omega), List.eq_nil_of_length_eq_zero ht0]; rfl
  rw [htn] at HZZ
  have HPT := Lib.hid (fun (W : World) (a : Option Addr) (c : Nat) => pcolon_any W (.slice a 0 c) t (by rw [List.eq_nil_of_length_eq_zero ht0]; exact ⟨a, 0, 0, c, rfl, fun h => absurd h (by simp [colonHex, cx]), fun j hj => absurd hj (by simp [colonHex, cx])⟩) (by omega))
  have HSM := Lib.hid (fun (W : World) (p q : Value) (h1 : Rd W.heap.size W p l) (h2 : Rd W.heap.size W q l) => same_any W.heap.size W p q l h1 h2 (by omega))
  have HSV := Lib.hid (fun (W : World) (p q : Value) (h1 : Rd W.heap.size W p t) (h2 : Rd W.heap.size W q t) => same_any W.heap.size W p q t h1 h2 (by omega))
  simp only [List.append_nil] at HZZ
  obtain ⟨a1, b1, o1, cap1, rfl, _, _⟩ := hv
  obtain ⟨a2, b2, o2, cap2, rfl, _, _⟩ := hx
  obtain ⟨n, hn⟩ : ∃ n, n = l.length := ⟨_, rfl⟩
  have HN := Lib.hid hn
  obtain ⟨m, hm⟩ : ∃ m, m = t.length := ⟨_, rfl⟩
  have HMm := Lib.hid hm
  rw [hl0] at HC1 ⊢
  rw [← hm] at ht HC2 ⊢
  clear ht0
  clear htab hz hn htn hm
  go_enter Tryd.func4, Tryd.ntmps4
  go_wp2_with (first | (go_at_call 11; go_in) | fail)
  refine HC1.out.mono ?_
  rintro e w1 ⟨v1, rfl, f1, k1⟩
  go_wp2_with fail
  refine (HC2.out w1 k1).mono ?_
  rintro e w2 ⟨v2, rfl, f2, k2⟩
  have kAll : Below w.heap.size w w2 := k1.trans (k2.mono k1.size)
  have k2s := k2.size
  have f1a := f1.on k2
  go_wp2_with fail
  refine (HZZ.out w2 v1 v2 (Zs.up (HZ.out.on kAll) kAll.size) (hT.out w2 kAll) (f1a.dst _) f2.rd).mono ?_
  rintro e w5 ⟨v5, rfl, d5, s5⟩
  have s5s := s5.size
  have f1b := Lib.hid (((f1a.mono k2s).on s5.below).mono s5s)
  have f2b := Lib.hid ((f2.on s5.below).mono s5s)
  obtain ⟨a1', b1', rfl, _, _⟩ := f1a
  obtain ⟨a2', b2', rfl, _, _⟩ := f2
  have hb5 := Lib.hid (kAll.trans (s5.below.mono kAll.size))
  rw [hl0] at f1b ⊢
  rw [← HMm.out] at f2b ⊢
  have hR := Lib.hid (Rd.dst d5)
  rcases d5.open0 hl0 with rfl | ⟨p, cap, rfl⟩
  · clear d5 s5 kAll k1 k2 f1 HZZ HC1 HC2 hT HZ s5s k2s
    go_wp2_with fail
    refine (HSM.out w5 _ _ hR.out f1b.out.rd).mono ?_
    rintro e w6 ⟨rfl, q, h⟩
    replace h := h.symm
    subst h
    clear HSM f1b
    go_wp2_with fail
    refine (HPT.out (w5.drewN q) _ _).mono ?_
    rintro e w7 ⟨v7, rfl, r7, hb7⟩
    replace hb7 : Below w5.heap.size w5 w7 := (below_drewN (Below.refl _ _) q).trans hb7
    have hb7s := hb7.size
    have f7 : Full w5.heap.size w7 _ t := f2b.out.on hb7
    go_wp2_with fail
    refine (HSV.out w7 _ _ r7 (f7.rd.mono hb7s)).mono ?_
    rintro e w9 ⟨rfl, q9, h9⟩
    replace h9 := h9.symm
    subst h9
    have hB9 := Lib.hid (below_drewN (hb5.out.trans (hb7.mono hb5.out.size)) q9)
    clear f7 r7 hb7 hb7s hb5
    go_wp2
    go_ret
    exact ⟨rfl, hB9.out⟩
  · clear d5 s5 kAll k1 k2 f1 HZZ HC1 HC2 hT HZ s5s k2s
    go_wp2_with fail
    refine (HSM.out w5 _ _ hR.out f1b.out.rd).mono ?_
    rintro e w6 ⟨rfl, q, h⟩
    replace h := h.symm
    subst h
    clear HSM f1b
    go_wp2_with fail
    all_goals
      refine (HPT.out (w5.drewN q) _ _).mono ?_
      rintro e w7 ⟨v7, rfl, r7, hb7⟩
      replace hb7 : Below w5.heap.size w5 w7 := (below_drewN (Below.refl _ _) q).trans hb7
      have hb7s := hb7.size
      have f7 : Full w5.heap.size w7 _ t := f2b.out.on hb7
      go_wp2_with fail
      refine (HSV.out w7 _ _ r7 (f7.rd.mono hb7s)).mono ?_
      rintro e w9 ⟨rfl, q9, h9⟩
      replace h9 := h9.symm
      subst h9
      have hB9 := Lib.hid (below_drewN (hb5.out.trans (hb7.mono hb5.out.size)) q9)
      clear f7 r7 hb7 hb7s hb5
      go_wp2
      go_ret
      exact ⟨rfl, hB9.out⟩
end Go.Proofs.Qxb6604517aDoor
