import Derived.Test.Qxb6604517aDoorRead18
namespace Go.Proofs.Qxb6604517aDoor
open Go.RowKit

theorem eq40 (f : Nat → Int) (w : World) : (Op.equalIn 10000 40 (.agg #[.int .u8 (f 0), .int .u8 (f 1), .int .u8 (f 2), .int .u8 (f 3), .int .u8 (f 4), .int .u8 (f 5), .int .u8 (f 6), .int .u8 (f 7)]) (.agg #[.int .u8 (f 0), .int .u8 (f 1), .int .u8 (f 2), .int .u8 (f 3), .int .u8 (f 4), .int .u8 (f 5), .int .u8 (f 6), .int .u8 (f 7)])).run Tryd.prog w = .ok true w := by
  have u3 := Tryd.underlying5
  have a3 := Tryd.isAgg5
  have z3 := Tryd.sizeOf5
  rw [show (10000 : Nat) = 9999 + 1 from rfl, Op.equalIn]
  simp only [Sem.run_bind, run_underlying Tryd.underlying40, Result.andThen_ok]
  simp only [Std.Legacy.Range.forIn_eq_forIn_range', Std.Legacy.Range.size, Nat.sub_zero, Nat.add_sub_cancel, Nat.div_one, List.range'_succ, List.range'_zero, List.forIn_cons, List.forIn_nil]
  go_simp

set_option maxHeartbeats 3200000 in
set_option maxRecDepth 100000 in
theorem law4_dec (v x : Value) (l t : List UInt8) (A : Int) (w : World) (a4 a6 : Addr) (hz : Zs w.heap.size w a4 a6) (hv : Rd w.heap.size w v l) (hx : Rd w.heap.size w x t) (hl : l.length ≤ 524288) (ht : t.length ≤ 524288)
    (htab : Lib.TabIs Tryd.prog w powName .u64 Lib.pow10Tab) (hA : A ≠ 8 ∧ A ≠ 9 ∧ A ≠ 4 ∧ A ≠ 5) :
    Calls Tryd.prog 4 #[v, .int .u8 A, x] w fun e w' => e = .returned (.bool true) ∧ Below w.heap.size w w' := by
  have hT : Hid (Lib.TabBelow Tryd.prog w.heap.size w powName .u64 Lib.pow10Tab) := Lib.tabBelow_of_tabIs htab
  have HZ := Lib.hid hz
  have HC1 := Lib.hid (clone_any w v l hv (by omega))
  have HC2 := Lib.hid (fun (W : World) (hb : Below w.heap.size w W) => clone_any W x t ((hx.on hb).mono hb.size) (by omega))
  have HZZ := Lib.hid (fun (W : World) (p y : Value) (z : Zs W.heap.size W a4 a6) (tb : Lib.TabIs Tryd.prog W powName .u64 Lib.pow10Tab) (d : Dst W.heap.size W p l) (r : Rd W.heap.size W y t) => zz9 W.heap.size A a4 a6 p l y t W z tb d r (Nat.le_refl _) (by omega) (by omega))
  have htn : notn A t = Lib.decDigits (l8 t) := by unfold notn; rw [if_neg (by omega), if_neg (by omega), if_neg (by omega)]
  rw [htn] at HZZ
  have hpos : 0 < (Lib.decDigits (l8 t)).length := (decDigits_len20 (l8 t) (l8_lt t)).1
  have HPT := Lib.hid (fun (W : World) (b o cap : Nat) (h : At W b o (Lib.decDigits (l8 t))) (_ : b < W.heap.size) (_ : (Lib.decDigits (l8 t)).length ≤ cap) => pdec_any W b o cap (l8 t) (l8_lt t) h)
  obtain ⟨N, hNe⟩ : ∃ N : Int, N = (l8 t : Int) := ⟨_, rfl⟩
  rw [← hNe] at HPT
  have HB8 := Lib.hid (fun W => be8_any W t N hNe)
  have HP8 := Lib.hid (fun (W : World) (y : Value) (r : Rd W.heap.size W y t) => pad8_any W y t r (by omega))
  obtain ⟨f, hf⟩ : ∃ f : Nat → Int, f = fun k => ((pb t k).toNat : Int) := ⟨_, rfl⟩
  rw [← hf] at HB8 HP8
  simp only [agg8] at HB8 HP8
  have hq40 := eq40 f
  clear hNe hf
  have HSM := Lib.hid (fun (W : World) (p q : Value) (h1 : Rd W.heap.size W p l) (h2 : Rd W.heap.size W q l) => same_any W.heap.size W p q l h1 h2 (by omega))
  have HSV := Lib.hid (fun (W : World) (p q : Value) (h1 : Rd W.heap.size W p t) (h2 : Rd W.heap.size W q t) => same_any W.heap.size W p q t h1 h2 (by omega))
  obtain ⟨T, hTe⟩ : ∃ T, T = Lib.decDigits (l8 t) := ⟨_, rfl⟩
  rw [← hTe] at HZZ hpos HPT
  obtain ⟨a1, b1, o1, cap1, rfl, _, _⟩ := hv
  obtain ⟨a2, b2, o2, cap2, rfl, _, _⟩ := hx
  obtain ⟨n, hn⟩ : ∃ n, n = l.length := ⟨_, rfl⟩
  have HN := Lib.hid hn
  obtain ⟨m, hm⟩ : ∃ m, m = t.length := ⟨_, rfl⟩
  have HMm := Lib.hid hm
  rw [← hn] at hl HC1 ⊢
  rw [← hm] at ht HC2 ⊢
  have hnm : (n : Int) + (m : Int) ≤ 1048576 := by omega
  have e8 : (A == 8) = false := beq_eq_false_iff_ne.2 hA.1
  have e9 : (A == 9) = false := beq_eq_false_iff_ne.2 hA.2.1
  have e4 : (A == 4) = false := beq_eq_false_iff_ne.2 hA.2.2.1
  have e5 : (A == 5) = false := beq_eq_false_iff_ne.2 hA.2.2.2
  clear hA
  clear htab hz hn hTe htn hm
  go_enter Tryd.func4, Tryd.ntmps4
  go_wp2_with (first | (go_at_call 11; go_in) | fail)
  refine HC1.out.mono ?_
  rintro e w1 ⟨v1, rfl, f1, k1⟩
  go_wp2_with fail
  refine (HC2.out w1 k1).mono ?_
  rintro e w2 ⟨v2, rfl, f2, k2⟩
  have kAll : Below w.heap.size w w2 := k1.trans (k2.mono k1.size)
  have k2s := k2.size
  have f1a := f1.on k2
  go_wp2_with fail
  refine (HZZ.out w2 v1 v2 (Zs.up (HZ.out.on kAll) kAll.size) (hT.out w2 kAll) (f1a.dst _) f2.rd).mono ?_
  rintro e w5 ⟨v5, rfl, d5, s5⟩
  have s5s := s5.size
  have f1b := Lib.hid (((f1a.mono k2s).on s5.below).mono s5s)
  have f2b := Lib.hid ((f2.on s5.below).mono s5s)
  obtain ⟨a1', b1', rfl, _, _⟩ := f1a
  obtain ⟨a2', b2', rfl, _, _⟩ := f2
  have hb5 := Lib.hid (kAll.trans (s5.below.mono kAll.size))
  obtain ⟨g, o, cap, rfl, hcap, hg, hAt⟩ := d5.open' (by rw [List.length_append]; omega)
  have hAl := Lib.hid (hAt.left.rd (cap := cap) hg)
  have hAr := Lib.hid hAt.right
  rw [List.length_append] at hcap
  rw [List.length_append]
  obtain ⟨mm, hmm⟩ : ∃ mm, mm = T.length := ⟨_, rfl⟩
  rw [← hmm] at hcap hpos HPT ⊢
  rw [← HN.out] at hcap f1b hAl hAr ⊢
  rw [← HMm.out] at f2b ⊢
  have hcn : ¬ cap = n := by omega
  have hcni : (n : Int) + (mm : Int) ≤ (cap : Int) := by omega
  clear hmm d5 s5 kAll k1 k2 f1 hAt HZZ HC1 HC2 hT HZ s5s k2s
  go_wp2_with fail
  refine (HSM.out w5 _ _ hAl.out f1b.out.rd).mono ?_
  rintro e w6 ⟨rfl, q, h⟩
  replace h := h.symm
  subst h
  clear HSM hAl f1b
  have hAq : At (w5.drewN q) g (o + n) T := hAr.out
  have HPT' := Lib.hid (HPT.out (w5.drewN q) g (o + n) (cap - n) hAq hg (by omega))
  clear hAq HPT
  go_wp2_with fail
  refine HPT'.out.mono ?_
  rintro e w7 ⟨rfl, h⟩
  replace h := h.symm
  subst h
  clear HPT' hAr HSV
  go_wp2_with fail
  refine (HB8.out (w5.drewN q)).mono ?_
  rintro e w8 ⟨rfl, hb8⟩
  replace hb8 : Below w5.heap.size w5 w8 := (below_drewN (Below.refl _ _) q).trans hb8
  have f8 : Full w5.heap.size w8 _ t := f2b.out.on hb8
  clear HB8 f2b
  go_wp2_with fail
  refine (HP8.out w8 _ (f8.rd.mono hb8.size)).mono ?_
  rintro e w9 ⟨rfl, hb9⟩
  have hB9 := Lib.hid ((hb5.out.trans (hb8.mono hb5.out.size)).trans (hb9.mono (Nat.le_trans hb5.out.size hb8.size)))
  clear HP8 f8 hb8 hb9 hb5
  go_wp2
  go_ret
  exact ⟨rfl, hB9.out⟩

set_option maxHeartbeats 3200000 in
set_option maxRecDepth 100000 in
theorem law4_dec8 (v x : Value) (l t : List UInt8) (w : World) (a4 a6 : Addr) (hz : Zs w.heap.size w a4 a6) (hv : Rd w.heap.size w v l) (hx : Rd w.heap.size w x t) (hl : l.length ≤ 524288) (ht : t.length ≤ 524288)
    (htab : Lib.TabIs Tryd.prog w powName .u64 Lib.pow10Tab) (hA : t.length ≠ 4 ∧ t.length ≠ 16) :
    Calls Tryd.prog 4 #[v, .int .u8 8, x] w fun e w' => e = .returned (.bool true) ∧ Below w.heap.size w w' := by
  have hT : Hid (Lib.TabBelow Tryd.prog w.heap.size w powName .u64 Lib.pow10Tab) := Lib.tabBelow_of_tabIs htab
  have HZ := Lib.hid hz
  have HC1 := Lib.hid (clone_any w v l hv (by omega))
  have HC2 := Lib.hid (fun (W : World) (hb : Below w.heap.size w W) => clone_any W x t ((hx.on hb).mono hb.size) (by omega))
  have HZZ := Lib.hid (fun (W : World) (p y : Value) (z : Zs W.heap.size W a4 a6) (tb : Lib.TabIs Tryd.prog W powName .u64 Lib.pow10Tab) (d : Dst W.heap.size W p l) (r : Rd W.heap.size W y t) => zz9 W.heap.size 8 a4 a6 p l y t W z tb d r (Nat.le_refl _) (by omega) (by omega))
  have htn : notn 8 t = Lib.decDigits (l8 t) := by unfold notn; rw [if_neg (by omega), if_neg (by omega), if_neg (by omega)]
  rw [htn] at HZZ
  have hpos : 0 < (Lib.decDigits (l8 t)).length := (decDigits_len20 (l8 t) (l8_lt t)).1
  have HPT := Lib.hid (fun (W : World) (b o cap : Nat) (h : At W b o (Lib.decDigits (l8 t))) (_ : b < W.heap.size) (_ : (Lib.decDigits (l8 t)).length ≤ cap) => pdec_any W b o cap (l8 t) (l8_lt t) h)
  obtain ⟨N, hNe⟩ : ∃ N : Int, N = (l8 t : Int) := ⟨_, rfl⟩
  rw [← hNe] at HPT
  have HB8 := Lib.hid (fun W => be8_any W t N hNe)
  have HP8 := Lib.hid (fun (W : World) (y : Value) (r : Rd W.heap.size W y t) => pad8_any W y t r (by omega))
  obtain ⟨f, hf⟩ : ∃ f : Nat → Int, f = fun k => ((pb t k).toNat : Int) := ⟨_, rfl⟩
  rw [← hf] at HB8 HP8
  simp only [agg8] at HB8 HP8
  have hq40 := eq40 f
  clear hNe hf
  have HSM := Lib.hid (fun (W : World) (p q : Value) (h1 : Rd W.heap.size W p l) (h2 : Rd W.heap.size W q l) => same_any W.heap.size W p q l h1 h2 (by omega))
  have HSV := Lib.hid (fun (W : World) (p q : Value) (h1 : Rd W.heap.size W p t) (h2 : Rd W.heap.size W q t) => same_any W.heap.size W p q t h1 h2 (by omega))
  obtain ⟨T, hTe⟩ : ∃ T, T = Lib.decDigits (l8 t) := ⟨_, rfl⟩
  rw [← hTe] at HZZ hpos HPT
  obtain ⟨a1, b1, o1, cap1, rfl, _, _⟩ := hv
  obtain ⟨a2, b2, o2, cap2, rfl, _, _⟩ := hx
  obtain ⟨n, hn⟩ : ∃ n, n = l.length := ⟨_, rfl⟩
  have HN := Lib.hid hn
  obtain ⟨m, hm⟩ : ∃ m, m = t.length := ⟨_, rfl⟩
  have HMm := Lib.hid hm
  rw [← hn] at hl HC1 ⊢
  rw [← hm] at ht HC2 ⊢
  have hnm : (n : Int) + (m : Int) ≤ 1048576 := by omega
  have hm4 : ((m : Int) == 4) = false := beq_eq_false_iff_ne.2 (by omega)
  have hm16 : ((m : Int) == 16) = false := beq_eq_false_iff_ne.2 (by omega)
  clear hA
  clear htab hz hn hTe htn hm
  go_enter Tryd.func4, Tryd.ntmps4
  go_wp2_with (first | (go_at_call 11; go_in) | fail)
  refine HC1.out.mono ?_
  rintro e w1 ⟨v1, rfl, f1, k1⟩
  go_wp2_with fail
  refine (HC2.out w1 k1).mono ?_
  rintro e w2 ⟨v2, rfl, f2, k2⟩
  have kAll : Below w.heap.size w w2 := k1.trans (k2.mono k1.size)
  have k2s := k2.size
  have f1a := f1.on k2
  go_wp2_with fail
  refine (HZZ.out w2 v1 v2 (Zs.up (HZ.out.on kAll) kAll.size) (hT.out w2 kAll) (f1a.dst _) f2.rd).mono ?_
  rintro e w5 ⟨v5, rfl, d5, s5⟩
  have s5s := s5.size
  have f1b := Lib.hid (((f1a.mono k2s).on s5.below).mono s5s)
  have f2b := Lib.hid ((f2.on s5.below).mono s5s)
  obtain ⟨a1', b1', rfl, _, _⟩ := f1a
  obtain ⟨a2', b2', rfl, _, _⟩ := f2
  have hb5 := Lib.hid (kAll.trans (s5.below.mono kAll.size))
  obtain ⟨g, o, cap, rfl, hcap, hg, hAt⟩ := d5.open' (by rw [List.length_append]; omega)
  have hAl := Lib.hid (hAt.left.rd (cap := cap) hg)
  have hAr := Lib.hid hAt.right
  rw [List.length_append] at hcap
  rw [List.length_append]
  obtain ⟨mm, hmm⟩ : ∃ mm, mm = T.length := ⟨_, rfl⟩
  rw [← hmm] at hcap hpos HPT ⊢
  rw [← HN.out] at hcap f1b hAl hAr ⊢
  rw [← HMm.out] at f2b ⊢
  have hcn : ¬ cap = n := by omega
  have hcni : (n : Int) + (mm : Int) ≤ (cap : Int) := by omega
  clear hmm d5 s5 kAll k1 k2 f1 hAt HZZ HC1 HC2 hT HZ s5s k2s
  go_wp2_with fail
  refine (HSM.out w5 _ _ hAl.out f1b.out.rd).mono ?_
  rintro e w6 ⟨rfl, q, h⟩
  replace h := h.symm
  subst h
  clear HSM hAl f1b
  have hAq : At (w5.drewN q) g (o + n) T := hAr.out
  have HPT' := Lib.hid (HPT.out (w5.drewN q) g (o + n) (cap - n) hAq hg (by omega))
  clear hAq HPT
  go_wp2_with fail
  refine HPT'.out.mono ?_
  rintro e w7 ⟨rfl, h⟩
  replace h := h.symm
  subst h
  clear HPT' hAr HSV
  go_wp2_with fail
  refine (HB8.out (w5.drewN q)).mono ?_
  rintro e w8 ⟨rfl, hb8⟩
  replace hb8 : Below w5.heap.size w5 w8 := (below_drewN (Below.refl _ _) q).trans hb8
  have f8 : Full w5.heap.size w8 _ t := f2b.out.on hb8
  clear HB8 f2b
  go_wp2_with fail
  refine (HP8.out w8 _ (f8.rd.mono hb8.size)).mono ?_
  rintro e w9 ⟨rfl, hb9⟩
  have hB9 := Lib.hid ((hb5.out.trans (hb8.mono hb5.out.size)).trans (hb9.mono (Nat.le_trans hb5.out.size hb8.size)))
  clear HP8 f8 hb8 hb9 hb5
  go_wp2
  go_ret
  exact ⟨rfl, hB9.out⟩

set_option maxHeartbeats 3200000 in
set_option maxRecDepth 100000 in
theorem law4_dec9 (v x : Value) (l t : List UInt8) (w : World) (a4 a6 : Addr) (hz : Zs w.heap.size w a4 a6) (hv : Rd w.heap.size w v l) (hx : Rd w.heap.size w x t) (hl : l.length ≤ 524288) (ht : t.length ≤ 524288)
    (htab : Lib.TabIs Tryd.prog w powName .u64 Lib.pow10Tab) (hA : t.length ≠ 4 ∧ t.length ≠ 16) :
    Calls Tryd.prog 4 #[v, .int .u8 9, x] w fun e w' => e = .returned (.bool true) ∧ Below w.heap.size w w' := by
  have hT : Hid (Lib.TabBelow Tryd.prog w.heap.size w powName .u64 Lib.pow10Tab) := Lib.tabBelow_of_tabIs htab
  have HZ := Lib.hid hz
  have HC1 := Lib.hid (clone_any w v l hv (by omega))
  have HC2 := Lib.hid (fun (W : World) (hb : Below w.heap.size w W) => clone_any W x t ((hx.on hb).mono hb.size) (by omega))
  have HZZ := Lib.hid (fun (W : World) (p y : Value) (z : Zs W.heap.size W a4 a6) (tb : Lib.TabIs Tryd.prog W powName .u64 Lib.pow10Tab) (d : Dst W.heap.size W p l) (r : Rd W.heap.size W y t) => zz9 W.heap.size 9 a4 a6 p l y t W z tb d r (Nat.le_refl _) (by omega) (by omega))
  have htn : notn 9 t = Lib.decDigits (l8 t) := by unfold notn; rw [if_neg (by omega), if_neg (by omega), if_neg (by omega)]
  rw [htn] at HZZ
  have hpos : 0 < (Lib.decDigits (l8 t)).length := (decDigits_len20 (l8 t) (l8_lt t)).1
  have HPT := Lib.hid (fun (W : World) (b o cap : Nat) (h : At W b o (Lib.decDigits (l8 t))) (_ : b < W.heap.size) (_ : (Lib.decDigits (l8 t)).length ≤ cap) => pdec_any W b o cap (l8 t) (l8_lt t) h)
  obtain ⟨N, hNe⟩ : ∃ N : Int, N = (l8 t : Int) := ⟨_, rfl⟩
  rw [← hNe] at HPT
  have HB8 := Lib.hid (fun W => be8_any W t N hNe)
  have HP8 := Lib.hid (fun (W : World) (y : Value) (r : Rd W.heap.size W y t) => pad8_any W y t r (by omega))
  obtain ⟨f, hf⟩ : ∃ f : Nat → Int, f = fun k => ((pb t k).toNat : Int) := ⟨_, rfl⟩
  rw [← hf] at HB8 HP8
  simp only [agg8] at HB8 HP8
  have hq40 := eq40 f
  clear hNe hf
  have HSM := Lib.hid (fun (W : World) (p q : Value) (h1 : Rd W.heap.size W p l) (h2 : Rd W.heap.size W q l) => same_any W.heap.size W p q l h1 h2 (by omega))
  have HSV := Lib.hid (fun (W : World) (p q : Value) (h1 : Rd W.heap.size W p t) (h2 : Rd W.heap.size W q t) => same_any W.heap.size W p q t h1 h2 (by omega))
  obtain ⟨T, hTe⟩ : ∃ T, T = Lib.decDigits (l8 t) := ⟨_, rfl⟩
  rw [← hTe] at HZZ hpos HPT
  obtain ⟨a1, b1, o1, cap1, rfl, _, _⟩ := hv
  obtain ⟨a2, b2, o2, cap2, rfl, _, _⟩ := hx
  obtain ⟨n, hn⟩ : ∃ n, n = l.length := ⟨_, rfl⟩
  have HN := Lib.hid hn
  obtain ⟨m, hm⟩ : ∃ m, m = t.length := ⟨_, rfl⟩
  have HMm := Lib.hid hm
  rw [← hn] at hl HC1 ⊢
  rw [← hm] at ht HC2 ⊢
  have hnm : (n : Int) + (m : Int) ≤ 1048576 := by omega
  have hm4 : ((m : Int) == 4) = false := beq_eq_false_iff_ne.2 (by omega)
  have hm16 : ((m : Int) == 16) = false := beq_eq_false_iff_ne.2 (by omega)
  clear hA
  clear htab hz hn hTe htn hm
  go_enter Tryd.func4, Tryd.ntmps4
  go_wp2_with (first | (go_at_call 11; go_in) | fail)
  refine HC1.out.mono ?_
  rintro e w1 ⟨v1, rfl, f1, k1⟩
  go_wp2_with fail
  refine (HC2.out w1 k1).mono ?_
  rintro e w2 ⟨v2, rfl, f2, k2⟩
  have kAll : Below w.heap.size w w2 := k1.trans (k2.mono k1.size)
  have k2s := k2.size
  have f1a := f1.on k2
  go_wp2_with fail
  refine (HZZ.out w2 v1 v2 (Zs.up (HZ.out.on kAll) kAll.size) (hT.out w2 kAll) (f1a.dst _) f2.rd).mono ?_
  rintro e w5 ⟨v5, rfl, d5, s5⟩
  have s5s := s5.size
  have f1b := Lib.hid (((f1a.mono k2s).on s5.below).mono s5s)
  have f2b := Lib.hid ((f2.on s5.below).mono s5s)
  obtain ⟨a1', b1', rfl, _, _⟩ := f1a
  obtain ⟨a2', b2', rfl, _, _⟩ := f2
  have hb5 := Lib.hid (kAll.trans (s5.below.mono kAll.size))
  obtain ⟨g, o, cap, rfl, hcap, hg, hAt⟩ := d5.open' (by rw [List.length_append]; omega)
  have hAl := Lib.hid (hAt.left.rd (cap := cap) hg)
  have hAr := Lib.hid hAt.right
  rw [List.length_append] at hcap
  rw [List.length_append]
  obtain ⟨mm, hmm⟩ : ∃ mm, mm = T.length := ⟨_, rfl⟩
  rw [← hmm] at hcap hpos HPT ⊢
  rw [← HN.out] at hcap f1b hAl hAr ⊢
  rw [← HMm.out] at f2b ⊢
  have hcn : ¬ cap = n := by omega
  have hcni : (n : Int) + (mm : Int) ≤ (cap : Int) := by omega
  clear hmm d5 s5 kAll k1 k2 f1 hAt HZZ HC1 HC2 hT HZ s5s k2s
  go_wp2_with fail
  refine (HSM.out w5 _ _ hAl.out f1b.out.rd).mono ?_
  rintro e w6 ⟨rfl, q, h⟩
  replace h := h.symm
  subst h
  clear HSM hAl f1b
  have hAq : At (w5.drewN q) g (o + n) T := hAr.out
  have HPT' := Lib.hid (HPT.out (w5.drewN q) g (o + n) (cap - n) hAq hg (by omega))
  clear hAq HPT
  go_wp2_with fail
  refine HPT'.out.mono ?_
  rintro e w7 ⟨rfl, h⟩
  replace h := h.symm
  subst h
  clear HPT' hAr HSV
  go_wp2_with fail
  refine (HB8.out (w5.drewN q)).mono ?_
  rintro e w8 ⟨rfl, hb8⟩
  replace hb8 : Below w5.heap.size w5 w8 := (below_drewN (Below.refl _ _) q).trans hb8
  have f8 : Full w5.heap.size w8 _ t := f2b.out.on hb8
  clear HB8 f2b
  go_wp2_with fail
  refine (HP8.out w8 _ (f8.rd.mono hb8.size)).mono ?_
  rintro e w9 ⟨rfl, hb9⟩
  have hB9 := Lib.hid ((hb5.out.trans (hb8.mono hb5.out.size)).trans (hb9.mono (Nat.le_trans hb5.out.size hb8.size)))
  clear HP8 f8 hb8 hb9 hb5
  go_wp2
  go_ret
  exact ⟨rfl, hB9.out⟩
end Go.Proofs.Qxb6604517aDoor
