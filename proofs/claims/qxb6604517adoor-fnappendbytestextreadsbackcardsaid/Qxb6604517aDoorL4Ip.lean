import Derived.Test.Qxb6604517aDoorRead18
namespace Go.Proofs.Qxb6604517aDoor
open Go.RowKit

set_option maxHeartbeats 3200000 in
set_option maxRecDepth 100000 in
theorem law4_ip8 (v x : Value) (l t : List UInt8) (w : World) (a4 a6 : Addr) (hz : Zs w.heap.size w a4 a6) (hv : Rd w.heap.size w v l) (hx : Rd w.heap.size w x t) (hl : l.length ≤ 524288) (ht : t.length ≤ 524288)
    (htab : Lib.TabIs Tryd.prog w powName .u64 Lib.pow10Tab) (ht4 : t.length = 16) :
    Calls Tryd.prog 4 #[v, .int .u8 8, x] w fun e w' => e = .returned (.bool true) ∧ Below w.heap.size w w' := by
  have hT : Hid (Lib.TabBelow Tryd.prog w.heap.size w powName .u64 Lib.pow10Tab) := Lib.tabBelow_of_tabIs htab
  have HZ := Lib.hid hz
  have HC1 := Lib.hid (clone_any w v l hv (by omega))
  have HC2 := Lib.hid (fun (W : World) (hb : Below w.heap.size w W) => clone_any W x t ((hx.on hb).mono hb.size) (by omega))
  have HZZ := Lib.hid (fun (W : World) (p y : Value) (z : Zs W.heap.size W a4 a6) (tb : Lib.TabIs Tryd.prog W powName .u64 Lib.pow10Tab) (d : Dst W.heap.size W p l) (r : Rd W.heap.size W y t) => zz9 W.heap.size 8 a4 a6 p l y t W z tb d r (Nat.le_refl _) (by omega) (by omega))
  have htn : notn 8 t = ipText t := by unfold notn; rw [if_neg (by omega), if_pos ⟨by omega, ht4⟩]
  rw [htn] at HZZ
  have hpos : 0 < (ipText t).length := ipText_pos t
  have HPT := Lib.hid (fun (W : World) (b o cap : Nat) (h : At W b o (ipText t)) (hb : b < W.heap.size) (hc : (ipText t).length ≤ cap) => pv6_any W b o cap t ht4 h hb hc)
  have HSM := Lib.hid (fun (W : World) (p q : Value) (h1 : Rd W.heap.size W p l) (h2 : Rd W.heap.size W q l) => same_any W.heap.size W p q l h1 h2 (by omega))
  have HSV := Lib.hid (fun (W : World) (p q : Value) (h1 : Rd W.heap.size W p t) (h2 : Rd W.heap.size W q t) => same_any W.heap.size W p q t h1 h2 (by omega))
  obtain ⟨T, hTe⟩ : ∃ T, T = ipText t := ⟨_, rfl⟩
  rw [← hTe] at HZZ hpos HPT
  obtain ⟨a1, b1, o1, cap1, rfl, _, _⟩ := hv
  obtain ⟨a2, b2, o2, cap2, rfl, _, _⟩ := hx
  obtain ⟨n, hn⟩ : ∃ n, n = l.length := ⟨_, rfl⟩
  have HN := Lib.hid hn
  obtain ⟨m, hm⟩ : ∃ m, m = t.length := ⟨_, rfl⟩
  have HMm := Lib.hid hm
  rw [← hn] at hl HC1 ⊢
  rw [← hm] at ht HC2 ⊢
  have hnm : (n : Int) + (m : Int) ≤ 1048576 := by omega
  have hm4 : ((m : Int) == 4) = false := beq_eq_false_iff_ne.2 (by omega)
  have hm16 : ((m : Int) == 16) = true := beq_iff_eq.2 (by omega)
  have H4 := Lib.hid ht4
  clear ht4
  clear htab hz hn hTe htn hm
  go_enter Tryd.func4, Tryd.ntmps4
  go_wp2_with (first | (go_at_call 11; go_in) | fail)
  refine HC1.out.mono ?_
  rintro e w1 ⟨v1, rfl, f1, k1⟩
  go_wp2_with fail
  refine (HC2.out w1 k1).mono ?_
  rintro e w2 ⟨v2, rfl, f2, k2⟩
  have kAll : Below w.heap.size w w2 := k1.trans (k2.mono k1.size)
  have k2s := k2.size
  have f1a := f1.on k2
  go_wp2_with fail
  refine (HZZ.out w2 v1 v2 (Zs.up (HZ.out.on kAll) kAll.size) (hT.out w2 kAll) (f1a.dst _) f2.rd).mono ?_
  rintro e w5 ⟨v5, rfl, d5, s5⟩
  have s5s := s5.size
  have f1b := Lib.hid (((f1a.mono k2s).on s5.below).mono s5s)
  have f2b := Lib.hid ((f2.on s5.below).mono s5s)
  obtain ⟨a1', b1', rfl, _, _⟩ := f1a
  obtain ⟨a2', b2', rfl, _, _⟩ := f2
  have hb5 := Lib.hid (kAll.trans (s5.below.mono kAll.size))
  obtain ⟨g, o, cap, rfl, hcap, hg, hAt⟩ := d5.open' (by rw [List.length_append]; omega)
  have hAl := Lib.hid (hAt.left.rd (cap := cap) hg)
  have hAr := Lib.hid hAt.right
  rw [List.length_append] at hcap
  rw [List.length_append]
  obtain ⟨mm, hmm⟩ : ∃ mm, mm = T.length := ⟨_, rfl⟩
  rw [← hmm] at hcap hpos HPT ⊢
  rw [← HN.out] at hcap f1b hAl hAr ⊢
  rw [← HMm.out] at f2b ⊢
  have hcn : ¬ cap = n := by omega
  have hcni : (n : Int) + (mm : Int) ≤ (cap : Int) := by omega
  clear hmm d5 s5 kAll k1 k2 f1 hAt HZZ HC1 HC2 hT HZ s5s k2s
  go_wp2_with fail
  refine (HSM.out w5 _ _ hAl.out f1b.out.rd).mono ?_
  rintro e w6 ⟨rfl, q, h⟩
  replace h := h.symm
  subst h
  clear HSM hAl f1b
  have hAq : At (w5.drewN q) g (o + n) T := hAr.out
  have HPT' := Lib.hid (HPT.out (w5.drewN q) g (o + n) (cap - n) hAq hg (by omega))
  clear hAq HPT
  go_wp2_with fail
  refine HPT'.out.mono ?_
  rintro e w7 ⟨rfl, hb7⟩
  replace hb7 : Below w5.heap.size w5 w7 := (below_drewN (Below.refl _ _) q).trans hb7
  have hb7s := hb7.size
  have hZ : BN 32 16 .u8 (fun i => ((t.getD i 0).toNat : Int)) w7.heap.size 0 (w7.alloc (.cells #[.int .u8 0, .int .u8 0, .int .u8 0, .int .u8 0, .int .u8 0, .int .u8 0, .int .u8 0, .int .u8 0, .int .u8 0, .int .u8 0, .int .u8 0, .int .u8 0, .int .u8 0, .int .u8 0, .int .u8 0, .int .u8 0] 32)) := BN.fresh w7 #[.int .u8 0, .int .u8 0, .int .u8 0, .int .u8 0, .int .u8 0, .int .u8 0, .int .u8 0, .int .u8 0, .int .u8 0, .int .u8 0, .int .u8 0, .int .u8 0, .int .u8 0, .int .u8 0, .int .u8 0, .int .u8 0] rfl sixteen
  have f7 : Full w5.heap.size w7 _ t := f2b.out.on hb7
  clear HPT' f2b hAr
  go_wp2_with (first | (refine wpl_store16 rfl _ _ rfl w7.heap.size (fun i => ((t.getD i 0).toNat : Int)) rfl rfl hZ ?_; intro W8 hG8 hO8) | fail)
  have bel : Below w7.heap.size w7 W8 := hO8.below _ _ ((Below.refl _ _).alloc (Nat.le_refl _) _) (Nat.le_refl _)
  have f8 := (f7.mono hb7s).on bel
  refine (HSV.out W8 _ _ (hG8.rd H4.out) (f8.rd.mono bel.size)).mono ?_
  rintro e w9 ⟨rfl, q9, h9⟩
  replace h9 := h9.symm
  subst h9
  have hB9 := Lib.hid (below_drewN ((hb5.out.trans (hb7.mono hb5.out.size)).trans (bel.mono (Nat.le_trans hb5.out.size hb7s))) q9)
  clear hO8 hG8 f8 bel f7 hZ hb7 hb7s hb5
  go_wp2
  go_ret
  exact ⟨rfl, hB9.out⟩

set_option maxHeartbeats 3200000 in
set_option maxRecDepth 100000 in
theorem law4_ip9 (v x : Value) (l t : List UInt8) (w : World) (a4 a6 : Addr) (hz : Zs w.heap.size w a4 a6) (hv : Rd w.heap.size w v l) (hx : Rd w.heap.size w x t) (hl : l.length ≤ 524288) (ht : t.length ≤ 524288)
    (htab : Lib.TabIs Tryd.prog w powName .u64 Lib.pow10Tab) (ht4 : t.length = 16) :
    Calls Tryd.prog 4 #[v, .int .u8 9, x] w fun e w' => e = .returned (.bool true) ∧ Below w.heap.size w w' := by
  have hT : Hid (Lib.TabBelow Tryd.prog w.heap.size w powName .u64 Lib.pow10Tab) := Lib.tabBelow_of_tabIs htab
  have HZ := Lib.hid hz
  have HC1 := Lib.hid (clone_any w v l hv (by omega))
  have HC2 := Lib.hid (fun (W : World) (hb : Below w.heap.size w W) => clone_any W x t ((hx.on hb).mono hb.size) (by omega))
  have HZZ := Lib.hid (fun (W : World) (p y : Value) (z : Zs W.heap.size W a4 a6) (tb : Lib.TabIs Tryd.prog W powName .u64 Lib.pow10Tab) (d : Dst W.heap.size W p l) (r : Rd W.heap.size W y t) => zz9 W.heap.size 9 a4 a6 p l y t W z tb d r (Nat.le_refl _) (by omega) (by omega))
  have htn : notn 9 t = ipText t := by unfold notn; rw [if_neg (by omega), if_pos ⟨by omega, ht4⟩]
  rw [htn] at HZZ
  have hpos : 0 < (ipText t).length := ipText_pos t
  have HPT := Lib.hid (fun (W : World) (b o cap : Nat) (h : At W b o (ipText t)) (hb : b < W.heap.size) (hc : (ipText t).length ≤ cap) => pv6_any W b o cap t ht4 h hb hc)
  have HSM := Lib.hid (fun (W : World) (p q : Value) (h1 : Rd W.heap.size W p l) (h2 : Rd W.heap.size W q l) => same_any W.heap.size W p q l h1 h2 (by omega))
  have HSV := Lib.hid (fun (W : World) (p q : Value) (h1 : Rd W.heap.size W p t) (h2 : Rd W.heap.size W q t) => same_any W.heap.size W p q t h1 h2 (by omega))
  obtain ⟨T, hTe⟩ : ∃ T, T = ipText t := ⟨_, rfl⟩
  rw [← hTe] at HZZ hpos HPT
  obtain ⟨a1, b1, o1, cap1, rfl, _, _⟩ := hv
  obtain ⟨a2, b2, o2, cap2, rfl, _, _⟩ := hx
  obtain ⟨n, hn⟩ : ∃ n, n = l.length := ⟨_, rfl⟩
  have HN := Lib.hid hn
  obtain ⟨m, hm⟩ : ∃ m, m = t.length := ⟨_, rfl⟩
  have HMm := Lib.hid hm
  rw [← hn] at hl HC1 ⊢
  rw [← hm] at ht HC2 ⊢
  have hnm : (n : Int) + (m : Int) ≤ 1048576 := by omega
  have hm4 : ((m : Int) == 4) = false := beq_eq_false_iff_ne.2 (by omega)
  have hm16 : ((m : Int) == 16) = true := beq_iff_eq.2 (by omega)
  have H4 := Lib.hid ht4
  clear ht4
  clear htab hz hn hTe htn hm
  go_enter Tryd.func4, Tryd.ntmps4
  go_wp2_with (first | (go_at_call 11; go_in) | fail)
  refine HC1.out.mono ?_
  rintro e w1 ⟨v1, rfl, f1, k1⟩
  go_wp2_with fail
  refine (HC2.out w1 k1).mono ?_
  rintro e w2 ⟨v2, rfl, f2, k2⟩
  have kAll : Below w.heap.size w w2 := k1.trans (k2.mono k1.size)
  have k2s := k2.size
  have f1a := f1.on k2
  go_wp2_with fail
  refine (HZZ.out w2 v1 v2 (Zs.up (HZ.out.on kAll) kAll.size) (hT.out w2 kAll) (f1a.dst _) f2.rd).mono ?_
  rintro e w5 ⟨v5, rfl, d5, s5⟩
  have s5s := s5.size
  have f1b := Lib.hid (((f1a.mono k2s).on s5.below).mono s5s)
  have f2b := Lib.hid ((f2.on s5.below).mono s5s)
  obtain ⟨a1', b1', rfl, _, _⟩ := f1a
  obtain ⟨a2', b2', rfl, _, _⟩ := f2
  have hb5 := Lib.hid (kAll.trans (s5.below.mono kAll.size))
  obtain ⟨g, o, cap, rfl, hcap, hg, hAt⟩ := d5.open' (by rw [List.length_append]; omega)
  have hAl := Lib.hid (hAt.left.rd (cap := cap) hg)
  have hAr := Lib.hid hAt.right
  rw [List.length_append] at hcap
  rw [List.length_append]
  obtain ⟨mm, hmm⟩ : ∃ mm, mm = T.length := ⟨_, rfl⟩
  rw [← hmm] at hcap hpos HPT ⊢
  rw [← HN.out] at hcap f1b hAl hAr ⊢
  rw [← HMm.out] at f2b ⊢
  have hcn : ¬ cap = n := by omega
  have hcni : (n : Int) + (mm : Int) ≤ (cap : Int) := by omega
  clear hmm d5 s5 kAll k1 k2 f1 hAt HZZ HC1 HC2 hT HZ s5s k2s
  go_wp2_with fail
  refine (HSM.out w5 _ _ hAl.out f1b.out.rd).mono ?_
  rintro e w6 ⟨rfl, q, h⟩
  replace h := h.symm
  subst h
  clear HSM hAl f1b
  have hAq : At (w5.drewN q) g (o + n) T := hAr.out
  have HPT' := Lib.hid (HPT.out (w5.drewN q) g (o + n) (cap - n) hAq hg (by omega))
  clear hAq HPT
  go_wp2_with fail
  refine HPT'.out.mono ?_
  rintro e w7 ⟨rfl, hb7⟩
  replace hb7 : Below w5.heap.size w5 w7 := (below_drewN (Below.refl _ _) q).trans hb7
  have hb7s := hb7.size
  have hZ : BN 32 16 .u8 (fun i => ((t.getD i 0).toNat : Int)) w7.heap.size 0 (w7.alloc (.cells #[.int .u8 0, .int .u8 0, .int .u8 0, .int .u8 0, .int .u8 0, .int .u8 0, .int .u8 0, .int .u8 0, .int .u8 0, .int .u8 0, .int .u8 0, .int .u8 0, .int .u8 0, .int .u8 0, .int .u8 0, .int .u8 0] 32)) := BN.fresh w7 #[.int .u8 0, .int .u8 0, .int .u8 0, .int .u8 0, .int .u8 0, .int .u8 0, .int .u8 0, .int .u8 0, .int .u8 0, .int .u8 0, .int .u8 0, .int .u8 0, .int .u8 0, .int .u8 0, .int .u8 0, .int .u8 0] rfl sixteen
  have f7 : Full w5.heap.size w7 _ t := f2b.out.on hb7
  clear HPT' f2b hAr
  go_wp2_with (first | (refine wpl_store16 rfl _ _ rfl w7.heap.size (fun i => ((t.getD i 0).toNat : Int)) rfl rfl hZ ?_; intro W8 hG8 hO8) | fail)
  have bel : Below w7.heap.size w7 W8 := hO8.below _ _ ((Below.refl _ _).alloc (Nat.le_refl _) _) (Nat.le_refl _)
  have f8 := (f7.mono hb7s).on bel
  refine (HSV.out W8 _ _ (hG8.rd H4.out) (f8.rd.mono bel.size)).mono ?_
  rintro e w9 ⟨rfl, q9, h9⟩
  replace h9 := h9.symm
  subst h9
  have hB9 := Lib.hid (below_drewN ((hb5.out.trans (hb7.mono hb5.out.size)).trans (bel.mono (Nat.le_trans hb5.out.size hb7s))) q9)
  clear hO8 hG8 f8 bel f7 hZ hb7 hb7s hb5
  go_wp2
  go_ret
  exact ⟨rfl, hB9.out⟩
end Go.Proofs.Qxb6604517aDoor
