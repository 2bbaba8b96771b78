import Derived.Test.Qxb6602894aDoorOpen
namespace Go.Proofs.Qxb6602894aDoor
open Go.RowKit

theorem cut_len (p f : Nat) : (cut p f).length ≤ p := by
  induction p generalizing f with
  | zero => simp [cut]
  | succ p ih =>
    rw [cut]
    split
    · exact Nat.le_succ_of_le (ih _)
    · rw [pad_len]; omega

theorem below_drewN {B : Nat} (w : World) (k : Nat) : Below B w (w.drewN k) := ⟨rfl, rfl, rfl, Nat.le_refl _, fun _ _ => rfl⟩

set_option maxHeartbeats 3200000 in
set_option maxRecDepth 100000 in
theorem law3_far (a : Option Addr) (n cap : Nat) (neg : Bool) (U F P : Int) (w : World) (hn : n ≤ 9223372036854775807)
    (h : 65536 < n ∨ P < 0 ∨ 8 < P ∨ ∃ p : Nat, P = (p : Int) ∧ p ≤ 8 ∧ ((10 ^ p : Nat) : Int) ≤ F) :
    Calls Tryd.prog 3 #[.slice a n cap, .bool neg, .int .u64 U, .int .u64 F, .int .i64 P] w fun e w' => e = .returned (.bool true) ∧ w' = w := by
  by_cases h1 : 1048576 < n
  · clear h
    go_enter Tryd.func3, Tryd.ntmps3
    go_wp2
    go_ret
    exact ⟨rfl, rfl⟩
  · by_cases h2 : 65536 < n
    · clear h
      go_enter Tryd.func3, Tryd.ntmps3
      go_wp2
      go_ret
      exact ⟨rfl, rfl⟩
    · by_cases h3 : P < 0
      · clear h
        go_enter Tryd.func3, Tryd.ntmps3
        go_wp2
        go_ret
        exact ⟨rfl, rfl⟩
      · by_cases h4 : 8 < P
        · clear h
          go_enter Tryd.func3, Tryd.ntmps3
          go_wp2
          go_ret
          exact ⟨rfl, rfl⟩
        · obtain ⟨p, rfl, h5, h6⟩ : ∃ p : Nat, P = (p : Int) ∧ p ≤ 8 ∧ ((10 ^ p : Nat) : Int) ≤ F := by
            rcases h with h | h | h | h
            · omega
            · omega
            · omega
            · exact h
          have hp := fun W => pow_any p (by omega) W
          have hb := pow_bound p (by omega)
          obtain ⟨Q, hQ⟩ : ∃ Q : Int, Q = ((10 ^ p : Nat) : Int) := ⟨_, rfl⟩
          rw [← hQ] at hb h6
          rw [← hQ] at hp
          clear hQ
          go_enter Tryd.func3, Tryd.ntmps3
          go_wp2_with (first | (go_at_call 6; refine (hp _).mono ?_; rintro e w' ⟨rfl, h⟩; replace h := h.symm; subst h) | go_in)
          go_ret
          exact ⟨rfl, rfl⟩

set_option maxHeartbeats 3200000 in
set_option maxRecDepth 100000 in
theorem law3_near (v : Value) (l : List UInt8) (neg : Bool) (u f p : Nat) (w : World) (hv : Rd w.heap.size w v l) (hl : l.length ≤ 65536) (hu : u < 18446744073709551616) (hp8 : p ≤ 8) (hf : f < 10 ^ p)
    (htab : Lib.TabIs Tryd.prog w powName .u64 Lib.pow10Tab) :
    Calls Tryd.prog 3 #[v, .bool neg, .int .u64 (u : Int), .int .u64 (f : Int), .int .i64 (p : Int)] w fun e w' => e = .returned (.bool true) ∧ Below w.heap.size w w' := by
  have hclone := clone_any w v l hv (by omega)
  obtain ⟨a0, b0, o0, cap, rfl, _, _⟩ := hv
  have hp := fun W => pow_any p (by omega) W
  have hb := pow_bound p (by omega)
  have hfp : (f : Int) < ((10 ^ p : Nat) : Int) := by omega
  obtain ⟨Q, hQ⟩ : ∃ Q : Int, Q = ((10 ^ p : Nat) : Int) := ⟨_, rfl⟩
  rw [← hQ] at hb hfp
  rw [← hQ] at hp
  obtain ⟨n, hn⟩ : ∃ n, n = l.length := ⟨_, rfl⟩
  rw [← hn] at hl hclone ⊢
  obtain ⟨i0, hi, hz0, hz1, hz2⟩ := info_parts infoByte
  have hT : Hid (Lib.TabBelow Tryd.prog w.heap.size w powName .u64 Lib.pow10Tab) := Lib.tabBelow_of_tabIs htab
  have hzz := fun (W : World) (v : Value) (h1 : Dst W.heap.size W v l) (h2 : Lib.TabBelow Tryd.prog W.heap.size W powName .u64 Lib.pow10Tab) => zz10 W.heap.size neg u f p hu hp8 hf v l W h1 (Nat.le_refl _) (by omega) h2
  have hud := fun (B : Nat) (W : World) (v : Value) (l' : List UInt8) (h1 : Dst B W v l') (h2 : B ≤ W.heap.size) (h3 : l'.length ≤ 1000000000) => udec_any B W v l' u (u : Int) rfl h1 h2 hu h3
  have hfr := fun (h0 : 0 < f) (B : Nat) (W : World) (v : Value) (l' : List UInt8) (h1 : Dst B W v l') (h2 : B ≤ W.heap.size) (h3 : l'.length ≤ 1000000000) => frac_any B W v l' f p (f : Int) (p : Int) rfl rfl hp8 h0 hf h1 h2 h3
  have hsame := fun (W : World) (x y : Value) (h1 : Rd W.heap.size W x (l ++ fixedText neg u f p)) (h2 : Rd W.heap.size W y (l ++ fixedText neg u f p)) (h3 : (l ++ fixedText neg u f p).length ≤ 1099511627776) => same_any W.heap.size W x y _ h1 h2 h3
  have hfz : f = 0 ↔ (f : Int) = 0 := by omega
  obtain ⟨UI, hUI⟩ : ∃ U : Int, U = (u : Int) := ⟨_, rfl⟩
  obtain ⟨FI, hFI⟩ : ∃ U : Int, U = (f : Int) := ⟨_, rfl⟩
  have hlu := decDigits_len20 u hu
  have hU0 : 0 ≤ UI := by omega
  have hF0 : 0 ≤ FI := by omega
  rw [← hUI] at hud ⊢
  rw [← hUI] at hzz
  rw [← hFI] at hfr ⊢
  rw [← hFI] at hzz hfp hfz
  have HN := Lib.hid hn
  clear hUI hFI hn hQ hu htab
  go_enter Tryd.func3, Tryd.ntmps3
  go_wp2_with (first | (go_at_call 6; refine (hp _).mono ?_; rintro e w' ⟨rfl, h⟩; replace h := h.symm; subst h) | (go_at_call 5; go_in) | fail)
  refine hclone.mono ?_
  rintro e w1 ⟨v1, rfl, full, hb1⟩
  clear hclone hp hb hfp
  have FU := Lib.hid full
  obtain ⟨a1, b1, rfl, g1, g2⟩ := full
  rw [← HN.out] at FU ⊢
  go_wp2_with (at_make; refine wpList_make_own _ rfl _ _ 22 rfl w1.heap.size 5 i0 (.int .u8 0) 1 Tryd.underlying22 hi hz0 hz1 .i64 .i64 _ (n + 48) rfl rfl (by omega) (by rw [hz2]; omega) (by unfold maxLen; omega) (Nat.le_refl _) ?_)
  intro w2 hown hgrow
  have hb2 : Below w1.heap.size w1 w2 := (Below.refl _ _).grown hgrow (Nat.le_refl _) (fun k hk => by cases hk)
  have hown2 : Dst w1.heap.size w2 (.slice (some ⟨w1.heap.size, 0, none⟩) 0 (n + 48)) (l.take 0) := Or.inl hown
  clear hown hgrow
  go_wp2
  go_loopw [11, 12] (fun d i wr => ∃ k : Nat, k ≤ n ∧ i = .int .i64 k ∧ Dst w1.heap.size wr d (l.take k) ∧ Below w1.heap.size w1 wr) (fun _ i _ => n - (intOf i).toNat)
  case atStart => exact ⟨0, Nat.zero_le _, rfl, hown2, hb2⟩
  case round =>
    obtain ⟨k, hk, rfl, hd, hbr⟩ := hrel
    clear hown2 hb2
    by_cases hlt : k < n
    · have hkl : k < l.length := by rw [← HN.out]; exact hlt
      have ha := (g1 (by omega)).1
      cases ha
      have hcell : wr.cell? ⟨b1, k, none⟩ = some (.int .u8 (l[k].toNat : Int)) := by
        rw [hbr.cell (p := ⟨b1, k, none⟩) (g1 (by omega)).2]; exact g2 k hkl
      have HL := Lib.hid (List.take_succ_eq_append_getElem hkl)
      have hlk : (l.take k).length ≤ 65536 := by rw [List.length_take]; omega
      have HB1 := Lib.hid hbr.size
      clear g1 g2
      go_wp2_with (at_builtin; refine wpList_append1 rfl _ _ rfl w1.heap.size _ (l.take k) rfl hd HB1.out _ _ rfl (l.take (k + 1)) HL.out rfl (by omega) ?_)
      intro v3 w3 o3 b3
      go_wp2
      go_roundw
      case rel => exact ⟨k + 1, by omega, by go_num, Dst.own o3, hbr.trans b3.below⟩
      case measure => simp [intOf]; omega
    · obtain rfl : k = n := by omega
      rw [List.take_of_length_le (Nat.le_of_eq HN.out.symm)] at hd
      clear g1 g2 hlt
      have HBr := Lib.hid hbr.size
      cases neg with
      | true =>
        obtain ⟨L1, hL1⟩ : ∃ L, L = l ++ [45] := ⟨_, rfl⟩
        have hl1 : L1.length ≤ 65537 := by rw [hL1]; simp; rw [← HN.out]; omega
        have HL1 := Lib.hid hL1
        have hFT : l ++ fixedText true u f p = L1 ++ Lib.decDigits u ++ (if f = 0 then [] else 46 :: cut p f) := by rw [hL1]; simp [fixedText]
        have HFT := Lib.hid hFT
        have hl0 : l.length ≤ 65536 := by rw [← HN.out]; omega
        clear hL1 hFT
        go_wp2_with (at_builtin; refine wpList_append1 rfl _ _ rfl w1.heap.size _ l rfl hd HBr.out 45 45 rfl L1 HL1.out rfl (by omega) ?_)
        intro v3 w3 o3 b3
        have hd3 := Dst.own o3
        have hbr3 := hbr.trans b3.below
        have hb3 := hbr3.size
        clear hd hbr HBr o3 b3
        go_wp2_with fail
        refine (hud _ _ _ L1 hd3 hb3 (by omega)).mono ?_
        rintro e w4 ⟨v4, rfl, hd4, b4⟩
        have hbr4 := hbr3.trans b4.below
        have hb4 := hbr4.size
        by_cases hf0 : f = 0
        · obtain rfl : FI = 0 := hfz.1 hf0
          rw [if_pos hf0, List.append_nil] at HFT
          rw [← HFT.out] at hd4
          clear hd3 hb3 hud hfr
          go_wp2_with fail
          refine (hzz w4 _ ((FU.out.on hbr4).dst _) (fun w' hb => hT.out w' ((hb1.trans (hbr4.mono hb1.size)).trans (hb.mono (Nat.le_trans hb1.size hb4))))).mono ?_
          rintro e w5 ⟨v5, rfl, o5, b5⟩
          go_wp2_with fail
          refine (hsame w5 _ _ (Rd.own o5) (((Rd.dst hd4).on b5.below).mono b5.size) (by rw [HFT.out, List.length_append]; omega)).mono ?_
          rintro e w6 ⟨rfl, q, rfl⟩
          go_wp2
          go_ret
          exact ⟨rfl, (((hb1.trans (hbr4.mono hb1.size)).trans (b5.below.mono (Nat.le_trans hb1.size hb4)))).trans (below_drewN _ _)⟩
        · have hFI0 : FI ≠ 0 := fun h => hf0 (hfz.2 h)
          rw [if_neg hf0] at HFT
          have hl4 : (L1 ++ Lib.decDigits u).length ≤ 1000000000 := by rw [List.length_append]; omega
          have hfr' := Lib.hid (hfr (by omega))
          have hlF : (l ++ fixedText true u f p).length ≤ 1099511627776 := by
            rw [HFT.out, List.length_append, List.length_cons]
            have := cut_len p f
            omega
          clear hd3 hb3 hud hfr hlu hl1
          go_wp2_with fail
          refine (hfr'.out _ _ _ _ hd4 hb4 hl4).mono ?_
          rintro e w4b ⟨v4b, rfl, hd4b, b4b⟩
          have hbr4b := hbr4.trans b4b.below
          have hb4b := hbr4b.size
          rw [← HFT.out] at hd4b
          clear hd4 hb4 hfr' hl4
          go_wp2_with fail
          refine (hzz w4b _ ((FU.out.on hbr4b).dst _) (fun w' hb => hT.out w' ((hb1.trans (hbr4b.mono hb1.size)).trans (hb.mono (Nat.le_trans hb1.size hb4b))))).mono ?_
          rintro e w5 ⟨v5, rfl, o5, b5⟩
          go_wp2_with fail
          refine (hsame w5 _ _ (Rd.own o5) (((Rd.dst hd4b).on b5.below).mono b5.size) hlF).mono ?_
          rintro e w6 ⟨rfl, q, rfl⟩
          go_wp2
          go_ret
          exact ⟨rfl, (((hb1.trans (hbr4b.mono hb1.size)).trans (b5.below.mono (Nat.le_trans hb1.size hb4b)))).trans (below_drewN _ _)⟩
      | false =>
        obtain ⟨L1, hL1⟩ : ∃ L, L = l := ⟨_, rfl⟩
        have hl1 : L1.length ≤ 65537 := by rw [hL1, ← HN.out]; omega
        have hFT : l ++ fixedText false u f p = L1 ++ Lib.decDigits u ++ (if f = 0 then [] else 46 :: cut p f) := by rw [hL1]; simp [fixedText]
        have HFT := Lib.hid hFT
        have hd3 := hd
        rw [← hL1] at hd3
        have hbr3 := hbr
        have hb3 := hbr3.size
        clear hL1 hFT hd hbr HBr
        go_wp2_with fail
        refine (hud _ _ _ L1 hd3 hb3 (by omega)).mono ?_
        rintro e w4 ⟨v4, rfl, hd4, b4⟩
        have hbr4 := hbr3.trans b4.below
        have hb4 := hbr4.size
        by_cases hf0 : f = 0
        · obtain rfl : FI = 0 := hfz.1 hf0
          rw [if_pos hf0, List.append_nil] at HFT
          rw [← HFT.out] at hd4
          clear hd3 hb3 hud hfr
          go_wp2_with fail
          refine (hzz w4 _ ((FU.out.on hbr4).dst _) (fun w' hb => hT.out w' ((hb1.trans (hbr4.mono hb1.size)).trans (hb.mono (Nat.le_trans hb1.size hb4))))).mono ?_
          rintro e w5 ⟨v5, rfl, o5, b5⟩
          go_wp2_with fail
          refine (hsame w5 _ _ (Rd.own o5) (((Rd.dst hd4).on b5.below).mono b5.size) (by rw [HFT.out, List.length_append]; omega)).mono ?_
          rintro e w6 ⟨rfl, q, rfl⟩
          go_wp2
          go_ret
          exact ⟨rfl, (((hb1.trans (hbr4.mono hb1.size)).trans (b5.below.mono (Nat.le_trans hb1.size hb4)))).trans (below_drewN _ _)⟩
        · have hFI0 : FI ≠ 0 := fun h => hf0 (hfz.2 h)
          rw [if_neg hf0] at HFT
          have hl4 : (L1 ++ Lib.decDigits u).length ≤ 1000000000 := by rw [List.length_append]; omega
          have hfr' := Lib.hid (hfr (by omega))
          have hlF : (l ++ fixedText false u f p).length ≤ 1099511627776 := by
            rw [HFT.out, List.length_append, List.length_cons]
            have := cut_len p f
            omega
          clear hd3 hb3 hud hfr hlu hl1
          go_wp2_with fail
          refine (hfr'.out _ _ _ _ hd4 hb4 hl4).mono ?_
          rintro e w4b ⟨v4b, rfl, hd4b, b4b⟩
          have hbr4b := hbr4.trans b4b.below
          have hb4b := hbr4b.size
          rw [← HFT.out] at hd4b
          clear hd4 hb4 hfr' hl4
          go_wp2_with fail
          refine (hzz w4b _ ((FU.out.on hbr4b).dst _) (fun w' hb => hT.out w' ((hb1.trans (hbr4b.mono hb1.size)).trans (hb.mono (Nat.le_trans hb1.size hb4b))))).mono ?_
          rintro e w5 ⟨v5, rfl, o5, b5⟩
          go_wp2_with fail
          refine (hsame w5 _ _ (Rd.own o5) (((Rd.dst hd4b).on b5.below).mono b5.size) hlF).mono ?_
          rintro e w6 ⟨rfl, q, rfl⟩
          go_wp2
          go_ret
          exact ⟨rfl, (((hb1.trans (hbr4b.mono hb1.size)).trans (b5.below.mono (Nat.le_trans hb1.size hb4b)))).trans (below_drewN _ _)⟩
end Go.Proofs.Qxb6602894aDoor
