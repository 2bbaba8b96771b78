import Derived.Test.Qxb6602894aDoorParse
namespace Go.Proofs.Qxb6602894aDoor
open Go.RowKit

theorem parse_any (w : World) (b o cap : Nat) (neg : Bool) (u f p : Nat) (hu : u < 18446744073709551616) (hp8 : p ≤ 8) (hf : f < 10 ^ p) (hA : At w b o (fixedText neg u f p)) :
    Calls Tryd.prog 13 #[.slice (some ⟨b, o, none⟩) (fixedText neg u f p).length cap, .int .i64 (p : Int)] w fun e w' => e = .returned (.tuple #[.bool neg, .int .u64 (u : Int), .int .u64 (f : Int), .bool true]) ∧ w' = w := by
  cases neg with
  | true => exact parse_neg w b o cap u f p hu hp8 hf hA
  | false => exact parse_pos w b o cap u f p hu hp8 hf hA

theorem fixed_pos (neg : Bool) (u f p : Nat) (hu : u < 18446744073709551616) : 0 < (fixedText neg u f p).length := by
  have := decDigits_len20 u hu
  simp [fixedText]; omega

theorem fixed_le (neg : Bool) (u f p : Nat) (hu : u < 18446744073709551616) (hp8 : p ≤ 8) : (fixedText neg u f p).length ≤ 40 := by
  have := decDigits_len20 u hu
  have := cut_len p f
  unfold fixedText
  split <;> split <;> simp <;> omega

set_option maxHeartbeats 3200000 in
set_option maxRecDepth 100000 in
theorem law4_far (a : Option Addr) (n cap : Nat) (neg : Bool) (U F P : Int) (w : World) (hn : n ≤ 9223372036854775807)
    (h : 65536 < n ∨ P < 0 ∨ 8 < P ∨ ∃ p : Nat, P = (p : Int) ∧ p ≤ 8 ∧ ((10 ^ p : Nat) : Int) ≤ F) :
    Calls Tryd.prog 4 #[.slice a n cap, .bool neg, .int .u64 U, .int .u64 F, .int .i64 P] w fun e w' => e = .returned (.bool true) ∧ w' = w := by
  by_cases h1 : 1048576 < n
  · clear h
    go_enter Tryd.func4, Tryd.ntmps4
    go_wp2
    go_ret
    exact ⟨rfl, rfl⟩
  · by_cases h2 : 65536 < n
    · clear h
      go_enter Tryd.func4, Tryd.ntmps4
      go_wp2
      go_ret
      exact ⟨rfl, rfl⟩
    · by_cases h3 : P < 0
      · clear h
        go_enter Tryd.func4, Tryd.ntmps4
        go_wp2
        go_ret
        exact ⟨rfl, rfl⟩
      · by_cases h4 : 8 < P
        · clear h
          go_enter Tryd.func4, Tryd.ntmps4
          go_wp2
          go_ret
          exact ⟨rfl, rfl⟩
        · obtain ⟨p, rfl, h5, h6⟩ : ∃ p : Nat, P = (p : Int) ∧ p ≤ 8 ∧ ((10 ^ p : Nat) : Int) ≤ F := by
            rcases h with h | h | h | h
            · omega
            · omega
            · omega
            · exact h
          have hp := fun W => pow_any p (by omega) W
          have hb := pow_bound p (by omega)
          obtain ⟨Q, hQ⟩ : ∃ Q : Int, Q = ((10 ^ p : Nat) : Int) := ⟨_, rfl⟩
          rw [← hQ] at hb h6
          rw [← hQ] at hp
          clear hQ
          go_enter Tryd.func4, Tryd.ntmps4
          go_wp2_with (first | (go_at_call 6; refine (hp _).mono ?_; rintro e w' ⟨rfl, h⟩; replace h := h.symm; subst h) | go_in)
          go_ret
          exact ⟨rfl, rfl⟩

set_option maxHeartbeats 3200000 in
set_option maxRecDepth 100000 in
theorem law4_near (v : Value) (l : List UInt8) (neg : Bool) (u f p : Nat) (w : World) (hv : Rd w.heap.size w v l) (hl : l.length ≤ 65536) (hu : u < 18446744073709551616) (hp8 : p ≤ 8) (hf : f < 10 ^ p)
    (htab : Lib.TabIs Tryd.prog w powName .u64 Lib.pow10Tab) :
    Calls Tryd.prog 4 #[v, .bool neg, .int .u64 (u : Int), .int .u64 (f : Int), .int .i64 (p : Int)] w fun e w' => e = .returned (.bool true) ∧ Below w.heap.size w w' := by
  have hclone := clone_any w v l hv (by omega)
  obtain ⟨a0, b0, o0, cap, rfl, _, _⟩ := hv
  have hp := fun W => pow_any p (by omega) W
  have hb := pow_bound p (by omega)
  have hfp : (f : Int) < ((10 ^ p : Nat) : Int) := by omega
  obtain ⟨Q, hQ⟩ : ∃ Q : Int, Q = ((10 ^ p : Nat) : Int) := ⟨_, rfl⟩
  rw [← hQ] at hb hfp
  rw [← hQ] at hp
  obtain ⟨n, hn⟩ : ∃ n, n = l.length := ⟨_, rfl⟩
  rw [← hn] at hl hclone ⊢
  have hT : Hid (Lib.TabBelow Tryd.prog w.heap.size w powName .u64 Lib.pow10Tab) := Lib.tabBelow_of_tabIs htab
  have hzz := fun (W : World) (v : Value) (h1 : Dst W.heap.size W v l) (h2 : Lib.TabBelow Tryd.prog W.heap.size W powName .u64 Lib.pow10Tab) => zz10 W.heap.size neg u f p hu hp8 hf v l W h1 (Nat.le_refl _) (by omega) h2
  have hps := fun (W : World) (b o cap : Nat) (h : At W b o (fixedText neg u f p)) => parse_any W b o cap neg u f p hu hp8 hf h
  have hpos := fixed_pos neg u f p hu
  have hle40 := fixed_le neg u f p hu hp8
  obtain ⟨T, hT0⟩ : ∃ T, T = fixedText neg u f p := ⟨_, rfl⟩
  rw [← hT0] at hpos hle40 hps hzz
  obtain ⟨UI, hUI⟩ : ∃ U : Int, U = (u : Int) := ⟨_, rfl⟩
  obtain ⟨FI, hFI⟩ : ∃ U : Int, U = (f : Int) := ⟨_, rfl⟩
  have hU0 : 0 ≤ UI := by omega
  have hF0 : 0 ≤ FI := by omega
  rw [← hUI, ← hFI]
  rw [← hUI, ← hFI] at hzz hps
  rw [← hFI] at hfp
  have HN := Lib.hid hn
  clear hUI hFI hn hQ hu htab hT0 hf
  go_enter Tryd.func4, Tryd.ntmps4
  go_wp2_with (first | (go_at_call 6; refine (hp _).mono ?_; rintro e w' ⟨rfl, h⟩; replace h := h.symm; subst h) | (go_at_call 12; go_in) | fail)
  refine hclone.mono ?_
  rintro e w1 ⟨v1, rfl, full, hb1⟩
  clear hclone hp hb hfp
  have FU := Lib.hid full
  obtain ⟨a1, b1, rfl, g1, g2⟩ := full
  rw [← HN.out] at FU ⊢
  go_wp2_with fail
  refine (hzz w1 _ (FU.out.dst _) (fun w' hb => hT.out w' (hb1.trans (hb.mono hb1.size)))).mono ?_
  rintro e w2 ⟨v2, rfl, o2, b2⟩
  obtain ⟨a2, g, o, cap2, rfl, k1, k2⟩ := Rd.own o2
  have hcap : (l ++ T).length ≤ cap2 := by
    rcases o2.2 with ⟨hv, h0⟩ | ⟨g', cap', cur, hv, hg, hh, r1, r2⟩
    · rw [List.length_append] at h0; omega
    · cases hv
      exact r1
  obtain ⟨ha, hg⟩ := k1 (by simp; omega)
  cases ha
  clear k1
  have hlen : (l ++ T).length = n + T.length := by rw [List.length_append, HN.out]
  have hAt : At w2 g (o + n) T := by
    have : At w2 g o (l ++ T) := k2
    rw [HN.out]; exact this.right
  have hgl : ∀ k (hk : k < l.length), w2.cell? ⟨g, o + k, none⟩ = some (.int .u8 (l[k].toNat : Int)) := At.left (show At w2 g o (l ++ T) from k2)
  have hol : ∀ k (hk : k < l.length), a1 = some ⟨b1, 0, none⟩ ∧ w2.cell? ⟨b1, k, none⟩ = some (.int .u8 (l[k].toNat : Int)) := fun k hk =>
    ⟨(g1 (by omega)).1, by rw [b2.below.cell (p := ⟨b1, k, none⟩) (g1 (by omega)).2]; exact g2 k hk⟩
  rw [hlen] at hcap
  rw [hlen]
  have hbAll := hb1.trans (b2.below.mono hb1.size)
  have HG := Lib.hid hgl
  have HO := Lib.hid hol
  have HAt := Lib.hid hAt
  obtain ⟨m, hm⟩ : ∃ m, m = T.length := ⟨_, rfl⟩
  rw [← hm] at hcap hpos hle40 hps ⊢
  clear hm hlen k2 hgl hol hAt g1 g2 o2 hzz
  go_wp2
  go_loopw [13] (fun i wr => ∃ k : Nat, k ≤ n ∧ i = .int .i64 k ∧ ∃ q, wr = w2.drewN q) (fun i _ => n - (intOf i).toNat)
  case atStart => exact ⟨0, Nat.zero_le _, rfl, 0, rfl⟩
  case round =>
    obtain ⟨k, hk, rfl, q, rfl⟩ := hrel
    by_cases hlt : k < n
    · have hkl : k < l.length := by rw [← HN.out]; exact hlt
      obtain ⟨ha, hc'⟩ := HO.out k hkl
      cases ha
      have hc := HG.out k hkl
      have hlti : (k : Int) < n := by omega
      have hlti2 : (k : Int) < (n : Int) + (m : Int) := by omega
      generalize (l[k].toNat : Int) = x at hc hc'
      go_wp2
      go_quiet (fail)
      go_wp2
      go_roundw
      case rel => exact ⟨k + 1, by omega, by go_num, _, rfl⟩
      case measure => simp [intOf]; omega
    · have hAtq : At (w2.drewN q) g (o + n) T := HAt.out
      have hps' := Lib.hid (hps (w2.drewN q) g (o + n) (cap2 - n) hAtq)
      clear hps hAtq
      go_wp2_with fail
      refine hps'.out.mono ?_
      rintro e w' ⟨rfl, h⟩
      replace h := h.symm
      subst h
      cases neg with
      | true =>
        go_wp2
        go_ret
        exact ⟨rfl, hbAll.trans (below_drewN _ _)⟩
      | false =>
        go_wp2
        go_ret
        exact ⟨rfl, hbAll.trans (below_drewN _ _)⟩
end Go.Proofs.Qxb6602894aDoor
