import Derived.Test.Qxb6604517aDoorLaid
namespace Go.Proofs.Qxb6604517aDoor
open Go.RowKit

theorem dotted_len (p q r s : Nat) (hp : p < 256) (hq : q < 256) (hr : r < 256) (hs : s < 256) : (dotted p q r s).length ≤ 83 := by
  have := decDigits_len3 p hp
  have := decDigits_len3 q hq
  have := decDigits_len3 r hr
  have := decDigits_len3 s hs
  simp [dotted]; omega
theorem text6_len (g : Nat → Nat) (zs ze : Nat) : (text6 g zs ze).length ≤ 200 := by
  unfold text6
  split
  · have := body_len g 0 8; omega
  · have := body_len g 0 zs
    have h2 : (tail6 g ze).length ≤ 50 := by
      unfold tail6
      split
      · simp
      · have := body_len g (ze + 1) (7 - ze)
        have := (hex16_len (g ze)).2
        simp; omega
    simp; omega
theorem notn_len (A : Int) (t : List UInt8) : (notn A t).length ≤ 3 * t.length + 300 := by
  have hdl := fun (p q r s : UInt8) => dotted_len p.toNat q.toNat r.toNat s.toNat p.toNat_lt q.toNat_lt r.toNat_lt s.toNat_lt
  unfold notn
  split
  · have := hdl (t.getD 0 0) (t.getD 1 0) (t.getD 2 0) (t.getD 3 0); omega
  · split
    · unfold ipText
      split
      · have := hdl (t.getD 12 0) (t.getD 13 0) (t.getD 14 0) (t.getD 15 0)
        rw [List.length_append, show mappedHead.length = 7 from rfl]; omega
      · have := text6_len (gq t) (nst (fun k => gq t k == 0) 8).1 (nst (fun k => gq t k == 0) 8).2; omega
    · split
      · rw [colon_len]; omega
      · have := (decDigits_len20 (l8 t) (l8_lt t)).2; omega

theorem Zs.up {B B' : Nat} {w : World} {a4 a6 : Addr} (h : Zs B w a4 a6) (hB : B ≤ B') : Zs B' w a4 a6 :=
  ⟨h.c0, h.c4, h.c6, h.ne, h.b4, h.b6, Nat.lt_of_lt_of_le h.lt2 hB, Nat.lt_of_lt_of_le h.lt4 hB, Nat.lt_of_lt_of_le h.lt6 hB⟩

set_option maxHeartbeats 400000 in
theorem zz9 (B : Nat) (A : Int) (a4 a6 : Addr) (v : Value) (l : List UInt8) (x : Value) (t : List UInt8) (w : World) (hz : Zs B w a4 a6) (htab : Lib.TabIs Tryd.prog w powName .u64 Lib.pow10Tab) (hd : Dst B w v l) (hx : Rd B w x t) (hB : B ≤ w.heap.size) (hl : l.length ≤ 10000000) (ht : t.length ≤ 10000000) :
    Calls Tryd.prog 9 #[v, .int .u8 A, x] w fun e w' => ∃ v', e = .returned v' ∧ Dst B w' v' (l ++ notn A t) ∧ Step B w w' := by
  have H := Lib.hid (ab_any B A a4 a6 v l x t w hz htab hd hx hB hl ht)
  clear hz htab hd hx hB hl ht
  go_enter Tryd.func9, Tryd.ntmps9
  go_wp2_with fail
  refine H.out.mono ?_
  rintro e w1 ⟨v1, rfl, o1, b1⟩
  go_wp2
  go_ret
  exact ⟨v1, rfl, o1, b1⟩

set_option maxHeartbeats 3200000 in
theorem law3_far (a a' : Option Addr) (n cap n' cap' : Nat) (A : Int) (w : World) (hn : n ≤ 9223372036854775807) (hn' : n' ≤ 9223372036854775807) (h : 524288 < n ∨ 524288 < n') :
    Calls Tryd.prog 3 #[.slice a n cap, .int .u8 A, .slice a' n' cap'] w fun e w' => e = .returned (.bool true) ∧ w' = w := by
  by_cases h1 : 1048576 < n
  · clear h
    go_enter Tryd.func3, Tryd.ntmps3
    go_wp2
    go_ret
    exact ⟨rfl, rfl⟩
  · by_cases h2 : 1048576 < n'
    · clear h
      go_enter Tryd.func3, Tryd.ntmps3
      go_wp2
      go_ret
      exact ⟨rfl, rfl⟩
    · by_cases h3 : 1048576 < n + n'
      · have h3i : 1048576 < (n : Int) + (n' : Int) := by omega
        clear h
        go_enter Tryd.func3, Tryd.ntmps3
        go_wp2
        go_ret
        exact ⟨rfl, rfl⟩
      · have h3i : (n : Int) + (n' : Int) ≤ 1048576 := by omega
        by_cases h4 : 524288 < n
        · clear h
          go_enter Tryd.func3, Tryd.ntmps3
          go_wp2
          go_ret
          exact ⟨rfl, rfl⟩
        · have h5 : 524288 < n' := by omega
          clear h
          go_enter Tryd.func3, Tryd.ntmps3
          go_wp2
          go_ret
          exact ⟨rfl, rfl⟩

set_option maxHeartbeats 3200000 in
theorem law3_near (v x : Value) (l t : List UInt8) (A : Int) (w : World) (a4 a6 : Addr) (hz : Zs w.heap.size w a4 a6) (hv : Rd w.heap.size w v l) (hx : Rd w.heap.size w x t) (hl : l.length ≤ 524288) (ht : t.length ≤ 524288)
    (htab : Lib.TabIs Tryd.prog w powName .u64 Lib.pow10Tab) :
    Calls Tryd.prog 3 #[v, .int .u8 A, x] w fun e w' => e = .returned (.bool true) ∧ Below w.heap.size w w' := by
  have hT : Hid (Lib.TabBelow Tryd.prog w.heap.size w powName .u64 Lib.pow10Tab) := Lib.tabBelow_of_tabIs htab
  have HZ := Lib.hid hz
  have HC1 := Lib.hid (clone_any w v l hv (by omega))
  have HC2 := Lib.hid (fun (W : World) (hb : Below w.heap.size w W) => clone_any W x t ((hx.on hb).mono hb.size) (by omega))
  have HNM := Lib.hid (fun (W : World) (y : Value) (h : Rd W.heap.size W y t) => nm_any A y t W h (by omega))
  have hnl := notn_len A t
  have HCC := Lib.hid (fun (W : World) (p q : Value) (h1 : Rd W.heap.size W p l) (h2 : Rd W.heap.size W q (notn A t)) => concat_any W p q l (notn A t) h1 h2 (by omega) (by omega))
  have HZZ := Lib.hid (fun (W : World) (p y : Value) (z : Zs W.heap.size W a4 a6) (tb : Lib.TabIs Tryd.prog W powName .u64 Lib.pow10Tab) (d : Dst W.heap.size W p l) (r : Rd W.heap.size W y t) => zz9 W.heap.size A a4 a6 p l y t W z tb d r (Nat.le_refl _) (by omega) (by omega))
  have HSM := Lib.hid (fun (W : World) (p q : Value) (h1 : Rd W.heap.size W p (l ++ notn A t)) (h2 : Rd W.heap.size W q (l ++ notn A t)) => same_any W.heap.size W p q (l ++ notn A t) h1 h2 (by rw [List.length_append]; omega))
  obtain ⟨a1, b1, o1, cap1, rfl, _, _⟩ := hv
  obtain ⟨a2, b2, o2, cap2, rfl, _, _⟩ := hx
  obtain ⟨n, hn⟩ : ∃ n, n = l.length := ⟨_, rfl⟩
  obtain ⟨m, hm⟩ : ∃ n, n = t.length := ⟨_, rfl⟩
  rw [← hn] at hl HC1 ⊢
  rw [← hm] at ht HC2 ⊢
  have hnm : (n : Int) + (m : Int) ≤ 1048576 := by omega
  clear hn hm htab hz hnl
  go_enter Tryd.func3, Tryd.ntmps3
  go_wp2_with (first | (go_at_call 5; go_in) | fail)
  refine HC1.out.mono ?_
  rintro e w1 ⟨v1, rfl, f1, k1⟩
  go_wp2_with fail
  refine (HC2.out w1 k1).mono ?_
  rintro e w2 ⟨v2, rfl, f2, k2⟩
  go_wp2_with fail
  refine (HNM.out w2 v2 f2.rd).mono ?_
  rintro e w3 ⟨v3, rfl, f3, k3⟩
  have f1' := f1.on k2
  have f1'' := f1'.on (k3.mono k2.size)
  have k2s := k2.size
  have k3s := k3.size
  go_wp2_with fail
  refine (HCC.out w3 v1 v3 (f1''.rd.mono (Nat.le_trans k2s k3s)) f3).mono ?_
  rintro e w4 ⟨v4, rfl, f4, k4⟩
  have k4s := k4.size
  have kAll : Below w.heap.size w w4 := ((k1.trans (k2.mono k1.size)).trans (k3.mono (Nat.le_trans k1.size k2s))).trans (k4.mono (Nat.le_trans (Nat.le_trans k1.size k2s) k3s))
  have f1a := f1''.on (k4.mono (Nat.le_trans k2s k3s))
  have f2a := (f2.on k3).on (k4.mono k3s)
  go_wp2_with fail
  refine (HZZ.out w4 v1 v2 (Zs.up (HZ.out.on kAll) kAll.size) (hT.out w4 kAll) (f1a.dst _) (f2a.rd.mono (Nat.le_trans k3s k4s))).mono ?_
  rintro e w5 ⟨v5, rfl, d5, s5⟩
  go_wp2_with fail
  refine (HSM.out w5 v5 v4 (Rd.dst d5) ((f4.on s5.below).rd.mono s5.size)).mono ?_
  rintro e w6 ⟨rfl, q, rfl⟩
  go_wp2
  go_ret
  exact ⟨rfl, below_drewN (kAll.trans (s5.below.mono kAll.size)) q⟩
end Go.Proofs.Qxb6604517aDoor
