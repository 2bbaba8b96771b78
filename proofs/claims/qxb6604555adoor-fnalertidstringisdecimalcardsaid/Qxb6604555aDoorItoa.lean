import Derived.Test.Qxb6604555aDoorRows
import Derived.Test.Qxb6604555aDoorPlain
import Derived.Test.Qxb6604555aDoorBuf
import Derived.WalkKit
import Derived.WalkSpells
import Derived.Laws.IdiomStrings
import Derived.Lib.Hide
namespace Go.Proofs.Qxb6604555aDoor
open Go.RowKit

/-- The digits of u; none for 0. -/
def digs (u : Nat) : List UInt8 := if u = 0 then [] else Lib.decDigits u
theorem digs_zero : digs 0 = [] := rfl
theorem digs_pos (u : Nat) (h : 0 < u) : digs u = Lib.decDigits u := by unfold digs; rw [if_neg (by omega)]
theorem digs_step (u : Nat) (h : 0 < u) : digs u = digs (u / 10) ++ [UInt8.ofNat (48 + u % 10)] := by
  rw [digs_pos u h]
  by_cases h10 : u < 10
  · rw [Lib.decDigits_one h10, show u / 10 = 0 from by omega, digs_zero, show u % 10 = u from by omega]; rfl
  · rw [digs_pos (u / 10) (by omega), Lib.decDigits, dif_neg h10]
theorem digs_len (u : Nat) (h : u ≤ 9223372036854775808) : (digs u).length ≤ 19 := by
  unfold digs
  split
  · simp
  · exact (decDigits_len u (by omega)).2

set_option maxHeartbeats 400000 in
theorem w6_pos (n : Nat) (w : World) (h0 : (1:Int) ≤ n) (h1 : (n : Int) ≤ 9223372036854775807) :
   Calls Tryd.prog 6 #[.int .i64 n] w fun e w' => ∃ s : ByteArray, e = .returned (.string s) ∧ s.data.toList = Lib.decDigits n ∧ Below w.heap.size w w' := by
  have hz : ((n : Int) == 0) = false := beq_eq_false_iff_ne.2 (by omega)
  have hneg : decide ((n : Int) < 0) = false := decide_eq_false (by omega)
  go_enter Tryd.func6, Tryd.ntmps6
  go_wp2
  go_loopw [4, 6] (fun u i wr => ∃ (j v : Nat) (tl : List UInt8), i = .int .i64 j ∧ u = .int .u64 v ∧ v ≤ 9223372036854775807 ∧ BufAt w.heap.size 27 24 j tl wr ∧ Below w.heap.size w wr ∧ Hid (digs n = digs v ++ tl)) (fun u _ _ => (intOf u).toNat)
  case atStart => exact ⟨24, n, [], rfl, rfl, by omega, BufAt.fresh w 27 _ 24 rfl, (Below.refl _ _).alloc (Nat.le_refl _) _, by show digs n = digs n ++ []; simp⟩
  case round =>
    obtain ⟨j, v, tl, rfl, rfl, hv, hB, hb, hd⟩ := hrel
    have hlen : j + tl.length = 24 := by obtain ⟨_, _, _, _, h⟩ := hB; exact h
    have hle : (digs v).length + tl.length ≤ 19 := by
      have := congrArg List.length hd.out
      have h2 := digs_len n (by omega)
      simp at this; omega
    by_cases hpos : 0 < v
    · have hst := digs_step v hpos
      obtain ⟨i, rfl⟩ : ∃ i, j = i + 1 := ⟨j - 1, by rw [hst] at hle; simp at hle; omega⟩
      have hi : (i : Int) < 24 := by omega
      obtain ⟨x, hx⟩ := hB.has i (by omega)
      have hf := hB.free i
      have hstH : Hid (digs v = digs (v / 10) ++ [UInt8.ofNat (48 + v % 10)]) := hst
      have HB := Lib.hid hB
      clear hst hB hle hlen
      have hc : ((UInt8.ofNat (48 + v % 10)).toNat : Int) = 48 + (v : Int) % 10 := by rw [digit_toNat _ (by omega)]; omega
      have HC := Lib.hid hc
      clear hc
      go_wp2
      go_roundw
      case rel =>
        refine ⟨i, v / 10, UInt8.ofNat (48 + v % 10) :: tl, rfl, by go_num, by omega, ?_, hb.setCell (Nat.le_refl _) _, ?_⟩
        · have := HB.out.put (UInt8.ofNat (48 + v % 10))
          rw [HC.out] at this
          exact this
        · show digs n = digs (v / 10) ++ UInt8.ofNat (48 + v % 10) :: tl
          rw [hd.out, hstH.out]; simp
      case measure => simp [intOf]; omega
    · have hv0 : v = 0 := by omega
      subst hv0
      have htl : tl = Lib.decDigits n := by
        have := hd.out
        rw [digs_zero, digs_pos n (by omega)] at this
        simpa using this.symm
      have HT := Lib.hid htl
      clear htl hd hle
      have hcv := run_convert_bytes_back (P := Tryd.prog) wr 28 9 5 ⟨w.heap.size, j, none⟩ tl.length tl Tryd.underlying28 Tryd.underlying5 Tryd.underlying9 (fun t ht => hB.cellAdd t ht)
      have htp : 1 ≤ tl.length := by rw [HT.out]; exact (decDigits_len n (by omega)).1
      have hj : (j : Int) ≤ 24 := by omega
      have hj' : ¬ j = 24 := by omega
      have hlen2 : 24 - j = tl.length := by omega
      clear hlen hB
      go_wp2
      go_ret
      exact ⟨_, rfl, HT.out, hb⟩
theorem wrap_twice (n : Nat) (h1 : (n : Int) ≤ 9223372036854775808) : IntKind.u64.wrap (-(IntKind.u64.wrap (-(n : Int)))) = n := by
  have e : ∀ x : Int, IntKind.u64.wrap x = x % 18446744073709551616 := fun _ => rfl
  rw [e, e]; omega

set_option maxHeartbeats 400000 in
theorem w6_neg (n : Nat) (w : World) (h0 : (1:Int) ≤ n) (h1 : (n : Int) ≤ 9223372036854775808) :
   Calls Tryd.prog 6 #[.int .i64 (-(n : Int))] w fun e w' => ∃ s : ByteArray, e = .returned (.string s) ∧ s.data.toList = 45 :: Lib.decDigits n ∧ Below w.heap.size w w' := by
  have hz : (-(n : Int) == 0) = false := beq_eq_false_iff_ne.2 (by omega)
  have hneg : decide (-(n : Int) < 0) = true := decide_eq_true (by omega)
  have hlt : -(n : Int) < 0 := by omega
  have hw := wrap_twice n h1
  go_enter Tryd.func6, Tryd.ntmps6
  go_wp2
  go_loopw [4, 6] (fun u i wr => ∃ (j v : Nat) (tl : List UInt8), i = .int .i64 j ∧ u = .int .u64 v ∧ v ≤ 9223372036854775808 ∧ BufAt w.heap.size 27 24 j tl wr ∧ Below w.heap.size w wr ∧ Hid (digs n = digs v ++ tl)) (fun u _ _ => (intOf u).toNat)
  case atStart => exact ⟨24, n, [], rfl, rfl, by omega, BufAt.fresh w 27 _ 24 rfl, (Below.refl _ _).alloc (Nat.le_refl _) _, by show digs n = digs n ++ []; simp⟩
  case round =>
    obtain ⟨j, v, tl, rfl, rfl, hv, hB, hb, hd⟩ := hrel
    have hlen : j + tl.length = 24 := by obtain ⟨_, _, _, _, h⟩ := hB; exact h
    have hle : (digs v).length + tl.length ≤ 19 := by
      have := congrArg List.length hd.out
      have h2 := digs_len n (by omega)
      simp at this; omega
    by_cases hpos : 0 < v
    · have hst := digs_step v hpos
      obtain ⟨i, rfl⟩ : ∃ i, j = i + 1 := ⟨j - 1, by rw [hst] at hle; simp at hle; omega⟩
      have hi : (i : Int) < 24 := by omega
      obtain ⟨x, hx⟩ := hB.has i (by omega)
      have hf := hB.free i
      have hstH : Hid (digs v = digs (v / 10) ++ [UInt8.ofNat (48 + v % 10)]) := hst
      have HB := Lib.hid hB
      clear hst hB hle hlen
      have hc : ((UInt8.ofNat (48 + v % 10)).toNat : Int) = 48 + (v : Int) % 10 := by rw [digit_toNat _ (by omega)]; omega
      have HC := Lib.hid hc
      clear hc
      go_wp2
      go_roundw
      case rel =>
        refine ⟨i, v / 10, UInt8.ofNat (48 + v % 10) :: tl, rfl, by go_num, by omega, ?_, hb.setCell (Nat.le_refl _) _, ?_⟩
        · have := HB.out.put (UInt8.ofNat (48 + v % 10))
          rw [HC.out] at this
          exact this
        · show digs n = digs (v / 10) ++ UInt8.ofNat (48 + v % 10) :: tl
          rw [hd.out, hstH.out]; simp
      case measure => simp [intOf]; omega
    · have hv0 : v = 0 := by omega
      subst hv0
      have htl : tl = Lib.decDigits n := by
        have := hd.out
        rw [digs_zero, digs_pos n (by omega)] at this
        simpa using this.symm
      have HT := Lib.hid htl
      clear htl hd hle
      have htp : 1 ≤ tl.length ∧ tl.length ≤ 19 := by rw [HT.out]; exact decDigits_len n (by omega)
      obtain ⟨i, rfl⟩ : ∃ i, j = i + 1 := ⟨j - 1, by omega⟩
      obtain ⟨x, hx⟩ := hB.has i (by omega)
      have hf := hB.free i
      have hi : (i : Int) ≤ 24 := by omega
      have hi2 : (i : Int) < 24 := by omega
      have hi' : ¬ i = 24 := by omega
      have hB2 := hB.put 45
      have hcv : (convert 28 9 (.slice (some ⟨w.heap.size, i, none⟩) (tl.length + 1) (tl.length + 1))).run Tryd.prog (wr.setCell ⟨w.heap.size, i, none⟩ (.int .u8 45)) = .ok (.string ⟨(45 :: tl).toArray⟩) (wr.setCell ⟨w.heap.size, i, none⟩ (.int .u8 45)) := run_convert_bytes_back (P := Tryd.prog) _ 28 9 5 ⟨w.heap.size, i, none⟩ (tl.length + 1) (45 :: tl) Tryd.underlying28 Tryd.underlying5 Tryd.underlying9 (fun t ht => hB2.cellAdd t ht)
      have hlen2 : 24 - i = tl.length + 1 := by omega
      clear hlen hB htp
      clear hB2
      go_wp2
      go_ret
      exact ⟨_, rfl, by simp [HT.out], hb.setCell (Nat.le_refl _) _⟩

/-- zzItoa returns the decimal numeral, for every int. -/
theorem w6 (n : Int) (w : World) (h0 : -9223372036854775808 ≤ n) (h1 : n ≤ 9223372036854775807) :
    Calls Tryd.prog 6 #[.int .i64 n] w fun e w' => ∃ s : ByteArray, e = .returned (.string s) ∧ s.data.toList = Lib.itoa n ∧ Below w.heap.size w w' := by
  rcases Int.lt_trichotomy n 0 with hn | rfl | hn
  · obtain ⟨u, rfl⟩ : ∃ u : Nat, n = -(u : Int) := ⟨n.natAbs, by omega⟩
    rw [Lib.itoa_neg u (by omega)]
    exact w6_neg u w (by omega) (by omega)
  · go_enter Tryd.func6, Tryd.ntmps6
    go_wp2
    go_ret
    refine ⟨_, rfl, ?_, Below.refl _ _⟩
    have : Lib.itoa 0 = [48] := by
      have := Lib.itoa_nonneg 0
      rw [Lib.decDigits_one (by omega)] at this
      exact this
    rw [this]
  · obtain ⟨u, rfl⟩ : ∃ u : Nat, n = (u : Int) := ⟨n.toNat, by omega⟩
    rw [Lib.itoa_nonneg u]
    exact w6_pos u w (by omega) (by omega)
end Go.Proofs.Qxb6604555aDoor
