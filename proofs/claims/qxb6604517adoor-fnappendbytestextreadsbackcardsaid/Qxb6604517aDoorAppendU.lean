import Derived.Test.Qxb6604517aDoorDecimal
import Derived.Test.Qxb6604517aDoorShelf
import Derived.Lib.AppendIntMem
import Derived.Lib.ItoaWalk
import Derived.Lib.ItoaMem
import Derived.Lib.Walk
import Derived.BigCall
import Derived.BigGuard
import Derived.CellFam
import Derived.OwnWalk
namespace Go.Proofs.Qxb6604517aDoor
open Go.Shelf Go.RowKit Go.Sort Go.Lib

/-- The name of the library's table of powers of ten, as the row spells it. -/
def powName : String := (Rows.fnAppendBytesMatchesNotationModelRow.named.drop 3).headD ""

theorem numDigits52 (u : Nat) (h1 : 1 ≤ u) (h2 : u < 18446744073709551616) (w : World) (htab : Lib.TabIs Tryd.prog w powName .u64 Lib.pow10Tab) :
    Calls Tryd.prog 52 #[.int .u64 u] w fun e w' => e = .returned (.int .i64 (Lib.nDigits u)) ∧ w' = w := Any.internal_strconv_numDigits Tryd.laysM284 u h1 h2 w htab

theorem format53 (blk off cap : Nat) (u : Nat) (d : Array UInt8) (w : World) (hH : Holds (fun (b : UInt8) => Value.int .u8 (b.toNat : Int)) w blk off d) (hu : u < 10 ^ d.size) (hu64 : u < 18446744073709551616) (hsz : d.size < 4611686018427387904) :
    Calls Tryd.prog 53 #[.slice (some ⟨blk, off, none⟩) d.size cap, .int .u64 u] w fun e w' =>
      e = .returned (.tuple #[]) ∧ ∃ (n v' : Nat) (dk : Array UInt8), w' = (putRow (fun (b : UInt8) => Value.int .u8 (b.toNat : Int)) w blk off dk).drewN n ∧ FmtInv d.size u 0 v' dk := Any.internal_strconv_formatBase10 Tryd.lays285 blk off cap u d w hH hu hu64 hsz

set_option maxHeartbeats 12800000 in
set_option maxRecDepth 100000 in
/-- internal/strconv.AppendUint(dst, u, 10), u from 100 on, dst a row of the call's own or one without spare. -/
theorem au48 (B : Nat) (u : Nat) (hu : 100 ≤ u) (hu64 : u < 18446744073709551616) (v : Value) (l : List UInt8) (w : World) (hd : Dst B w v l) (hB : B ≤ w.heap.size) (hl : l.length ≤ 1099511627776)
    (htab : Lib.TabIs Tryd.prog w powName .u64 Lib.pow10Tab) :
    Calls Tryd.prog 48 #[v, .int .u64 u, .int .i64 10] w fun e w' => ∃ v', e = .returned v' ∧ Own B w' v' (l ++ Lib.decDigits u) ∧ Step B w w' := by
  have hu1 : 1 ≤ u := by omega
  have hnd20 : Lib.nDigits u ≤ 20 := by have := Lib.numDigits_eq u hu1 hu64; split at this <;> omega
  have hal : Tryd.prog.arrayLen 85 = 24 := by kernel_rfl
  have hsl : ∀ W, (Instr.sliceAt 85 (.pointer (some ⟨w.heap.size, 0, none⟩)) none (some (.int .i64 (Lib.nDigits u : Int))) none).run Tryd.prog W = .ok (.slice (some ⟨w.heap.size, 0, none⟩) (Lib.nDigits u) 24) W := fun W => by
    rw [run_sliceAt_array_h W 85 ⟨w.heap.size, 0, none⟩ (by simp [Program.arrayLen, Program.elem, Tryd.underlying85]) .i64 (Lib.nDigits u : Int) (by omega) (by rw [hal]; omega)]
    go_simp
  have hH0 := Lib.holds_zero0 w 85 (Lib.nDigits u) (by omega)
  have hfmt := format53 w.heap.size 0 24 u (Array.replicate (Lib.nDigits u) 0) (w.alloc (.cells Lib.zeros24 85)) hH0 (by rw [Array.size_replicate]; exact Lib.lt_pow_nDigits u) hu64 (by rw [Array.size_replicate]; omega)
  rw [Array.size_replicate] at hfmt
  have HH0 := Lib.hid hH0
  have HF := Lib.hid hfmt
  have iu : (100 : Int) ≤ (u : Int) := by omega
  obtain ⟨L, hL⟩ : ∃ L, L = l ++ Lib.decDigits u := ⟨_, rfl⟩
  have HL := Lib.hid hL
  rw [← hL]
  have HU := Lib.hid hu64
  have HT := Lib.hid htab
  clear hH0 hal hfmt hL hu64 htab
  go_enter Tryd.func48, Tryd.ntmps48
  go_wp2_with fail
  refine (numDigits52 u hu1 HU.out _ (Lib.tabIs_alloc HT.out _)).mono ?_
  rintro e w1 ⟨rfl, rfl⟩
  go_wp2_with fail
  refine HF.out.mono ?_
  rintro e w2 ⟨rfl, k, v', dk, rfl, hF⟩
  have hcells : ∀ j u', (bc (Lib.decDigits u))[j]? = some u' → ((putRow (fun (b : UInt8) => Value.int .u8 (b.toNat : Int)) (w.alloc (.cells Lib.zeros24 85)) w.heap.size 0 dk).drewN k).cell? ((⟨w.heap.size, 0, none⟩ : Addr).add j) = some u' := by
    intro j u' hj
    obtain ⟨hjl, rfl⟩ := bc_some _ _ _ hj
    rw [Lib.row_is_numeral hF j hjl, Lib.add_plain, World.cell?_drewN]
    exact cell?_putRow (fun (b : UInt8) => Value.int .u8 (b.toNat : Int)) _ w.heap.size 0 _ dk HH0.out (by rw [hF.size, Array.size_replicate]) j (by rw [hF.size]; rw [Lib.decDigits_length] at hjl; exact hjl)
  obtain ⟨os, eo⟩ := Lib.fin_at w (.cells Lib.zeros24 85) dk k 0
  have hnx2 : Below w.heap.size w ((putRow (fun (b : UInt8) => Value.int .u8 (b.toNat : Int)) (w.alloc (.cells Lib.zeros24 85)) w.heap.size 0 dk).drewN k) := by rw [eo]; exact Lib.below_grow w.heap.size w (Nat.le_refl _) k os
  generalize (putRow (fun (b : UInt8) => Value.int .u8 (b.toNat : Int)) (w.alloc (.cells Lib.zeros24 85)) w.heap.size 0 dk).drewN k = W2 at hcells hnx2 ⊢
  have D2 := Lib.hid (hd.on hnx2)
  have S2 := Lib.hid (Step.of hnx2 hB)
  have B2 := Lib.hid (Nat.le_trans hB hnx2.size)
  have HCE := Lib.hid hcells
  have HM := Lib.hid (Lib.decDigits_length u).symm
  have H1 := Lib.hid (decDigits_len20 u HU.out).1
  have HLim := Lib.hid (show l.length + (Lib.decDigits u).length ≤ 140737488355328 by rw [Lib.decDigits_length]; omega)
  clear eo HH0 HF hF hcells hnx2 hd hB
  go_wp2_with (at_builtin; refine wpList_append_dst rfl _ _ rfl B v l rfl D2.out B2.out ⟨w.heap.size, 0, none⟩ _ _ (Lib.decDigits u) L HL.out rfl HM.out HCE.out H1.out HLim.out ?_)
  intro v2 w3 o3 b3
  go_wp2
  go_ret
  exact ⟨v2, rfl, o3, S2.out.trans b3⟩

set_option maxHeartbeats 400000 in
theorem au39 (B : Nat) (u : Nat) (hu : 100 ≤ u) (hu64 : u < 18446744073709551616) (v : Value) (l : List UInt8) (w : World) (hd : Dst B w v l) (hB : B ≤ w.heap.size) (hl : l.length ≤ 1099511627776)
    (htab : Lib.TabIs Tryd.prog w powName .u64 Lib.pow10Tab) :
    Calls Tryd.prog 39 #[v, .int .u64 u, .int .i64 10] w fun e w' => ∃ v', e = .returned v' ∧ Own B w' v' (l ++ Lib.decDigits u) ∧ Step B w w' := by
  have H := Lib.hid (au48 B u hu hu64 v l w hd hB hl htab)
  clear hu64 htab hd hB
  go_enter Tryd.func39, Tryd.ntmps39
  go_wp2_with fail
  refine H.out.mono ?_
  rintro e w1 ⟨v1, rfl, o1, b1⟩
  go_wp2
  go_ret
  exact ⟨v1, rfl, o1, b1⟩

theorem dec_two (n : Nat) (h0 : 10 ≤ n) (h : n < 100) : Lib.decDigits n = [UInt8.ofNat (48 + n / 10), UInt8.ofNat (48 + n % 10)] := Lib.decDigits_two (by omega) h

set_option maxHeartbeats 800000 in
/-- report.appendDecimal. -/
theorem adec_any (B : Nat) (n : Nat) (N : Int) (hN : N = (n : Int)) (hn : n < 18446744073709551616) (v : Value) (l : List UInt8) (w : World) (hd : Dst B w v l) (hB : B ≤ w.heap.size) (hl : l.length ≤ 1000000000)
    (htab : Lib.TabIs Tryd.prog w powName .u64 Lib.pow10Tab) :
    Calls Tryd.prog 30 #[v, .int .u64 N] w fun e w' => ∃ v', e = .returned v' ∧ Own B w' v' (l ++ Lib.decDigits n) ∧ Step B w w' := by
  by_cases h10 : n < 10
  · have hc : N + 48 = ((UInt8.ofNat (48 + n)).toNat : Int) := by rw [digit_toNat n h10]; omega
    have hc' : 48 + N = ((UInt8.ofNat (48 + n)).toNat : Int) := by omega
    have eD : Lib.decDigits n = [UInt8.ofNat (48 + n)] := Lib.decDigits_one h10
    obtain ⟨c, ec⟩ : ∃ c, c = UInt8.ofNat (48 + n) := ⟨_, rfl⟩
    rw [← ec] at hc' eD
    obtain ⟨L, hL⟩ : ∃ L, L = l ++ [c] := ⟨_, rfl⟩
    rw [eD, ← hL]
    have HL := Lib.hid hL
    have HC := Lib.hid hc'
    have g0 : 0 ≤ N := by omega
    have g1 : N < 10 := by omega
    clear hN hn hL hc hc' ec eD htab h10
    go_enter Tryd.func30, Tryd.ntmps30
    go_wp2_with (at_builtin; refine wpList_append1 rfl _ _ rfl B v l rfl hd hB _ c HC.out L HL.out rfl (by omega) ?_)
    intro v1 w1 o1 b1
    go_wp2
    go_ret
    exact ⟨v1, rfl, o1, b1⟩
  · by_cases h100 : n < 100
    · have eD := dec_two n (by omega) h100
      obtain ⟨c, ec⟩ : ∃ c, c = UInt8.ofNat (48 + n / 10) := ⟨_, rfl⟩
      obtain ⟨d, ed⟩ : ∃ d, d = UInt8.ofNat (48 + n % 10) := ⟨_, rfl⟩
      have hc : 48 + N / 10 = (c.toNat : Int) := by rw [ec, digit_toNat _ (by omega)]; omega
      have hd' : 48 + N % 10 = (d.toNat : Int) := by rw [ed, digit_toNat _ (by omega)]; omega
      rw [← ec, ← ed] at eD
      obtain ⟨L, hL⟩ : ∃ L, L = l ++ [c, d] := ⟨_, rfl⟩
      rw [eD, ← hL]
      have HL := Lib.hid hL
      have HC := Lib.hid hc
      have HDD := Lib.hid hd'
      have g0 : 10 ≤ N := by omega
      have g1 : N < 100 := by omega
      clear hN hn hL hc hd' ec ed eD htab h10 h100
      go_enter Tryd.func30, Tryd.ntmps30
      go_wp2_with (at_builtin; refine wpList_append2 rfl _ _ rfl B v l rfl hd hB _ _ c d HC.out HDD.out L HL.out rfl (by omega) ?_)
      intro v1 w1 o1 b1
      go_wp2
      go_ret
      exact ⟨v1, rfl, o1, b1⟩
    · have H := au39 B n (by omega) hn v l w hd hB (by omega) htab
      rw [← hN] at H
      have HH := Lib.hid H
      have g0 : 100 ≤ N := by omega
      clear hN hn hd hB htab H h10 h100
      go_enter Tryd.func30, Tryd.ntmps30
      go_wp2_with fail
      refine HH.out.mono ?_
      rintro e w1 ⟨v1, rfl, o1, b1⟩
      go_wp2
      go_ret
      exact ⟨v1, rfl, o1, b1⟩
end Go.Proofs.Qxb6604517aDoor
