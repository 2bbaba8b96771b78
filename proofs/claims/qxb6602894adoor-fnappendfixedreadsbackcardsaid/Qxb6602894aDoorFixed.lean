import Derived.Test.Qxb6602894aDoorFrac
import Derived.Lib.SmallJoins
namespace Go.Proofs.Qxb6602894aDoor
open Go.RowKit

/-- What appendFixed writes. -/
def fixedText (neg : Bool) (u f p : Nat) : List UInt8 := (if neg then [45] else []) ++ (Lib.decDigits u ++ if f = 0 then [] else 46 :: cut p f)

theorem BufAt.step {B g : Nat} {t : TypeId} {n i : Nat} {tl : List UInt8} {w w' : World} (h : BufAt g t n i tl w) (hs : Step B w w') (ht : t ≠ 5) : BufAt g t n i tl w' := by
  obtain ⟨cur, h, r⟩ := h
  exact ⟨cur, hs.other _ _ _ _ h ht, r⟩

def zeros8 : Array Value := #[.int .u8 0, .int .u8 0, .int .u8 0, .int .u8 0, .int .u8 0, .int .u8 0, .int .u8 0, .int .u8 0]

theorem buf_zero (w : World) (p : Nat) (h : p ≤ 8) : BufAt w.heap.size 33 8 p (List.replicate (8 - p) 0) (w.alloc (.cells zeros8 33)) := by
  refine ⟨_, heap_alloc_new w _, rfl, ?_, by simp; omega⟩
  have : p = 0 ∨ p = 1 ∨ p = 2 ∨ p = 3 ∨ p = 4 ∨ p = 5 ∨ p = 6 ∨ p = 7 ∨ p = 8 := by omega
  rcases this with rfl | rfl | rfl | rfl | rfl | rfl | rfl | rfl | rfl <;> rfl

theorem bc_left (a b : List UInt8) (j : Nat) (u : Value) (h : (bc a)[j]? = some u) : (bc (a ++ b))[j]? = some u := by
  rw [bc_append, List.getElem?_append_left (List.getElem?_eq_some_iff.1 h).1]
  exact h

theorem BufAt.front {B : Nat} {t : TypeId} {n : Nat} {a b : List UInt8} {w : World} (h : BufAt B t n 0 (a ++ b) w) : ∀ j u, (bc a)[j]? = some u → w.cell? ((⟨B, 0, none⟩ : Addr).add j) = some u :=
  fun j u hj => h.cells j u (bc_left a b j u hj)

set_option maxHeartbeats 6400000 in
set_option maxRecDepth 100000 in
/-- appendFixed. -/
theorem fixed_any (B : Nat) (neg : Bool) (u f p : Nat) (hu64 : u < 18446744073709551616) (hp8 : p ≤ 8) (hf : f < 10 ^ p) (v : Value) (l : List UInt8) (w : World) (hd : Dst B w v l) (hB : B ≤ w.heap.size) (hl : l.length ≤ 1000000)
    (htab : Lib.TabBelow Tryd.prog B w powName .u64 Lib.pow10Tab) :
    Calls Tryd.prog 14 #[v, .bool neg, .int .u64 (u : Int), .int .u64 (f : Int), .int .i64 (p : Int)] w fun e w' => ∃ v', e = .returned v' ∧ Own B w' v' (l ++ fixedText neg u f p) ∧ Step B w w' := by
  have hfb : f < 100000000 := by
    have : 10 ^ p ≤ 10 ^ 8 := Nat.pow_le_pow_right (by omega) hp8
    omega
  have hal : Tryd.prog.arrayLen 33 = 8 := by kernel_rfl
  have hsl : ∀ W b, (Instr.sliceAt 33 (.pointer (some ⟨b, 0, none⟩)) none (some (.int .i64 (p : Int))) none).run Tryd.prog W = .ok (.slice (some ⟨b, 0, none⟩) p 8) W := fun W b => by
    rw [run_sliceAt_array_h W 33 ⟨b, 0, none⟩ (by simp [Program.arrayLen, Program.elem, Tryd.underlying33]) .i64 (p : Int) (by omega) (by rw [hal]; omega)]
    go_simp
  have hlu := decDigits_len20 u hu64
  have hau := fun (v1 : Value) (l1 : List UInt8) (w1 : World) (h1 : Dst B w1 v1 l1) (h2 : B ≤ w1.heap.size) (h3 : l1.length ≤ 1099511627776) (h4 : Lib.TabIs Tryd.prog w1 powName .u64 Lib.pow10Tab) => au15 B u hu64 v1 l1 w1 h1 h2 h3 h4
  obtain ⟨FI, hFI⟩ : ∃ F : Int, F = (f : Int) := ⟨_, rfl⟩
  rw [← hFI]
  have hFI0 : 0 ≤ FI := by omega
  have hFI1 : FI < 100000000 := by omega
  have HFI := Lib.hid hFI
  obtain ⟨UI, hUI⟩ : ∃ U : Int, U = (u : Int) := ⟨_, rfl⟩
  rw [← hUI]
  rw [← hUI] at hau
  have HT := Lib.hid htab
  have HB := Lib.hid hB
  have Hf := Lib.hid hf
  clear hUI hu64 htab hB hal hf hfb hFI
  cases neg with
  | false =>
    obtain ⟨L1, hL1⟩ : ∃ L, L = l := ⟨_, rfl⟩
    obtain ⟨FT, hFT⟩ : ∃ FT, FT = l ++ fixedText false u f p := ⟨_, rfl⟩
    have hF : FT = L1 ++ Lib.decDigits u ++ (if f = 0 then [] else 46 :: cut p f) := by rw [hFT, hL1]; simp [fixedText]
    have hll : L1.length ≤ 1000001 := by rw [hL1]; omega
    rw [← hL1] at hd
    rw [← hFT]
    have HF := Lib.hid hF
    clear hF hL1 hl hFT
    go_enter Tryd.func14, Tryd.ntmps14
    go_wp2_with fail
    refine (hau v L1 w hd HB.out (by omega) HT.out.here).mono ?_
    rintro e w2 ⟨v2, rfl, o2, b2⟩
    clear hau
    have hB2 := Nat.le_trans HB.out b2.size
    by_cases hf0 : f = 0
    · subst hf0
      obtain rfl : FI = 0 := by rw [HFI.out]; rfl
      go_wp2
      go_ret
      exact ⟨v2, rfl, by rw [HF.out]; simpa using o2, b2⟩
    · have hF2 := HF.out
      rw [if_neg hf0] at hF2
      have hfi : FI ≠ 0 := by rw [HFI.out]; omega
      have Hf0 := Lib.hid hf0
      have hpi : (p : Int) ≤ 8 := by omega
      have hbz := Lib.hid (buf_zero w2 p hp8)
      obtain ⟨L2, hL2⟩ : ∃ L, L = L1 ++ Lib.decDigits u := ⟨_, rfl⟩
      have hl2 : L2.length ≤ 1000021 := by rw [hL2]; simp; omega
      rw [← hL2] at o2 hF2
      have HF2 := Lib.hid hF2
      clear hL2 hll hlu HF hF2 hf0
      go_wp2
      go_loopw [3, 13] (fun q i wr => ∃ (K : Nat) (a : Int) (tl : List UInt8), K ≤ p ∧ i = .int .i64 ((K : Int) - 1) ∧ q = .int .u64 a ∧ 0 ≤ a ∧ a < 100000000 ∧ BufAt w2.heap.size 33 8 K (tl ++ List.replicate (8 - p) 0) wr ∧ Below w2.heap.size w2 wr ∧ Hid (pad p f = pad K a.toNat ++ tl)) (fun _ i _ => (intOf i + 1).toNat)
      case atStart => exact ⟨p, FI, [], Nat.le_refl _, rfl, rfl, hFI0, hFI1, hbz.out, (Below.refl _ _).alloc (Nat.le_refl _) _, by show _ = _; rw [HFI.out]; simp⟩
      case round =>
        obtain ⟨K, a, tl, hK, rfl, rfl, ha0, ha, hBuf, hb, hE⟩ := hrel
        clear hbz
        rcases Nat.eq_zero_or_pos K with rfl | hpos
        · have hE1 : pad p f = tl := by rw [hE.out]; rfl
          subst hE1
          have hp1 : 1 ≤ p := by
            rcases Nat.eq_zero_or_pos p with h | h
            · have h1 := Hf.out; have h2 := Hf0.out; rw [h] at h1; simp at h1; omega
            · exact h
          clear hE
          go_wp2
          go_loop [14] (fun i => ∃ (e a : Nat), 1 ≤ e ∧ e ≤ p ∧ i = .int .i64 (e : Int) ∧ Hid (cut p f = cut e a ∧ a ≠ 0 ∧ a < 10 ^ e ∧ ∃ r, pad p f = pad e a ++ r)) (fun i => (intOf i).toNat)
          case atStart => exact ⟨p, f, hp1, Nat.le_refl _, rfl, rfl, Hf0.out, Hf.out, [], by simp⟩
          case round =>
            obtain ⟨e, x, he1, he2, rfl, hcut⟩ := hrel
            obtain ⟨hc1, hc2, hc3, r, hr⟩ := hcut.out
            obtain ⟨j, rfl⟩ : ∃ j, e = j + 1 := ⟨e - 1, by omega⟩
            have hje : ((j + 1 : Nat) : Int) - 1 = (j : Int) := by omega
            obtain ⟨c, hc⟩ : ∃ c, c = UInt8.ofNat (48 + x % 10) := ⟨_, rfl⟩
            obtain ⟨D, hD⟩ : ∃ D : Int, D = 48 + (x : Int) % 10 := ⟨_, rfl⟩
            have hcn : (c.toNat : Int) = D := by rw [hc, digit_toNat _ (by omega), hD]; omega
            have hcell : wr.cell? ⟨w2.heap.size, j, none⟩ = some (.int .u8 D) := by
              rw [hr, pad, ← hc, List.append_assoc, List.append_assoc] at hBuf
              have := hBuf.cells j (.int .u8 D) (by
                rw [bc_append, List.getElem?_append_right (by rw [bc_length, pad_len]; omega), bc_length, pad_len, Nat.sub_self, ← hcn]
                rfl)
              rw [addr_add, Nat.zero_add] at this
              exact this
            have hji : (j : Int) < p := by omega
            by_cases hz : x % 10 = 0
            · obtain rfl : D = 48 := by omega
              have hnew := Lib.hid (show cut p f = cut j (x / 10) ∧ x / 10 ≠ 0 ∧ x / 10 < 10 ^ j ∧ ∃ r, pad p f = pad j (x / 10) ++ r by
                refine ⟨by rw [hc1, cut, if_pos hz], by omega, by rw [Nat.pow_succ] at hc3; omega, _, by rw [hr, pad, List.append_assoc]⟩)
              have hj1 : 1 ≤ j := by
                rcases Nat.eq_zero_or_pos j with h | h
                · rw [h] at hc3; simp at hc3; omega
                · exact h
              clear hcut hc1 hc3 hr hc hcn c hD hBuf
              go_wp2
              go_round
              case rel => exact ⟨j, x / 10, hj1, by omega, by go_num, hnew.out⟩
              case measure => simp [intOf]
            · have hx48 : D ≠ 48 := by omega
              have hx1 : 0 ≤ D := by omega
              have hx2 : D ≤ 57 := by omega
              have hC : cut p f = pad (j + 1) x := by rw [hc1]; exact cut_stop _ _ hz
              obtain ⟨N, hN⟩ : ∃ N, N = pad (j + 1) x := ⟨_, rfl⟩
              have hNl : j + 1 = N.length := by rw [hN, pad_len]
              rw [← hN] at hr hC
              rw [hr, List.append_assoc] at hBuf
              obtain ⟨L3, hL3⟩ : ∃ L, L = L2 ++ [46] := ⟨_, rfl⟩
              obtain ⟨L4, hL4⟩ : ∃ L, L = L3 ++ N := ⟨_, rfl⟩
              have eL4 : FT = L4 := by rw [HF2.out, hC, hL4, hL3]; simp
              have hl3 : L3.length ≤ 1000022 := by rw [hL3]; simp; omega
              have HE4 := Lib.hid eL4
              have HL3 := Lib.hid hL3
              have HL4 := Lib.hid hL4
              have HN := Lib.hid hNl
              have HBuf := Lib.hid hBuf
              have hje1 : ((j + 1 : Nat) : Int) = (j : Int) + 1 := by omega
              have hBr := Nat.le_trans hB2 hb.size
              have hj8 : (j : Int) + 1 ≤ 8 := by omega
              have o2' := o2.on hb
              have hlim : L3.length + N.length ≤ 140737488355328 := by omega
              clear hcut hc1 hc2 hc3 hr hC hL3 hL4 eL4 hBuf hN hNl hc hcn hD c hz
              go_wp2_with (at_builtin; refine wpList_append1 rfl _ _ rfl B v2 L2 rfl (Dst.own o2') hBr 46 46 rfl L3 HL3.out rfl (by omega) ?_)
              intro v3 w3 o3 b3
              have hcl := (HBuf.out.step b3 (by decide)).front
              have hB3 := Nat.le_trans hBr b3.size
              clear o2 o2'
              go_wp2_with (at_builtin; refine wpList_append_dst rfl _ _ rfl B v3 L3 rfl (Dst.own o3) hB3 ⟨w2.heap.size, 0, none⟩ _ _ N L4 HL4.out rfl HN.out hcl (by have := HN.out; omega) hlim ?_)
              intro v4 w4 o4 b4
              go_wp2
              go_ret
              exact ⟨v4, rfl, by rw [HE4.out]; exact o4, ((b2.trans (Step.of hb hB2)).trans b3).trans b4⟩
        · obtain ⟨i, rfl⟩ : ∃ i, K = i + 1 := ⟨K - 1, by omega⟩
          have hi : (i : Int) < p := by omega
          obtain ⟨y, hy⟩ := hBuf.has i (by omega)
          have hfz := hBuf.free i
          obtain ⟨c, hc⟩ : ∃ c, c = UInt8.ofNat (48 + a.toNat % 10) := ⟨_, rfl⟩
          have hput := Lib.hid (hBuf.put c (48 + a % 10) (by rw [hc, digit_toNat _ (by omega)]; omega))
          have hb2 := Lib.hid (hb.setCell (p := ⟨w2.heap.size, i, none⟩) (Nat.le_refl _) (.int .u8 (48 + a % 10)))
          have HE := Lib.hid (show pad p f = pad i (a / 10).toNat ++ (c :: tl) by rw [hE.out, pad, hc, show (a / 10).toNat = a.toNat / 10 from by omega]; simp)
          have hji : ((i + 1 : Nat) : Int) - 1 = (i : Int) := by omega
          rw [hji]
          clear hBuf hb hc hE
          go_wp2
          go_roundw
          case rel => exact ⟨i, a / 10, c :: tl, by omega, by go_num, rfl, by omega, by omega, hput.out, hb2.out, HE.out⟩
          case measure => simp [intOf]
  | true =>
    obtain ⟨L1, hL1⟩ : ∃ L, L = l ++ [45] := ⟨_, rfl⟩
    obtain ⟨FT, hFT⟩ : ∃ FT, FT = l ++ fixedText true u f p := ⟨_, rfl⟩
    have hF : FT = L1 ++ Lib.decDigits u ++ (if f = 0 then [] else 46 :: cut p f) := by rw [hFT, hL1]; simp [fixedText]
    have hll : L1.length ≤ 1000001 := by rw [hL1]; simp; omega
    rw [← hFT]
    have HF := Lib.hid hF
    have HL1 := Lib.hid hL1
    clear hF hL1 hFT
    go_enter Tryd.func14, Tryd.ntmps14
    go_wp2_with (at_builtin; refine wpList_append1 rfl _ _ rfl B v l rfl hd HB.out 45 45 rfl L1 HL1.out rfl (by omega) ?_)
    intro v1 w1 o1 b1
    clear hd
    go_wp2_with fail
    refine (hau v1 L1 w1 (Dst.own o1) (Nat.le_trans HB.out b1.size) (by omega) (HT.out w1 b1.below)).mono ?_
    rintro e w2 ⟨v2, rfl, o2, b2'⟩
    have b2 := b1.trans b2'
    clear b1 b2' o1
    clear hau
    have hB2 := Nat.le_trans HB.out b2.size
    by_cases hf0 : f = 0
    · subst hf0
      obtain rfl : FI = 0 := by rw [HFI.out]; rfl
      go_wp2
      go_ret
      exact ⟨v2, rfl, by rw [HF.out]; simpa using o2, b2⟩
    · have hF2 := HF.out
      rw [if_neg hf0] at hF2
      have hfi : FI ≠ 0 := by rw [HFI.out]; omega
      have Hf0 := Lib.hid hf0
      have hpi : (p : Int) ≤ 8 := by omega
      have hbz := Lib.hid (buf_zero w2 p hp8)
      obtain ⟨L2, hL2⟩ : ∃ L, L = L1 ++ Lib.decDigits u := ⟨_, rfl⟩
      have hl2 : L2.length ≤ 1000021 := by rw [hL2]; simp; omega
      rw [← hL2] at o2 hF2
      have HF2 := Lib.hid hF2
      clear hL2 hll hlu HF hF2 hf0
      go_wp2
      go_loopw [3, 13] (fun q i wr => ∃ (K : Nat) (a : Int) (tl : List UInt8), K ≤ p ∧ i = .int .i64 ((K : Int) - 1) ∧ q = .int .u64 a ∧ 0 ≤ a ∧ a < 100000000 ∧ BufAt w2.heap.size 33 8 K (tl ++ List.replicate (8 - p) 0) wr ∧ Below w2.heap.size w2 wr ∧ Hid (pad p f = pad K a.toNat ++ tl)) (fun _ i _ => (intOf i + 1).toNat)
      case atStart => exact ⟨p, FI, [], Nat.le_refl _, rfl, rfl, hFI0, hFI1, hbz.out, (Below.refl _ _).alloc (Nat.le_refl _) _, by show _ = _; rw [HFI.out]; simp⟩
      case round =>
        obtain ⟨K, a, tl, hK, rfl, rfl, ha0, ha, hBuf, hb, hE⟩ := hrel
        clear hbz
        rcases Nat.eq_zero_or_pos K with rfl | hpos
        · have hE1 : pad p f = tl := by rw [hE.out]; rfl
          subst hE1
          have hp1 : 1 ≤ p := by
            rcases Nat.eq_zero_or_pos p with h | h
            · have h1 := Hf.out; have h2 := Hf0.out; rw [h] at h1; simp at h1; omega
            · exact h
          clear hE
          go_wp2
          go_loop [14] (fun i => ∃ (e a : Nat), 1 ≤ e ∧ e ≤ p ∧ i = .int .i64 (e : Int) ∧ Hid (cut p f = cut e a ∧ a ≠ 0 ∧ a < 10 ^ e ∧ ∃ r, pad p f = pad e a ++ r)) (fun i => (intOf i).toNat)
          case atStart => exact ⟨p, f, hp1, Nat.le_refl _, rfl, rfl, Hf0.out, Hf.out, [], by simp⟩
          case round =>
            obtain ⟨e, x, he1, he2, rfl, hcut⟩ := hrel
            obtain ⟨hc1, hc2, hc3, r, hr⟩ := hcut.out
            obtain ⟨j, rfl⟩ : ∃ j, e = j + 1 := ⟨e - 1, by omega⟩
            have hje : ((j + 1 : Nat) : Int) - 1 = (j : Int) := by omega
            obtain ⟨c, hc⟩ : ∃ c, c = UInt8.ofNat (48 + x % 10) := ⟨_, rfl⟩
            obtain ⟨D, hD⟩ : ∃ D : Int, D = 48 + (x : Int) % 10 := ⟨_, rfl⟩
            have hcn : (c.toNat : Int) = D := by rw [hc, digit_toNat _ (by omega), hD]; omega
            have hcell : wr.cell? ⟨w2.heap.size, j, none⟩ = some (.int .u8 D) := by
              rw [hr, pad, ← hc, List.append_assoc, List.append_assoc] at hBuf
              have := hBuf.cells j (.int .u8 D) (by
                rw [bc_append, List.getElem?_append_right (by rw [bc_length, pad_len]; omega), bc_length, pad_len, Nat.sub_self, ← hcn]
                rfl)
              rw [addr_add, Nat.zero_add] at this
              exact this
            have hji : (j : Int) < p := by omega
            by_cases hz : x % 10 = 0
            · obtain rfl : D = 48 := by omega
              have hnew := Lib.hid (show cut p f = cut j (x / 10) ∧ x / 10 ≠ 0 ∧ x / 10 < 10 ^ j ∧ ∃ r, pad p f = pad j (x / 10) ++ r by
                refine ⟨by rw [hc1, cut, if_pos hz], by omega, by rw [Nat.pow_succ] at hc3; omega, _, by rw [hr, pad, List.append_assoc]⟩)
              have hj1 : 1 ≤ j := by
                rcases Nat.eq_zero_or_pos j with h | h
                · rw [h] at hc3; simp at hc3; omega
                · exact h
              clear hcut hc1 hc3 hr hc hcn c hD hBuf
              go_wp2
              go_round
              case rel => exact ⟨j, x / 10, hj1, by omega, by go_num, hnew.out⟩
              case measure => simp [intOf]
            · have hx48 : D ≠ 48 := by omega
              have hx1 : 0 ≤ D := by omega
              have hx2 : D ≤ 57 := by omega
              have hC : cut p f = pad (j + 1) x := by rw [hc1]; exact cut_stop _ _ hz
              obtain ⟨N, hN⟩ : ∃ N, N = pad (j + 1) x := ⟨_, rfl⟩
              have hNl : j + 1 = N.length := by rw [hN, pad_len]
              rw [← hN] at hr hC
              rw [hr, List.append_assoc] at hBuf
              obtain ⟨L3, hL3⟩ : ∃ L, L = L2 ++ [46] := ⟨_, rfl⟩
              obtain ⟨L4, hL4⟩ : ∃ L, L = L3 ++ N := ⟨_, rfl⟩
              have eL4 : FT = L4 := by rw [HF2.out, hC, hL4, hL3]; simp
              have hl3 : L3.length ≤ 1000022 := by rw [hL3]; simp; omega
              have HE4 := Lib.hid eL4
              have HL3 := Lib.hid hL3
              have HL4 := Lib.hid hL4
              have HN := Lib.hid hNl
              have HBuf := Lib.hid hBuf
              have hje1 : ((j + 1 : Nat) : Int) = (j : Int) + 1 := by omega
              have hBr := Nat.le_trans hB2 hb.size
              have hj8 : (j : Int) + 1 ≤ 8 := by omega
              have o2' := o2.on hb
              have hlim : L3.length + N.length ≤ 140737488355328 := by omega
              clear hcut hc1 hc2 hc3 hr hC hL3 hL4 eL4 hBuf hN hNl hc hcn hD c hz
              go_wp2_with (at_builtin; refine wpList_append1 rfl _ _ rfl B v2 L2 rfl (Dst.own o2') hBr 46 46 rfl L3 HL3.out rfl (by omega) ?_)
              intro v3 w3 o3 b3
              have hcl := (HBuf.out.step b3 (by decide)).front
              have hB3 := Nat.le_trans hBr b3.size
              clear o2 o2'
              go_wp2_with (at_builtin; refine wpList_append_dst rfl _ _ rfl B v3 L3 rfl (Dst.own o3) hB3 ⟨w2.heap.size, 0, none⟩ _ _ N L4 HL4.out rfl HN.out hcl (by have := HN.out; omega) hlim ?_)
              intro v4 w4 o4 b4
              go_wp2
              go_ret
              exact ⟨v4, rfl, by rw [HE4.out]; exact o4, ((b2.trans (Step.of hb hB2)).trans b3).trans b4⟩
        · obtain ⟨i, rfl⟩ : ∃ i, K = i + 1 := ⟨K - 1, by omega⟩
          have hi : (i : Int) < p := by omega
          obtain ⟨y, hy⟩ := hBuf.has i (by omega)
          have hfz := hBuf.free i
          obtain ⟨c, hc⟩ : ∃ c, c = UInt8.ofNat (48 + a.toNat % 10) := ⟨_, rfl⟩
          have hput := Lib.hid (hBuf.put c (48 + a % 10) (by rw [hc, digit_toNat _ (by omega)]; omega))
          have hb2 := Lib.hid (hb.setCell (p := ⟨w2.heap.size, i, none⟩) (Nat.le_refl _) (.int .u8 (48 + a % 10)))
          have HE := Lib.hid (show pad p f = pad i (a / 10).toNat ++ (c :: tl) by rw [hE.out, pad, hc, show (a / 10).toNat = a.toNat / 10 from by omega]; simp)
          have hji : ((i + 1 : Nat) : Int) - 1 = (i : Int) := by omega
          rw [hji]
          clear hBuf hb hc hE
          go_wp2
          go_roundw
          case rel => exact ⟨i, a / 10, c :: tl, by omega, by go_num, rfl, by omega, by omega, hput.out, hb2.out, HE.out⟩
          case measure => simp [intOf]
end Go.Proofs.Qxb6602894aDoor
