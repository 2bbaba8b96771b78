import Derived.Test.Qxb6602894aDoorFixed
import Derived.ProofKit
import Derived.OpenShut
namespace Go.Proofs.Qxb6602894aDoor
open Go.RowKit

theorem Rd.dst {B : Nat} {w : World} {v : Value} {l : List UInt8} (h : Dst B w v l) : Rd w.heap.size w v l := by
  rcases h with h | ⟨a, hv, h0, hc⟩
  · exact Rd.own h
  · cases a with
    | none =>
      have hl : l = [] := List.eq_nil_of_length_eq_zero (h0 rfl)
      subst hl
      rw [hv]; exact Rd.nil _ _
    | some b =>
      by_cases hl : l.length = 0
      · have hl : l = [] := List.eq_nil_of_length_eq_zero hl
        subst hl
        exact ⟨_, 0, 0, _, hv, fun h => absurd h (by simp), fun j hj => absurd hj (by simp)⟩
      · have hx := hc b rfl 0 _ (bc_at l 0 (by omega))
        have hsp := World.cell?_spot hx
        have hlt := World.block_lt_of_cell? w _ hx
        obtain ⟨bb, o, sp⟩ := b
        simp only [Addr.add, if_true] at hsp hlt
        subst hsp
        refine ⟨_, bb, o, _, hv, fun _ => ⟨rfl, hlt⟩, fun j hj => ?_⟩
        have := hc _ rfl j _ (bc_at l j hj)
        rwa [addr_add] at this

open Go.ChangeShapes Go.WideShapes Go.ChangeAt in
/-- A slice of bytes that the caller handed in, opened. -/
theorem rd_open {H : Type} {enc : TypeId × Value → H} {W : World} {a0 : Option Addr} {len cap : Nat} {d : DataW H} {ps : List MemPlace}
    (h : DataW.Trod enc Tryd.prog W 0 (fun _ => true) true 22 (.slice a0 len cap) d ps) : ∃ l : List UInt8, l.length = len ∧ len ≤ maxLen ∧ Rd W.heap.size W (.slice a0 len cap) l := by
  obtain ⟨fuel, hf⟩ := h
  rcases open_ints Tryd.underlying22 Tryd.underlying5 (show Tryd.prog.cellsOf 5 = 1 by kernel_rfl) hf with ⟨hcs, _⟩ | ⟨a, len', cap', zs, hcs, _, hl, hm, hz, _, hcell, hwz⟩
  · simp [Value.cells] at hcs
    obtain ⟨rfl, rfl, rfl⟩ := hcs
    exact ⟨[], rfl, Nat.zero_le _, Rd.nil _ _⟩
  · simp [Value.cells] at hcs
    obtain ⟨rfl, rfl, rfl⟩ := hcs
    simp only [if_true] at hz
    have hget : ∀ j, j < len → zs.getD j 0 ∈ zs := fun j hj => by
      rw [List.getD_eq_getElem?_getD, List.getElem?_eq_getElem (by omega)]; simp
    have hlen : ((zs.take len).map fun z => UInt8.ofNat z.toNat).length = len := by simp; omega
    refine ⟨(zs.take len).map fun z => UInt8.ofNat z.toNat, hlen, by omega, ?_⟩
    by_cases h0 : len = 0
    · subst h0
      exact ⟨some a, 0, 0, cap, by simp, fun h => absurd h (by simp), fun j hj => absurd hj (by simp)⟩
    · have hx := hcell 0 (by omega)
      have hsp := World.cell?_spot hx
      have hlt := World.block_lt_of_cell? W _ hx
      obtain ⟨bb, o, sp⟩ := a
      simp only [Addr.add, if_true] at hsp hlt
      subst hsp
      refine ⟨_, bb, o, _, by rw [hlen], fun _ => ⟨rfl, hlt⟩, fun j hj => ?_⟩
      have hj' : j < len := by rw [hlen] at hj; exact hj
      have h1 := hcell j (by omega)
      rw [addr_add] at h1
      rw [h1]
      have hw := hwz _ (hget j hj')
      have hb : 0 ≤ zs.getD j 0 ∧ zs.getD j 0 ≤ 255 := by
        simpa [Lit.wf, IntKind.min, IntKind.max, IntKind.signed, IntKind.bits] using hw
      have e : ((zs.take len).map fun z => UInt8.ofNat z.toNat)[j] = UInt8.ofNat (zs.getD j 0).toNat := by
        simp [List.getD_eq_getElem?_getD, List.getElem?_eq_getElem (show j < zs.length by omega)]
      rw [e]
      generalize zs.getD j 0 = z at hb ⊢
      have : (UInt8.ofNat z.toNat).toNat = z.toNat := by
        simp; omega
      rw [this]
      congr 2
      omega

set_option maxHeartbeats 400000 in
theorem zz10 (B : Nat) (neg : Bool) (u f p : Nat) (hu64 : u < 18446744073709551616) (hp8 : p ≤ 8) (hf : f < 10 ^ p) (v : Value) (l : List UInt8) (w : World) (hd : Dst B w v l) (hB : B ≤ w.heap.size) (hl : l.length ≤ 1000000)
    (htab : Lib.TabBelow Tryd.prog B w powName .u64 Lib.pow10Tab) :
    Calls Tryd.prog 10 #[v, .bool neg, .int .u64 (u : Int), .int .u64 (f : Int), .int .i64 (p : Int)] w fun e w' => ∃ v', e = .returned v' ∧ Own B w' v' (l ++ fixedText neg u f p) ∧ Step B w w' := by
  have H := Lib.hid (fixed_any B neg u f p hu64 hp8 hf v l w hd hB hl htab)
  clear hu64 htab hd hB hf
  go_enter Tryd.func10, Tryd.ntmps10
  go_wp2_with fail
  refine H.out.mono ?_
  rintro e w1 ⟨v1, rfl, o1, b1⟩
  go_wp2
  go_ret
  exact ⟨v1, rfl, o1, b1⟩
end Go.Proofs.Qxb6602894aDoor
