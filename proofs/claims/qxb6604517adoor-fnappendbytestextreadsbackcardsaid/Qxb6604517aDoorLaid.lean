import Derived.Test.Qxb6604517aDoorAbAll
import Derived.ProofKit
import Derived.LaidMore
import Derived.OpenShut
import Derived.Stop.Joined
import Derived.Stop.LaidErr
import Derived.Lib.ItoaMem
import Derived.Test.Qxb6604517aDoorTie
import Derived.Test.Qxb6604517aDoorCards
namespace Go.Proofs.Qxb6604517aDoor
open Go.ChangeShapes Go.WideShapes Go.ChangeAt Go.WideMaps Go.WideElems Go.RowKit

theorem own : ownKnob Tryd.prog.godebug = none := by kernel_rfl
theorem laidOut : laidOutB Tryd.prog = true := by kernel_rfl

def z4Name : String := (Rows.fnAppendBytesMatchesNotationModelRow.named.drop 0).headD ""
def z6Name : String := (Rows.fnAppendBytesMatchesNotationModelRow.named.drop 1).headD ""
def z0Name : String := (Rows.fnAppendBytesMatchesNotationModelRow.named.drop 2).headD ""
theorem gPow : Tryd.prog.globalNamed powName = some 3 := by kernel_rfl
theorem g4 : Tryd.prog.globalNamed z4Name = some 1 := by kernel_rfl
theorem g6 : Tryd.prog.globalNamed z6Name = some 2 := by kernel_rfl
theorem g0 : Tryd.prog.globalNamed z0Name = some 0 := by kernel_rfl
theorem tPow : (Tryd.prog.globals[3]?).map (·.type) = some 93 := by kernel_rfl
theorem t4 : (Tryd.prog.globals[1]?).map (·.type) = some 62 := by kernel_rfl
theorem t6 : (Tryd.prog.globals[2]?).map (·.type) = some 62 := by kernel_rfl
theorem t0 : (Tryd.prog.globals[0]?).map (·.type) = some 62 := by kernel_rfl
theorem cells37 : Tryd.prog.cellsOf 37 = 1 := by kernel_rfl
theorem cells93 : Tryd.prog.cellsOf 93 = 20 := by kernel_rfl
theorem cells62 : Tryd.prog.cellsOf 62 = 1 := by kernel_rfl
theorem cells60 : Tryd.prog.cellsOf 60 = 1 := by kernel_rfl
theorem cells79 : Tryd.prog.cellsOf 79 = 2 := by kernel_rfl
theorem powData : (Rows.laid_internal_strconv_uint64pow10 : DataW Unit) = Lib.tabData .u64 Lib.pow10Tab := by kernel_rfl

theorem rest_of_laid {W : World} (h : laidMetH Tryd.prog Rows.fnAppendBytesMatchesNotationModelRow.laid W) :
    laidMet Tryd.prog [(powName, Rows.laid_internal_strconv_uint64pow10), (z4Name, Rows.laid_net_netip_z4), (z6Name, Rows.laid_net_netip_z6noz), (z0Name, Rows.laid_net_netip_z0)] W := by
  rw [MakeChecks.laidMetH_plain _ _ _ (by kernel_rfl)] at h
  exact h.tail.tail

theorem pow_of_laid {W : World} (h : laidMetH Tryd.prog Rows.fnAppendBytesMatchesNotationModelRow.laid W) : Lib.TabIs Tryd.prog W powName .u64 Lib.pow10Tab := by
  have h2 := rest_of_laid h
  rw [powData] at h2
  exact Lib.tabIs_of_head gPow tPow Tryd.underlying93 Tryd.underlying37 cells37 cells93 h2

section
variable {H : Type} {enc : TypeId × Value → H} {W : World} {base : Nat} {sp : Nat → Bool} {held : Bool}
theorem handle_in {fuel : Nat} {cs : List Value} {d : DataW H} {p : List MemPlace} (h : DataW.trod enc Tryd.prog W base sp held fuel 62 cs = some (.agg [d], p)) :
    ∃ n, DataW.trod enc Tryd.prog W base sp held n 60 cs = some (d, p) := by
  obtain ⟨xs, n, _, hx, hl, hs, hf⟩ := DataW.trod_struct Tryd.underlying62 h
  rw [cells62] at hl
  have h0 : DataW.trod enc Tryd.prog W base sp held n 60 ((cs.drop 0).take (Tryd.prog.cellsOf 60)) = xs[0]? := hf 0 _ rfl
  simp only [Prod.mk.injEq, DataW.agg.injEq] at hx
  obtain ⟨e1, e2⟩ := hx
  match xs, hs with
  | [y], _ =>
    simp only [List.map_cons, List.map_nil, List.cons.injEq, and_true, List.flatMap_cons, List.flatMap_nil, List.append_nil] at e1 e2
    refine ⟨n, ?_⟩
    rw [List.drop_zero, cells60, List.take_of_length_le (by omega)] at h0
    rw [h0, e1, e2]
    rfl
theorem handle_some {fuel : Nat} {cs : List Value} {d : DataW H} {p : List MemPlace} (h : DataW.trod enc Tryd.prog W base sp held fuel 62 cs = some (.agg [.ptr d], p)) :
    ∃ a q, cs = [.pointer (some a)] ∧ p = MemPlace.row a 2 ++ q := by
  obtain ⟨n, h⟩ := handle_in h
  obtain ⟨_, a, _, q, e, _, _, hp⟩ := ptr_of_trod Tryd.underlying60 h
  rw [cells79] at hp
  exact ⟨a, q, e, hp⟩
theorem handle_nil {fuel : Nat} {cs : List Value} {p : List MemPlace} (h : DataW.trod enc Tryd.prog W base sp held fuel 62 cs = some (.agg [.nil], p)) : cs = [.pointer none] := by
  obtain ⟨n, h⟩ := handle_in h
  rcases DataW.trod_pointer Tryd.underlying60 h with ⟨e, _⟩ | ⟨_, _, _, _, _, _, hx, _⟩
  · exact e
  · simp at hx
end

theorem zs_of_laid {W : World} (h : laidMetH Tryd.prog Rows.fnAppendBytesMatchesNotationModelRow.laid W) : ∃ a4 a6, Zs W.heap.size W a4 a6 := by
  have h2 := (rest_of_laid h).tail
  obtain ⟨ps, ⟨g, t, cs4, f4, p4, q4, hg, ht, hv4, hd4, ⟨g', t', cs6, f6, p6, q6, hg', ht', hv6, hd6, ⟨g'', t'', cs0, f0, p0, q0, hg'', ht'', hv0, hd0, hq0, e0⟩, e6⟩, e4⟩, hnd, hrows⟩ := h2
  obtain rfl := Option.some.inj (g4.symm.trans hg)
  obtain rfl := Option.some.inj (g6.symm.trans hg')
  obtain rfl := Option.some.inj (g0.symm.trans hg'')
  obtain rfl := Option.some.inj (t4.symm.trans ht)
  obtain rfl := Option.some.inj (t6.symm.trans ht')
  obtain rfl := Option.some.inj (t0.symm.trans ht'')
  obtain ⟨a4, r4, c4, rfl⟩ := handle_some hd4
  obtain ⟨a6, r6, c6, rfl⟩ := handle_some hd6
  have c0 := handle_nil hd0
  subst e0
  subst e6
  subst e4
  have v4 : W.cell? ⟨1, 0, none⟩ = some (.pointer (some a4)) := by
    rw [World.var?_cell g4 hv4 0, ← Array.getElem?_toList, c4]; rfl
  have v6 : W.cell? ⟨2, 0, none⟩ = some (.pointer (some a6)) := by
    rw [World.var?_cell g6 hv6 0, ← Array.getElem?_toList, c6]; rfl
  have v0 : W.cell? ⟨0, 0, none⟩ = some (.pointer none) := by
    rw [World.var?_cell g0 hv0 0, ← Array.getElem?_toList, c0]; rfl
  obtain ⟨x4, s4, b4⟩ := (hrows a4.block a4.off (by simp [MemPlace.row])).1
  obtain ⟨x6, s6, b6⟩ := (hrows a6.block a6.off (by simp [MemPlace.row])).1
  refine ⟨a4, a6, v0, v4, v6, ?_, ⟨x4, s4, b4⟩, ⟨x6, s6, b6⟩, World.block_lt_of_cell? W _ v6, lt_of_block b4, lt_of_block b6⟩
  rintro rfl
  have hm : MemPlace.cell a4.block a4.off ∈ MemPlace.row a4 2 := by simp [MemPlace.row]
  rw [List.append_assoc, List.nodup_append] at hnd
  have h3 := hnd.2.1
  rw [List.nodup_append] at h3
  exact h3.2.2 _ (List.mem_append_left _ hm) _ (List.mem_append_left _ (List.mem_append_right _ (List.mem_append_left _ hm))) rfl

/-- A slice of bytes that the caller handed in, opened. -/
theorem rd_open {H : Type} {enc : TypeId × Value → H} {W : World} {a0 : Option Addr} {len cap : Nat} {d : DataW H} {ps : List MemPlace}
    (h : DataW.Trod enc Tryd.prog W 0 (fun _ => true) true 22 (.slice a0 len cap) d ps) : ∃ l : List UInt8, l.length = len ∧ len ≤ maxLen ∧ Rd W.heap.size W (.slice a0 len cap) l := by
  obtain ⟨fuel, hf⟩ := h
  rcases open_ints Tryd.underlying22 Tryd.underlying5 (show Tryd.prog.cellsOf 5 = 1 by kernel_rfl) hf with ⟨hcs, _⟩ | ⟨a, len', cap', zs, hcs, _, hl, hm, hz, _, hcell, hwz⟩
  · simp [Value.cells] at hcs
    obtain ⟨rfl, rfl, rfl⟩ := hcs
    exact ⟨[], rfl, Nat.zero_le _, Rd.nil _ _⟩
  · simp [Value.cells] at hcs
    obtain ⟨rfl, rfl, rfl⟩ := hcs
    simp only [if_true] at hz
    have hget : ∀ j, j < len → zs.getD j 0 ∈ zs := fun j hj => by
      rw [List.getD_eq_getElem?_getD, List.getElem?_eq_getElem (by omega)]; simp
    have hlen : ((zs.take len).map fun z => UInt8.ofNat z.toNat).length = len := by simp; omega
    refine ⟨(zs.take len).map fun z => UInt8.ofNat z.toNat, hlen, by omega, ?_⟩
    by_cases h0 : len = 0
    · subst h0
      exact ⟨some a, 0, 0, cap, by simp, fun h => absurd h (by simp), fun j hj => absurd hj (by simp)⟩
    · have hx := hcell 0 (by omega)
      have hsp := World.cell?_spot hx
      have hlt := World.block_lt_of_cell? W _ hx
      obtain ⟨bb, o, sp⟩ := a
      simp only [Addr.add, if_true] at hsp hlt
      subst hsp
      refine ⟨_, bb, o, _, by rw [hlen], fun _ => ⟨rfl, hlt⟩, fun j hj => ?_⟩
      have hj' : j < len := by rw [hlen] at hj; exact hj
      have h1 := hcell j (by omega)
      rw [addr_add] at h1
      rw [h1]
      have hw := hwz _ (hget j hj')
      have hb : 0 ≤ zs.getD j 0 ∧ zs.getD j 0 ≤ 255 := by
        simpa [Lit.wf, IntKind.min, IntKind.max, IntKind.signed, IntKind.bits] using hw
      have e : ((zs.take len).map fun z => UInt8.ofNat z.toNat)[j] = UInt8.ofNat (zs.getD j 0).toNat := by
        simp [List.getD_eq_getElem?_getD, List.getElem?_eq_getElem (show j < zs.length by omega)]
      rw [e]
      generalize zs.getD j 0 = z at hb ⊢
      have : (UInt8.ofNat z.toNat).toNat = z.toNat := by
        simp; omega
      rw [this]
      congr 2
      omega

end Go.Proofs.Qxb6604517aDoor
