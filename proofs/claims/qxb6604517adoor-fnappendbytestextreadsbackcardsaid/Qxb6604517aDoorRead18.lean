import Derived.Test.Qxb6604517aDoorRead17
import Derived.Test.Qxb6604517aDoorLaw3
namespace Go.Proofs.Qxb6604517aDoor
open Go.RowKit

theorem Dst.open' {B : Nat} {w : World} {v : Value} {L : List UInt8} (h : Dst B w v L) (h0 : 0 < L.length) : ∃ g o cap : Nat, v = .slice (some ⟨g, o, none⟩) L.length cap ∧ L.length ≤ cap ∧ g < w.heap.size ∧ At w g o L := by
  have hr := Rd.dst h
  obtain ⟨a, g, o, cap, hv, h1, h2⟩ := hr
  obtain ⟨ha, hg⟩ := h1 h0
  refine ⟨g, o, cap, by rw [hv, ha], ?_, hg, h2⟩
  rcases h with h | ⟨a', hv', _⟩
  · rcases h.2 with ⟨hv', hl⟩ | ⟨g', cap', cur, hv', _, _, r1, _⟩
    · omega
    · rw [hv] at hv'
      cases hv'
      exact r1
  · rw [hv] at hv'
    cases hv'
    exact Nat.le_refl _
theorem Dst.open0 {B : Nat} {w : World} {v : Value} {L : List UInt8} (h : Dst B w v L) (h0 : L.length = 0) : v = .slice none 0 0 ∨ ∃ (p : Addr) (cap : Nat), v = .slice (some p) 0 cap := by
  rcases h with h | ⟨a', hv', h1, _⟩
  · rcases h.2 with ⟨hv', hl⟩ | ⟨g', cap', cur, hv', _⟩
    · exact Or.inl hv'
    · exact Or.inr ⟨_, cap', by rw [hv', h0]⟩
  · cases a' with
    | none => exact Or.inl (by rw [hv', h0])
    | some b => exact Or.inr ⟨b, _, by rw [hv', h0]⟩
theorem At.rd {w : World} {g o cap : Nat} {l : List UInt8} (h : At w g o l) (hg : g < w.heap.size) : Rd w.heap.size w (.slice (some ⟨g, o, none⟩) l.length cap) l :=
  ⟨_, g, o, cap, rfl, fun _ => ⟨rfl, hg⟩, h⟩

theorem info29 : (Tryd.prog.info? 29).map (·.size) = some 4 := by kernel_rfl
def agg4 (f : Nat → Int) : Value := .agg #[.int .u8 (f 0), .int .u8 (f 1), .int .u8 (f 2), .int .u8 (f 3)]
def row4 (f : Nat → Int) : Array Value := #[.int .u8 (f 0), .int .u8 (f 1), .int .u8 (f 2), .int .u8 (f 3)]
theorem row4_at (f : Nat → Int) (i : Nat) (h : i < 4) : (row4 f)[i]? = some (.int .u8 (f i)) := by
  have : i = 0 ∨ i = 1 ∨ i = 2 ∨ i = 3 := by omega
  rcases this with rfl | rfl | rfl | rfl <;> rfl
theorem BN.arr4_of {f : Nat → Int} {G : Nat} {w : World} (h : w.heap[G]? = some (.cells (row4 f) 29 (0, 0))) : BN 29 4 .u8 f G 4 w :=
  ⟨_, h, rfl, fun i hi => row4_at f i hi, fun i h1 h2 => absurd h2 (by omega)⟩
theorem wpl_store4 {ops : Array Oper} {rest : List Oper} {o : Oper} {a : Act} {w : World} {Q : Exit → Act → World → Prop} (hgd : o.guard = none) (x y : Operand) (ho : o.op = .store 29 x y)
    (G : Nat) (f : Nat → Int) (hx : a.eval x = .pointer (some ⟨G, 0, none⟩)) (hy : a.eval y = agg4 f) {f0 : Nat → Int} {k : Nat} (hB : BN 29 4 .u8 f0 G k w)
    (h : ∀ W, BN 29 4 .u8 f G 4 W → Only G w W → wpList Tryd.prog ops Q rest (a.put o.dst undef) W) : wpList Tryd.prog ops Q (o :: rest) a w := by
  obtain ⟨cur, hg, hs, _⟩ := hB
  refine wpList_store_row hgd 29 x y ho G (row4 f) hx hy 29 cur hg info29 hs (by simp [row4, Value.oneCell']) (h _ (BN.arr4_of (setRow_heap w G cur _ 29 (0, 0) hg)) (Only.row _ _ _))

theorem BN.rd {ty : TypeId} {n : Nat} {G : Nat} {w : World} {t : List UInt8} (ht : t.length = n) (h : BN ty n .u8 (fun i => ((t.getD i 0).toNat : Int)) G n w) : Rd w.heap.size w (.slice (some ⟨G, 0, none⟩) n n) t := by
  subst ht
  refine ⟨_, G, 0, _, rfl, fun _ => ⟨rfl, h.lt⟩, fun j hj => ?_⟩
  rw [Nat.zero_add, h.cell j hj, List.getD_eq_getElem?_getD, List.getElem?_eq_getElem hj]
  rfl

theorem ipText_pos (t : List UInt8) : 0 < (ipText t).length := by
  unfold ipText
  split
  · simp [mappedHead]
  · unfold text6
    split
    · rw [body_jn]; exact jn_pos _ _ _ (by omega)
    · simp; omega
end Go.Proofs.Qxb6604517aDoor
