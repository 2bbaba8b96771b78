import Derived.WalkKit
namespace Go.Proofs.Qxb6604555aDoor
open Go.RowKit

/-- Block B is an array of n bytes of the call's own whose places from i on hold the bytes tl. -/
def BufAt (B : Nat) (t : TypeId) (n i : Nat) (tl : List UInt8) (w : World) : Prop :=
  ∃ cur : Array Value, w.heap[B]? = some (.cells cur t (0, 0)) ∧ cur.size = n ∧ cur.toList.drop i = tl.map (fun b => Value.int .u8 (b.toNat : Int)) ∧ i + tl.length = n

theorem BufAt.lt {B : Nat} {t : TypeId} {n i : Nat} {tl : List UInt8} {w : World} (h : BufAt B t n i tl w) : B < w.heap.size := by
  obtain ⟨cur, h, _⟩ := h; exact lt_of_block h

theorem BufAt.has {B : Nat} {t : TypeId} {n i : Nat} {tl : List UInt8} {w : World} (h : BufAt B t n i tl w) (j : Nat) (hj : j < n) : ∃ v, w.cell? ⟨B, j, none⟩ = some v := by
  obtain ⟨cur, h, hs, _⟩ := h
  exact ⟨cur[j]'(by omega), by simp [World.cell?, h, hs, hj]⟩

theorem BufAt.free {B : Nat} {t : TypeId} {n i : Nat} {tl : List UInt8} {w : World} (h : BufAt B t n i tl w) (j : Nat) : w.frozen? ⟨B, j, none⟩ = false := by
  obtain ⟨cur, h, hs, _⟩ := h
  simp [World.frozen?, h]

theorem BufAt.cell {B : Nat} {t : TypeId} {n i : Nat} {tl : List UInt8} {w : World} (h : BufAt B t n i tl w) (j : Nat) (hj : j < tl.length) : w.cell? ⟨B, i + j, none⟩ = some (.int .u8 (tl[j].toNat : Int)) := by
  obtain ⟨cur, h, hs, hd, hl⟩ := h
  have e := congrArg (·[j]?) hd
  simp only [List.getElem?_drop, List.getElem?_map, List.getElem?_eq_getElem hj, Option.map_some] at e
  simp [World.cell?, h]
  simpa using e

theorem heap_setCell_at {w : World} {b : Nat} {cur : Array Value} {t : TypeId} {f : Nat × Nat} (h : w.heap[b]? = some (.cells cur t f)) (o : Nat) (u : Value) : (w.setCell ⟨b, o, none⟩ u).heap[b]? = some (.cells (cur.setIfInBounds o u) t f) := by
  have hlt := lt_of_block h
  have h' : w.heap[b] = .cells cur t f := by simpa [Array.getElem?_eq_getElem hlt] using h
  show (w.heap.modify b _)[b]? = _
  rw [Array.getElem?_eq_getElem (by simpa using hlt), Array.getElem_modify_self, h']
  rfl

theorem drop_set_prev {α : Type} (l : List α) (i : Nat) (x : α) (h : i < l.length) : (l.set i x).drop i = x :: l.drop (i + 1) := by
  rw [List.drop_eq_getElem_cons (by simpa using h)]
  simp [List.drop_set_of_lt]

theorem BufAt.put {B : Nat} {t : TypeId} {n i : Nat} {tl : List UInt8} {w : World} (h : BufAt B t n (i + 1) tl w) (c : UInt8) : BufAt B t n i (c :: tl) (w.setCell ⟨B, i, none⟩ (.int .u8 (c.toNat : Int))) := by
  obtain ⟨cur, h, hs, hd, hl⟩ := h
  refine ⟨_, heap_setCell_at h i _, by simpa using hs, ?_, by simp; omega⟩
  rw [Array.toList_setIfInBounds, drop_set_prev _ _ _ (by simp; omega), hd]
  rfl

theorem BufAt.fresh (w : World) (t : TypeId) (cur : Array Value) (n : Nat) (h : cur.size = n) : BufAt w.heap.size t n n [] (w.alloc (.cells cur t)) :=
  ⟨cur, heap_alloc_new w _, h, by simp [List.drop_of_length_le, h], by simp⟩

theorem addr_add (b o i : Nat) : (⟨b, o, none⟩ : Addr).add i = ⟨b, o + i, none⟩ := by unfold Addr.add; split <;> simp_all

theorem BufAt.cellAdd {B : Nat} {t : TypeId} {n i : Nat} {tl : List UInt8} {w : World} (h : BufAt B t n i tl w) (j : Nat) (hj : j < tl.length) : w.cell? ((⟨B, i, none⟩ : Addr).add j) = some (.int .u8 (tl[j].toNat : Int)) := by
  rw [addr_add]; exact h.cell j hj
end Go.Proofs.Qxb6604555aDoor
