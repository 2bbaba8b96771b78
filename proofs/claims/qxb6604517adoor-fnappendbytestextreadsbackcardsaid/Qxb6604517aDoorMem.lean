import Derived.Test.Qxb6604517aDoorRows
import Derived.WalkKit
import Derived.ArgAppend
import Derived.Deep.RegionLaw
import Derived.Deep.QuietTactic
import Derived.BigQuiet
import Derived.WalkSpells
import Derived.Lib.UnsafeStr
import Derived.Lib.BufferWrite
import Derived.Lib.Hide
import Derived.Lib.AppendStr
namespace Go.Proofs.Qxb6604517aDoor
open Go.RowKit

theorem infoByte : (Tryd.prog.info? 5).map (fun i => (i.zero, i.size, i.bytes)) = some (some (.int .u8 0), 1, 1) := by kernel_rfl

/-! ### Bytes as cells -/
/-- The cells of a row of bytes. -/
def bc (l : List UInt8) : List Value := Lib.byteCells l
theorem bc_length (l : List UInt8) : (bc l).length = l.length := Lib.byteCells_length l
theorem bc_append (a b : List UInt8) : bc (a ++ b) = bc a ++ bc b := Lib.byteCells_append a b
theorem bc_at (l : List UInt8) (j : Nat) (h : j < l.length) : (bc l)[j]? = some (.int .u8 (l[j].toNat : Int)) := by simp [bc, Lib.byteCells, h]
theorem bc_some (l : List UInt8) (j : Nat) (u : Value) (h : (bc l)[j]? = some u) : ∃ hj : j < l.length, u = .int .u8 (l[j].toNat : Int) := by
  have hj : j < l.length := by
    have := (List.getElem?_eq_some_iff.1 h).1
    rwa [bc_length] at this
  exact ⟨hj, by rw [bc_at l j hj] at h; exact (Option.some.inj h).symm⟩
theorem bc_one (l : List UInt8) : ∀ u ∈ bc l, u.oneCell' = true := Lib.byteCells_one l

theorem addr_add (b o i : Nat) : (⟨b, o, none⟩ : Addr).add i = ⟨b, o + i, none⟩ := by unfold Addr.add; split <;> simp_all

/-! ### A slice that is read -/
/-- The slice value v reads, in the world w, as the bytes l; its cells lie below block B. -/
def Rd (B : Nat) (w : World) (v : Value) (l : List UInt8) : Prop :=
  ∃ (a : Option Addr) (b o cap : Nat), v = .slice a l.length cap ∧ (0 < l.length → a = some ⟨b, o, none⟩ ∧ b < B) ∧ ∀ j (hj : j < l.length), w.cell? ⟨b, o + j, none⟩ = some (.int .u8 (l[j].toNat : Int))

theorem Rd.on {B : Nat} {w w' : World} {v : Value} {l : List UInt8} (h : Rd B w v l) (hb : Below B w w') : Rd B w' v l := by
  obtain ⟨a, b, o, cap, hv, h1, h2⟩ := h
  refine ⟨a, b, o, cap, hv, h1, fun j hj => ?_⟩
  rw [hb.cell (p := ⟨b, o + j, none⟩) (h1 (by omega)).2]
  exact h2 j hj

theorem Rd.mono {B B' : Nat} {w : World} {v : Value} {l : List UInt8} (h : Rd B w v l) (hB : B ≤ B') : Rd B' w v l := by
  obtain ⟨a, b, o, cap, hv, h1, h2⟩ := h
  exact ⟨a, b, o, cap, hv, fun h0 => ⟨(h1 h0).1, Nat.lt_of_lt_of_le (h1 h0).2 hB⟩, h2⟩

theorem Rd.nil (B : Nat) (w : World) : Rd B w (.slice none 0 0) [] := ⟨none, 0, 0, 0, rfl, fun h => absurd h (by simp), fun j hj => absurd hj (by simp)⟩

/-- The slice value v is a row of the call's own (its block from B on) that holds just the bytes l. -/
def Own (B : Nat) (w : World) (v : Value) (l : List UInt8) : Prop := w.ownsRow B 5 1 v l.length (bc l)

/-- What is owned is read. -/
theorem Rd.own {B : Nat} {w : World} {v : Value} {l : List UInt8} (h : Own B w v l) : Rd w.heap.size w v l := by
  rcases h.2 with ⟨hv, h0⟩ | ⟨g, cap, cur, hv, hg, hh, r⟩
  · have : l = [] := List.eq_nil_of_length_eq_zero h0
    subst this
    rw [hv]; exact Rd.nil _ _
  · subst hv
    refine ⟨_, g, 0, cap, rfl, fun _ => ⟨rfl, lt_of_block hh⟩, fun j hj => ?_⟩
    have := h.cells (g := g) rfl j _ (bc_at l j hj)
    rwa [addr_add] at this

/-! ### What a step of a call that appends leaves -/
/-- Below block B nothing has turned, and no block that is not a row of bytes. -/
structure Step (B : Nat) (w w' : World) : Prop where
  below : Below B w w'
  other : ∀ (k : Nat) (c : Array Value) (t : TypeId) (f : Nat × Nat), w.heap[k]? = some (.cells c t f) → t ≠ 5 → w'.heap[k]? = some (.cells c t f)

theorem Step.refl (B : Nat) (w : World) : Step B w w := ⟨Below.refl _ _, fun _ _ _ _ h _ => h⟩
theorem Step.trans {B : Nat} {a b c : World} (h : Step B a b) (k : Step B b c) : Step B a c :=
  ⟨h.below.trans k.below, fun i x t f hi ht => k.other i x t f (h.other i x t f hi ht) ht⟩
theorem Step.size {B : Nat} {w w' : World} (h : Step B w w') : w.heap.size ≤ w'.heap.size := h.below.size
theorem Step.of {B : Nat} {w w' : World} (h : Below w.heap.size w w') (hB : B ≤ w.heap.size) : Step B w w' :=
  ⟨h.mono hB, fun k _ _ _ hk _ => (h.block k (lt_of_block hk)).trans hk⟩
theorem Step.alloc {B : Nat} {w : World} (hB : B ≤ w.heap.size) (o : Obj) : Step B w (w.alloc o) := Step.of ((Below.refl _ _).alloc (Nat.le_refl _) o) hB

/-! ### A slice that is appended to -/
/-- What is appended to: a row of the call's own (its block from B on), or a slice without spare (an append onto it makes a new row). -/
def Dst (B : Nat) (w : World) (v : Value) (l : List UInt8) : Prop :=
  w.ownsRow B 5 1 v l.length (bc l) ∨ ∃ a : Option Addr, v = .slice a l.length l.length ∧ (a = none → l.length = 0) ∧ ∀ b, a = some b → ∀ j u, (bc l)[j]? = some u → w.cell? (b.add j) = some u

theorem Dst.nil (B : Nat) (w : World) : Dst B w (.slice none 0 0) [] := Or.inl (World.ownsRow_nil _ _ _ _)

/-- Where old cells stand, it may be appended to still. -/
theorem Dst.alloc {B : Nat} {w : World} {v : Value} {l : List UInt8} (h : Dst B w v l) (o : Obj) : Dst B (w.alloc o) v l := by
  rcases h with h | ⟨a, hv, h0, hc⟩
  · exact Or.inl (h.alloc o)
  · refine Or.inr ⟨a, hv, h0, fun b hb j u hj => ?_⟩
    have hx := hc b hb j u hj
    have hlt := World.block_lt_of_cell? w _ hx
    rw [(Below.alloc (Below.refl w.heap.size w) (Nat.le_refl _) o).cell (p := b.add j) hlt]
    exact hx

theorem Dst.drewN {B : Nat} {w : World} {v : Value} {l : List UInt8} (h : Dst B w v l) (k : Nat) : Dst B (w.drewN k) v l := h
theorem Dst.drew {B : Nat} {w : World} {v : Value} {l : List UInt8} (h : Dst B w v l) : Dst B w.drew v l := h

theorem Dst.own {B : Nat} {w : World} {v : Value} {l : List UInt8} (h : Own B w v l) : Dst B w v l := Or.inl h

theorem ownsRow_mono {B B' : Nat} {w : World} {e : TypeId} {size n : Nat} {v : Value} {xs : List Value} (h : w.ownsRow B e size v n xs) (hB : B' ≤ B) : w.ownsRow B' e size v n xs := by
  obtain ⟨h1, h2⟩ := h
  refine ⟨h1, ?_⟩
  rcases h2 with h2 | ⟨g, cap, cur, hv, hg, r⟩
  · exact Or.inl h2
  · exact Or.inr ⟨g, cap, cur, hv, Nat.le_trans hB hg, r⟩

/-- 'append(v, src...)', src at least one byte: what comes back owns the old bytes and the new ones; below B nothing has turned. -/
theorem run_append_dst (B : Nat) (w : World) (v : Value) (l : List UInt8) (hd : Dst B w v l) (hB : B ≤ w.heap.size) (ad : Addr) (c : Nat) (new : List UInt8)
    (hnew : ∀ j u, (bc new)[j]? = some u → w.cell? (ad.add j) = some u) (h1 : 1 ≤ new.length) (hlen : l.length + new.length ≤ 140737488355328) (ty : TypeId) :
    ∃ v' w', (Builtin.append_ #[22, 22] ty #[v, .slice (some ad) new.length c]).run Tryd.prog w = .ok v' w' ∧ w'.ownsRow B 5 1 v' (l ++ new).length (bc (l ++ new)) ∧ Step B w w' := by
  obtain ⟨i0, hi, hz0, hz1, hz2⟩ := info_parts infoByte
  have e1 : (l ++ new).length = l.length + new.length := by simp
  have hmax : l.length + new.length ≤ maxLen := by unfold maxLen; omega
  rw [e1, bc_append]
  rcases hd with hd | ⟨a, hv, h0, hc⟩
  · obtain ⟨v', w', hr, ho, hg, _⟩ := run_append_own (P := Tryd.prog) w B 22 ty 5 i0 (.int .u8 0) 1 1 Tryd.underlying22 hi hz0 hz1 hz2 rfl (by decide) v l.length (bc l) hd ad new.length c (bc new) (by rw [bc_length]; omega) hnew (bc_one new) hmax (by omega) hB
    refine ⟨v', w', hr, ho, (Below.refl B w).grown hg hB (fun k hk => (hd.lt k hk).1), fun k c t f hk ht => ?_⟩
    rw [hg.block k (lt_of_block hk) (fun e => ?_)]
    · exact hk
    · rcases hd.2 with ⟨hv, _⟩ | ⟨g, cap, cur, hv, _, hh, _⟩
      · rw [hv] at e; cases e
      · rw [hv] at e
        simp only [Value.ownBlock, Option.some.injEq] at e
        subst e
        rw [hk] at hh
        simp only [Option.some.injEq, Obj.cells.injEq] at hh
        exact ht hh.2.1
  · subst hv
    cases a with
    | some b =>
      obtain ⟨v', w', hr, ho, hg⟩ := run_append_arg_grows (P := Tryd.prog) w 22 ty 5 i0 (.int .u8 0) 1 1 Tryd.underlying22 hi hz0 hz1 hz2 rfl (by decide) b l.length l.length (bc l) (by rw [bc_length]; omega) (hc b rfl) ad new.length c (bc new) (by rw [bc_length]; omega) hnew (by omega) hmax (by omega)
      exact ⟨v', w', hr, ownsRow_mono ho hB, Step.of ((Below.refl _ w).grown hg (Nat.le_refl _) (fun k hk => by cases hk)) hB⟩
    | none =>
      have hl : l = [] := List.eq_nil_of_length_eq_zero (h0 rfl)
      subst hl
      obtain ⟨v', w', hr, ho, hg, _⟩ := run_append_own (P := Tryd.prog) w B 22 ty 5 i0 (.int .u8 0) 1 1 Tryd.underlying22 hi hz0 hz1 hz2 rfl (by decide) (.slice none 0 0) 0 [] (World.ownsRow_nil _ _ _ _) ad new.length c (bc new) (by rw [bc_length]; omega) hnew (bc_one new) (by omega) (by omega) hB
      exact ⟨v', w', hr, by simpa [bc, Lib.byteCells] using ho, Step.of ((Below.refl _ w).grown hg (Nat.le_refl _) (fun k hk => by cases hk)) hB⟩

theorem wpList_append_dst {w : World} {ops : Array Oper} {rest : List Oper} {o : Oper} {a : Act} {Q : Exit → Act → World → Prop} (hgd : o.guard = none) (s x : Operand)
    (ho : o.op = .call { callee := .builtin .append, args := #[s, x], argTypes := #[22, 22] })
    (B : Nat) (v : Value) (l : List UInt8) (hs : a.eval s = v) (hd : Dst B w v l) (hB : B ≤ w.heap.size) (ad : Addr) (m c : Nat) (new L : List UInt8) (hL : L = l ++ new) (hx : a.eval x = .slice (some ad) m c) (hm : m = new.length)
    (hnew : ∀ j u, (bc new)[j]? = some u → w.cell? (ad.add j) = some u) (h1 : 1 ≤ new.length) (hlen : l.length + new.length ≤ 140737488355328)
    (h : ∀ v' w', Own B w' v' L → Step B w w' → wpList Tryd.prog ops Q rest (a.put o.dst v') w') : wpList Tryd.prog ops Q (o :: rest) a w := by
  refine wpList_plain hgd fun K hK => ?_
  subst hm
  subst hL
  obtain ⟨v', w', hr, h2, h3⟩ := run_append_dst B w v l hd hB ad c new hnew h1 hlen o.type
  unfold Oper.wp execOp
  simp only [ho, resolve, invoke, builtin, Sem.run_bind, Sem.run_pure, Result.andThen_ok, List.map_toArray, List.map_cons, List.map_nil, hs, hx, hr]
  exact hK _ _ (h v' w' h2 h3)

theorem step_append_dst {ops : Array Oper} {o : Oper} {a : Act} {w : World} {K : Act → World → Prop} {Q : Exit → Act → World → Prop} {E : Prop} (hgd : o.guard = none) (s x : Operand)
    (ho : o.op = .call { callee := .builtin .append, args := #[s, x], argTypes := #[22, 22] })
    (B : Nat) (v : Value) (l : List UInt8) (hs : a.eval s = v) (hd : Dst B w v l) (hB : B ≤ w.heap.size) (ad : Addr) (m c : Nat) (new L : List UInt8) (hL : L = l ++ new) (hx : a.eval x = .slice (some ad) m c) (hm : m = new.length)
    (hnew : ∀ j u, (bc new)[j]? = some u → w.cell? (ad.add j) = some u) (h1 : 1 ≤ new.length) (hlen : l.length + new.length ≤ 140737488355328)
    (hK : ∀ v' w', Own B w' v' L → Step B w w' → K (a.put o.dst v') w') :
    if Region.wanted o (yielded ops a.tmps) = true then Oper.wp Tryd.prog o a w K Q else E := by
  have hw : Region.wanted o (yielded ops a.tmps) = true := by simp [Region.wanted, hgd]
  rw [if_pos hw]
  subst hm
  subst hL
  obtain ⟨v', w', hr, h2, h3⟩ := run_append_dst B w v l hd hB ad c new hnew h1 hlen o.type
  unfold Oper.wp
  simp [execOp, ho, resolve, invoke, builtin, hs, hx, hr, Result.andThen]
  exact hK v' w' h2 h3

theorem strCells_bc (s : ByteArray) : Lib.strCells s = bc s.data.toList := rfl

/-- 'append(v, s...)', s a string that is not empty. -/
theorem run_append_dst_string (B : Nat) (w : World) (v : Value) (l : List UInt8) (hd : Dst B w v l) (hB : B ≤ w.heap.size) (s : ByteArray) (h1 : 1 ≤ s.size) (hlen : l.length + s.size ≤ 140737488355328) (ty : TypeId) :
    ∃ v' w', (Builtin.append_ #[22, 9] ty #[v, .string s]).run Tryd.prog w = .ok v' w' ∧ w'.ownsRow B 5 1 v' (l ++ s.data.toList).length (bc (l ++ s.data.toList)) ∧ Step B w w' := by
  obtain ⟨i0, hi, hz0, hz1, hz2⟩ := info_parts infoByte
  have e0 : s.size = s.data.toList.length := by simp
  have e1 : (l ++ s.data.toList).length = l.length + s.size := by simp
  have hmax : l.length + s.size ≤ maxLen := by unfold maxLen; omega
  rw [e1, bc_append, ← strCells_bc]
  rcases hd with hd | ⟨a, hv, h0, hc⟩
  · obtain ⟨v', w', hr, ho, hg, _⟩ := Lib.run_append_own_string (P := Tryd.prog) w B 22 9 ty 5 i0 Tryd.underlying22 Tryd.underlying9 hi hz0 hz1 hz2 v l.length (bc l) hd s hmax hlen hB
    refine ⟨v', w', hr, ho, (Below.refl B w).grown hg hB (fun k hk => (hd.lt k hk).1), fun k c t f hk ht => ?_⟩
    rw [hg.block k (lt_of_block hk) (fun e => ?_)]
    · exact hk
    · rcases hd.2 with ⟨hv, _⟩ | ⟨g, cap, cur, hv, _, hh, _⟩
      · rw [hv] at e; cases e
      · rw [hv] at e
        simp only [Value.ownBlock, Option.some.injEq] at e
        subst e
        rw [hk] at hh
        simp only [Option.some.injEq, Obj.cells.injEq] at hh
        exact ht hh.2.1
  · subst hv
    cases a with
    | some b =>
      have hcap := grownCap_ge w (l.length + s.size) l.length 5
      have hcm := grownCap_le_maxLen w (l.length + s.size) l.length 5 hmax
      have hr := Lib.run_append_grow_string (P := Tryd.prog) w 22 9 ty 5 i0 (.int .u8 0) Tryd.underlying22 Tryd.underlying9 hi hz0 b l.length l.length (bc l) (by rw [bc_length, hz1]; omega) (hc b rfl) s (by omega) (by omega) (growslice_fits (by omega) (by rw [hz2]; omega))
      refine ⟨_, _, hr, ⟨?_, .inr ⟨w.heap.size, _, _, rfl, hB, heap_alloc_new w.drew _, hcap, hcm, ?_, ?_⟩⟩, Step.of ⟨rfl, rfl, rfl, by simp, fun k hk => Below.heap_alloc w.drew _ k hk⟩ hB⟩
      · rw [List.length_append, bc_length, Lib.strCells_length, Nat.mul_one]
      · simp only [Array.size_append, List.size_toArray, size_zeroCells, bc_length, Lib.strCells_length, Value.cells, List.size_toArray, List.length_cons, List.length_nil]
        omega
      · simp only [Array.toList_append, List.append_assoc, Nat.mul_one]
        rw [← List.append_assoc]
        refine List.take_left' ?_
        rw [List.length_append, bc_length, Lib.strCells_length]
    | none =>
      have hl : l = [] := List.eq_nil_of_length_eq_zero (h0 rfl)
      subst hl
      obtain ⟨v', w', hr, ho, hg, _⟩ := Lib.run_append_own_string (P := Tryd.prog) w B 22 9 ty 5 i0 Tryd.underlying22 Tryd.underlying9 hi hz0 hz1 hz2 (.slice none 0 0) 0 [] (World.ownsRow_nil _ _ _ _) s (by simpa using hmax) (by simpa using hlen) hB
      exact ⟨v', w', hr, by simpa [bc, Lib.byteCells] using ho, Step.of ((Below.refl _ w).grown hg (Nat.le_refl _) (fun k hk => by cases hk)) hB⟩

theorem wpList_append_str {w : World} {ops : Array Oper} {rest : List Oper} {o : Oper} {a : Act} {Q : Exit → Act → World → Prop} (hgd : o.guard = none) (sl x : Operand)
    (ho : o.op = .call { callee := .builtin .append, args := #[sl, x], argTypes := #[22, 9] })
    (B : Nat) (v : Value) (l : List UInt8) (hs : a.eval sl = v) (hd : Dst B w v l) (hB : B ≤ w.heap.size) (s : ByteArray) (hx : a.eval x = .string s) (L : List UInt8) (hL : L = l ++ s.data.toList) (h1 : 1 ≤ s.size) (hlen : l.length + s.size ≤ 140737488355328)
    (h : ∀ v' w', Own B w' v' L → Step B w w' → wpList Tryd.prog ops Q rest (a.put o.dst v') w') : wpList Tryd.prog ops Q (o :: rest) a w := by
  refine wpList_plain hgd fun K hK => ?_
  subst hL
  obtain ⟨v', w', hr, h2, h3⟩ := run_append_dst_string B w v l hd hB s h1 hlen o.type
  unfold Oper.wp execOp
  simp only [ho, resolve, invoke, builtin, Sem.run_bind, Sem.run_pure, Result.andThen_ok, List.map_toArray, List.map_cons, List.map_nil, hs, hx, hr]
  exact hK _ _ (h v' w' h2 h3)

/-! ### The new block that 'append(v, x)', 'append(v, x, y)' lay first -/
theorem new_one (w : World) (x : Int) (b : UInt8) (hx : x = (b.toNat : Int)) : ∀ j u, (bc [b])[j]? = some u → (w.alloc (.cells #[.int .u8 x] 5)).cell? ((⟨w.heap.size, 0, none⟩ : Addr).add j) = some u := by
  intro j u hj
  obtain ⟨h, rfl⟩ := bc_some _ _ _ hj
  have hj0 : j = 0 := by simpa using h
  subst hj0
  rw [addr_add, World.cell?_alloc_new]
  simp [hx]

theorem new_two (w : World) (x y : Int) (b c : UInt8) (hx : x = (b.toNat : Int)) (hy : y = (c.toNat : Int)) : ∀ j u, (bc [b, c])[j]? = some u → (w.alloc (.cells #[.int .u8 x, .int .u8 y] 5)).cell? ((⟨w.heap.size, 0, none⟩ : Addr).add j) = some u := by
  intro j u hj
  obtain ⟨h, rfl⟩ := bc_some _ _ _ hj
  rw [addr_add, World.cell?_alloc_new]
  have h2 : j = 0 ∨ j = 1 := by simp at h; omega
  rcases h2 with rfl | rfl <;> simp [hx, hy]

/-- 'append(v, x)', one byte. -/
theorem wpList_append1 {w : World} {ops : Array Oper} {rest : List Oper} {o : Oper} {a : Act} {Q : Exit → Act → World → Prop} (hgd : o.guard = none) (s xx : Operand)
    (ho : o.op = .call { callee := .builtin .append, args := #[s, xx], argTypes := #[22, 22] })
    (B : Nat) (v : Value) (l : List UInt8) (hs : a.eval s = v) (hd : Dst B w v l) (hB : B ≤ w.heap.size) (x : Int) (b : UInt8) (hx : x = (b.toNat : Int)) (L : List UInt8) (hL : L = l ++ [b])
    (hxx : a.eval xx = .slice (some ⟨w.heap.size, 0, none⟩) 1 1) (hlen : l.length + 1 ≤ 140737488355328)
    (h : ∀ v' w', Own B w' v' L → Step B w w' → wpList Tryd.prog ops Q rest (a.put o.dst v') w') : wpList Tryd.prog ops Q (o :: rest) a (w.alloc (.cells #[.int .u8 x] 5)) :=
  wpList_append_dst hgd s xx ho B v l hs (hd.alloc _) (by simp; omega) ⟨w.heap.size, 0, none⟩ 1 1 [b] L hL hxx rfl (new_one w x b hx) (by simp) (by simpa using hlen)
    (fun v' w' h1 h2 => h v' w' h1 ((Step.alloc hB _).trans h2))

/-- 'append(v, x, y)', two bytes. -/
theorem wpList_append2 {w : World} {ops : Array Oper} {rest : List Oper} {o : Oper} {a : Act} {Q : Exit → Act → World → Prop} (hgd : o.guard = none) (s xx : Operand)
    (ho : o.op = .call { callee := .builtin .append, args := #[s, xx], argTypes := #[22, 22] })
    (B : Nat) (v : Value) (l : List UInt8) (hs : a.eval s = v) (hd : Dst B w v l) (hB : B ≤ w.heap.size) (x y : Int) (b c : UInt8) (hx : x = (b.toNat : Int)) (hy : y = (c.toNat : Int)) (L : List UInt8) (hL : L = l ++ [b, c])
    (hxx : a.eval xx = .slice (some ⟨w.heap.size, 0, none⟩) 2 2) (hlen : l.length + 2 ≤ 140737488355328)
    (h : ∀ v' w', Own B w' v' L → Step B w w' → wpList Tryd.prog ops Q rest (a.put o.dst v') w') : wpList Tryd.prog ops Q (o :: rest) a (w.alloc (.cells #[.int .u8 x, .int .u8 y] 5)) :=
  wpList_append_dst hgd s xx ho B v l hs (hd.alloc _) (by simp; omega) ⟨w.heap.size, 0, none⟩ 2 2 [b, c] L hL hxx rfl (new_two w x y b c hx hy) (by simp) (by simpa using hlen)
    (fun v' w' h1 h2 => h v' w' h1 ((Step.alloc hB _).trans h2))

theorem below_alloc_then {B : Nat} {w w' : World} {o : Obj} (hB : B ≤ w.heap.size) (h : Below B (w.alloc o) w') : Below B w w' :=
  ((Below.refl B w).alloc hB o).trans h

/-! ### Rows over worlds that have only new blocks -/
theorem ownsRow_on {B : Nat} {w w' : World} {e : TypeId} {size n : Nat} {v : Value} {xs : List Value} (h : w.ownsRow B e size v n xs) (hb : Below w.heap.size w w') : w'.ownsRow B e size v n xs := by
  obtain ⟨h1, h2⟩ := h
  refine ⟨h1, ?_⟩
  rcases h2 with h2 | ⟨g, cap, cur, hv, hg, hh, r⟩
  · exact Or.inl h2
  · exact Or.inr ⟨g, cap, cur, hv, hg, (hb.block g (lt_of_block hh)).trans hh, r⟩

theorem Dst.on {B : Nat} {w w' : World} {v : Value} {l : List UInt8} (h : Dst B w v l) (hb : Below w.heap.size w w') : Dst B w' v l := by
  rcases h with h | ⟨a, hv, h0, hc⟩
  · exact Or.inl (ownsRow_on h hb)
  · refine Or.inr ⟨a, hv, h0, fun b hb' j u hj => ?_⟩
    have hx := hc b hb' j u hj
    rw [hb.cell (p := b.add j) (World.block_lt_of_cell? w _ hx)]
    exact hx

/-! ### An array of bytes of the call's own, filled from the right -/
/-- Block B is an array of n bytes of the call's own whose places from i on hold the bytes tl. -/
def BufAt (B : Nat) (t : TypeId) (n i : Nat) (tl : List UInt8) (w : World) : Prop :=
  ∃ cur : Array Value, w.heap[B]? = some (.cells cur t (0, 0)) ∧ cur.size = n ∧ cur.toList.drop i = bc tl ∧ i + tl.length = n

theorem BufAt.len {B : Nat} {t : TypeId} {n i : Nat} {tl : List UInt8} {w : World} (h : BufAt B t n i tl w) : i + tl.length = n := by
  obtain ⟨_, _, _, _, h⟩ := h; exact h

theorem BufAt.lt {B : Nat} {t : TypeId} {n i : Nat} {tl : List UInt8} {w : World} (h : BufAt B t n i tl w) : B < w.heap.size := by
  obtain ⟨cur, h, _⟩ := h; exact lt_of_block h

theorem BufAt.has {B : Nat} {t : TypeId} {n i : Nat} {tl : List UInt8} {w : World} (h : BufAt B t n i tl w) (j : Nat) (hj : j < n) : ∃ v, w.cell? ⟨B, j, none⟩ = some v := by
  obtain ⟨cur, h, hs, _⟩ := h
  exact ⟨cur[j]'(by omega), by simp [World.cell?, h, hs, hj]⟩

theorem BufAt.free {B : Nat} {t : TypeId} {n i : Nat} {tl : List UInt8} {w : World} (h : BufAt B t n i tl w) (j : Nat) : w.frozen? ⟨B, j, none⟩ = false := by
  obtain ⟨cur, h, hs, _⟩ := h
  simp [World.frozen?, h]

theorem BufAt.cells {B : Nat} {t : TypeId} {n i : Nat} {tl : List UInt8} {w : World} (h : BufAt B t n i tl w) : ∀ j u, (bc tl)[j]? = some u → w.cell? ((⟨B, i, none⟩ : Addr).add j) = some u := by
  intro j u hj
  obtain ⟨cur, h, hs, hd, hl⟩ := h
  have e := congrArg (·[j]?) hd
  simp only [List.getElem?_drop] at e
  rw [hj] at e
  rw [addr_add]
  simp [World.cell?, h]
  simpa using e

theorem heap_setCell_at {w : World} {b : Nat} {cur : Array Value} {t : TypeId} {f : Nat × Nat} (h : w.heap[b]? = some (.cells cur t f)) (o : Nat) (u : Value) : (w.setCell ⟨b, o, none⟩ u).heap[b]? = some (.cells (cur.setIfInBounds o u) t f) := by
  have hlt := lt_of_block h
  have h' : w.heap[b] = .cells cur t f := by simpa [Array.getElem?_eq_getElem hlt] using h
  show (w.heap.modify b _)[b]? = _
  rw [Array.getElem?_eq_getElem (by simpa using hlt), Array.getElem_modify_self, h']
  rfl

theorem drop_set_prev {α : Type} (l : List α) (i : Nat) (x : α) (h : i < l.length) : (l.set i x).drop i = x :: l.drop (i + 1) := by
  rw [List.drop_eq_getElem_cons (by simpa using h)]
  simp [List.drop_set_of_lt]

theorem BufAt.put {B : Nat} {t : TypeId} {n i : Nat} {tl : List UInt8} {w : World} (h : BufAt B t n (i + 1) tl w) (c : UInt8) (x : Int) (hx : x = (c.toNat : Int)) : BufAt B t n i (c :: tl) (w.setCell ⟨B, i, none⟩ (.int .u8 x)) := by
  subst hx
  obtain ⟨cur, h, hs, hd, hl⟩ := h
  refine ⟨_, heap_setCell_at h i _, by simpa using hs, ?_, by simp; omega⟩
  rw [Array.toList_setIfInBounds, drop_set_prev _ _ _ (by simp; omega), hd]
  rfl

theorem BufAt.fresh (w : World) (t : TypeId) (cur : Array Value) (n : Nat) (h : cur.size = n) : BufAt w.heap.size t n n [] (w.alloc (.cells cur t)) :=
  ⟨cur, heap_alloc_new w _, h, by simp [List.drop_of_length_le, h, bc, Lib.byteCells], by simp⟩

theorem Own.on {B : Nat} {w w' : World} {v : Value} {l : List UInt8} (h : Own B w v l) (hb : Below w.heap.size w w') : Own B w' v l := ownsRow_on h hb
end Go.Proofs.Qxb6604517aDoor
