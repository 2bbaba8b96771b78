import Derived.Test.Qxb6604517aDoorRead12
import Derived.Laws.Rows
import Derived.Laws.Tables
import Derived.Laws.CopyOwn
namespace Go.Proofs.Qxb6604517aDoor
open Go.RowKit

/-- Only block G has turned. -/
structure Only (G : Nat) (w W : World) : Prop where
  below : ∀ B w0, Below B w0 w → B ≤ G → Below B w0 W
  other : ∀ j, j ≠ G → W.heap[j]? = w.heap[j]?
  size : W.heap.size = w.heap.size
theorem Only.row (w : World) (G : Nat) (cs : Array Value) : Only G w (w.setRow G cs) :=
  ⟨fun _ _ hb h => below_setRow hb h cs, fun j hj => setRow_other w G j cs hj, setRow_size w G cs⟩
theorem BN.only {ty : TypeId} {n : Nat} {q : IntKind} {f : Nat → Int} {G k G' : Nat} {w W : World} (h : BN ty n q f G k w) (hne : G ≠ G') (o : Only G' w W) : BN ty n q f G k W := by
  obtain ⟨cur, h, r⟩ := h
  exact ⟨cur, by rw [o.other G hne]; exact h, r⟩

theorem info49 : (Tryd.prog.info? 49).map (·.size) = some 8 := by kernel_rfl
def row8 (f : Nat → Int) : Array Value := #[.int .u16 (f 0), .int .u16 (f 1), .int .u16 (f 2), .int .u16 (f 3), .int .u16 (f 4), .int .u16 (f 5), .int .u16 (f 6), .int .u16 (f 7)]
theorem row8_at (f : Nat → Int) (i : Nat) (h : i < 8) : (row8 f)[i]? = some (.int .u16 (f i)) := by
  have : i = 0 ∨ i = 1 ∨ i = 2 ∨ i = 3 ∨ i = 4 ∨ i = 5 ∨ i = 6 ∨ i = 7 := by omega
  rcases this with rfl | rfl | rfl | rfl | rfl | rfl | rfl | rfl <;> rfl
theorem BN.arr8 {f : Nat → Int} {G : Nat} {w : World} (h : BN 49 8 .u16 f G 8 w) : w.heap[G]? = some (.cells (row8 f) 49 (0, 0)) := by
  obtain ⟨cur, hg, hs, hc, _⟩ := h
  rw [hg]
  have : cur = row8 f := by
    apply Array.ext_getElem?
    intro i
    by_cases hi : i < 8
    · rw [hc i hi, row8_at f i hi]
    · rw [Array.getElem?_eq_none (by omega), Array.getElem?_eq_none (by show 8 ≤ i; omega)]
  rw [this]
theorem BN.arr8_of {f : Nat → Int} {G : Nat} {w : World} (h : w.heap[G]? = some (.cells (row8 f) 49 (0, 0))) : BN 49 8 .u16 f G 8 w :=
  ⟨_, h, rfl, fun i hi => row8_at f i hi, fun i h1 h2 => absurd h2 (by omega)⟩
theorem wpl_store8 {ops : Array Oper} {rest : List Oper} {o : Oper} {a : Act} {w : World} {Q : Exit → Act → World → Prop} (hgd : o.guard = none) (x y : Operand) (ho : o.op = .store 49 x y)
    (G : Nat) (f : Nat → Int) (hx : a.eval x = .pointer (some ⟨G, 0, none⟩)) (hy : a.eval y = aggW f) {f0 : Nat → Int} {k : Nat} (hB : BN 49 8 .u16 f0 G k w)
    (h : ∀ W, BN 49 8 .u16 f G 8 W → Only G w W → wpList Tryd.prog ops Q rest (a.put o.dst undef) W) : wpList Tryd.prog ops Q (o :: rest) a w := by
  obtain ⟨cur, hg, hs, _⟩ := hB
  refine wpList_store_row hgd 49 x y ho G (row8 f) hx hy 49 cur hg info49 hs (by simp [row8, Value.oneCell']) (h _ (BN.arr8_of (setRow_heap w G cur _ 49 (0, 0) hg)) (Only.row _ _ _))
theorem wpl_load8 {ops : Array Oper} {rest : List Oper} {o : Oper} {a : Act} {w : World} {Q : Exit → Act → World → Prop} (hgd : o.guard = none) (x : Operand) (ho : o.op = .load 49 x)
    (G : Nat) (f : Nat → Int) (hx : a.eval x = .pointer (some ⟨G, 0, none⟩)) (hB : BN 49 8 .u16 f G 8 w)
    (h : wpList Tryd.prog ops Q rest (a.put o.dst (aggW f)) w) : wpList Tryd.prog ops Q (o :: rest) a w :=
  wpList_load_row hgd 49 x ho G hx 49 (row8 f) (0, 0) _ hB.arr8 Tryd.underlying49 rfl info49 h

theorem info32 : (Tryd.prog.info? 32).map (·.size) = some 16 := by kernel_rfl
def row16 (f : Nat → Int) : Array Value := #[.int .u8 (f 0), .int .u8 (f 1), .int .u8 (f 2), .int .u8 (f 3), .int .u8 (f 4), .int .u8 (f 5), .int .u8 (f 6), .int .u8 (f 7), .int .u8 (f 8), .int .u8 (f 9), .int .u8 (f 10), .int .u8 (f 11), .int .u8 (f 12), .int .u8 (f 13), .int .u8 (f 14), .int .u8 (f 15)]
theorem row16_at (f : Nat → Int) (i : Nat) (h : i < 16) : (row16 f)[i]? = some (.int .u8 (f i)) := by
  have : i = 0 ∨ i = 1 ∨ i = 2 ∨ i = 3 ∨ i = 4 ∨ i = 5 ∨ i = 6 ∨ i = 7 ∨ i = 8 ∨ i = 9 ∨ i = 10 ∨ i = 11 ∨ i = 12 ∨ i = 13 ∨ i = 14 ∨ i = 15 := by omega
  rcases this with rfl | rfl | rfl | rfl | rfl | rfl | rfl | rfl | rfl | rfl | rfl | rfl | rfl | rfl | rfl | rfl <;> rfl
theorem BN.arr16 {f : Nat → Int} {G : Nat} {w : World} (h : BN 32 16 .u8 f G 16 w) : w.heap[G]? = some (.cells (row16 f) 32 (0, 0)) := by
  obtain ⟨cur, hg, hs, hc, _⟩ := h
  rw [hg]
  have : cur = row16 f := by
    apply Array.ext_getElem?
    intro i
    by_cases hi : i < 16
    · rw [hc i hi, row16_at f i hi]
    · rw [Array.getElem?_eq_none (by omega), Array.getElem?_eq_none (by show 16 ≤ i; omega)]
  rw [this]
theorem BN.arr16_of {f : Nat → Int} {G : Nat} {w : World} (h : w.heap[G]? = some (.cells (row16 f) 32 (0, 0))) : BN 32 16 .u8 f G 16 w :=
  ⟨_, h, rfl, fun i hi => row16_at f i hi, fun i h1 h2 => absurd h2 (by omega)⟩
theorem wpl_store16 {ops : Array Oper} {rest : List Oper} {o : Oper} {a : Act} {w : World} {Q : Exit → Act → World → Prop} (hgd : o.guard = none) (x y : Operand) (ho : o.op = .store 32 x y)
    (G : Nat) (f : Nat → Int) (hx : a.eval x = .pointer (some ⟨G, 0, none⟩)) (hy : a.eval y = agg16 f) {f0 : Nat → Int} {k : Nat} (hB : BN 32 16 .u8 f0 G k w)
    (h : ∀ W, BN 32 16 .u8 f G 16 W → Only G w W → wpList Tryd.prog ops Q rest (a.put o.dst undef) W) : wpList Tryd.prog ops Q (o :: rest) a w := by
  obtain ⟨cur, hg, hs, _⟩ := hB
  refine wpList_store_row hgd 32 x y ho G (row16 f) hx hy 32 cur hg info32 hs (by simp [row16, Value.oneCell']) (h _ (BN.arr16_of (setRow_heap w G cur _ 32 (0, 0) hg)) (Only.row _ _ _))
theorem wpl_load16 {ops : Array Oper} {rest : List Oper} {o : Oper} {a : Act} {w : World} {Q : Exit → Act → World → Prop} (hgd : o.guard = none) (x : Operand) (ho : o.op = .load 32 x)
    (G : Nat) (f : Nat → Int) (hx : a.eval x = .pointer (some ⟨G, 0, none⟩)) (hB : BN 32 16 .u8 f G 16 w)
    (h : wpList Tryd.prog ops Q rest (a.put o.dst (agg16 f)) w) : wpList Tryd.prog ops Q (o :: rest) a w :=
  wpList_load_row hgd 32 x ho G hx 32 (row16 f) (0, 0) _ hB.arr16 Tryd.underlying32 rfl info32 h

/-- The blocks of parseIPv6: the result, the sixteen bytes, the eight words. -/
structure P6 (w : World) (h wd : Nat → Int) (ko : Nat) (wr : World) : Prop where
  hr : BN 32 16 .u8 h w.heap.size 0 wr
  ho : BN 32 16 .u8 h (w.heap.size + 1) ko wr
  hw : BN 49 8 .u16 wd (w.heap.size + 2) 8 wr
  hb : Below w.heap.size w wr

theorem P6.start (w : World) (h : Nat → Int) : P6 w h (fun _ => 0) 0 (((w.alloc (.cells #[.int .u8 0, .int .u8 0, .int .u8 0, .int .u8 0, .int .u8 0, .int .u8 0, .int .u8 0, .int .u8 0, .int .u8 0, .int .u8 0, .int .u8 0, .int .u8 0, .int .u8 0, .int .u8 0, .int .u8 0, .int .u8 0] 32)).alloc (.cells #[.int .u8 0, .int .u8 0, .int .u8 0, .int .u8 0, .int .u8 0, .int .u8 0, .int .u8 0, .int .u8 0, .int .u8 0, .int .u8 0, .int .u8 0, .int .u8 0, .int .u8 0, .int .u8 0, .int .u8 0, .int .u8 0] 32)).alloc (.cells #[.int .u16 0, .int .u16 0, .int .u16 0, .int .u16 0, .int .u16 0, .int .u16 0, .int .u16 0, .int .u16 0] 49)) where
  hr := ((BN.fresh (ty := 32) (n := 16) (q := .u8) (f := h) w #[.int .u8 0, .int .u8 0, .int .u8 0, .int .u8 0, .int .u8 0, .int .u8 0, .int .u8 0, .int .u8 0, .int .u8 0, .int .u8 0, .int .u8 0, .int .u8 0, .int .u8 0, .int .u8 0, .int .u8 0, .int .u8 0] rfl sixteen).alloc _).alloc _
  ho := by
    have h1 := BN.fresh (ty := 32) (n := 16) (q := .u8) (f := h) (w.alloc (.cells #[.int .u8 0, .int .u8 0, .int .u8 0, .int .u8 0, .int .u8 0, .int .u8 0, .int .u8 0, .int .u8 0, .int .u8 0, .int .u8 0, .int .u8 0, .int .u8 0, .int .u8 0, .int .u8 0, .int .u8 0, .int .u8 0] 32)) #[.int .u8 0, .int .u8 0, .int .u8 0, .int .u8 0, .int .u8 0, .int .u8 0, .int .u8 0, .int .u8 0, .int .u8 0, .int .u8 0, .int .u8 0, .int .u8 0, .int .u8 0, .int .u8 0, .int .u8 0, .int .u8 0] rfl sixteen
    have h2 := h1.alloc (.cells #[.int .u16 0, .int .u16 0, .int .u16 0, .int .u16 0, .int .u16 0, .int .u16 0, .int .u16 0, .int .u16 0] 49)
    simpa using h2
  hw := by
    have h1 := (BN.fresh (ty := 49) (n := 8) (q := .u16) (f := fun _ => 0) ((w.alloc (.cells #[.int .u8 0, .int .u8 0, .int .u8 0, .int .u8 0, .int .u8 0, .int .u8 0, .int .u8 0, .int .u8 0, .int .u8 0, .int .u8 0, .int .u8 0, .int .u8 0, .int .u8 0, .int .u8 0, .int .u8 0, .int .u8 0] 32)).alloc (.cells #[.int .u8 0, .int .u8 0, .int .u8 0, .int .u8 0, .int .u8 0, .int .u8 0, .int .u8 0, .int .u8 0, .int .u8 0, .int .u8 0, .int .u8 0, .int .u8 0, .int .u8 0, .int .u8 0, .int .u8 0, .int .u8 0] 32)) #[.int .u16 0, .int .u16 0, .int .u16 0, .int .u16 0, .int .u16 0, .int .u16 0, .int .u16 0, .int .u16 0] rfl eight).all (fun _ _ _ => rfl)
    simpa using h1
  hb := (((Below.refl _ _).alloc (Nat.le_refl _) _).alloc (by simp) _).alloc (by simp; omega) _
theorem P6.if_ {f wd : Nat → Int} (i n : Nat) (hi : i ≠ n) : (if i < n + 1 then f i else wd i) = (if i < n then f i else wd i) := by
  by_cases h : i < n
  · rw [if_pos h, if_pos (by omega)]
  · rw [if_neg h, if_neg (by omega)]
section
variable {w : World} {h wd : Nat → Int} {ko : Nat} {wr : World}
theorem P6.lt (p : P6 w h wd ko wr) : w.heap.size + 2 < wr.heap.size := p.hw.lt
theorem P6.on {wr' : World} (p : P6 w h wd ko wr) (b : Below wr.heap.size wr wr') : P6 w h wd ko wr' :=
  ⟨p.hr.on b (by have := p.lt; omega), p.ho.on b (by have := p.lt; omega), p.hw.on b p.lt, p.hb.trans (b.mono (by have := p.lt; omega))⟩
theorem P6.word (p : P6 w h wd ko wr) {wd' : Nat → Int} (k : Nat) (hk : k < 8) (h1 : ∀ i, i < 8 → i ≠ k → wd' i = wd i) (v : Int) (hv : v = wd' k) : P6 w h wd' ko (wr.setCell ⟨w.heap.size + 2, k, none⟩ (.int .u16 v)) :=
  ⟨p.hr.far (by omega) _ _, p.ho.far (by omega) _ _, p.hw.upd k hk h1 v hv, p.hb.setCell (p := ⟨w.heap.size + 2, k, none⟩) (by show w.heap.size ≤ w.heap.size + 2; omega) _⟩
theorem P6.byte (p : P6 w h wd ko wr) (hk : ko < 16) (v : Int) (hv : v = h ko) : P6 w h wd (ko + 1) (wr.setCell ⟨w.heap.size + 1, ko, none⟩ (.int .u8 v)) := by
  subst hv
  exact ⟨p.hr.far (by omega) _ _, p.ho.put hk, p.hw.far (by omega) _ _, p.hb.setCell (p := ⟨w.heap.size + 1, ko, none⟩) (by show w.heap.size ≤ w.heap.size + 1; omega) _⟩
theorem P6.only (p : P6 w h wd ko wr) {G : Nat} {W : World} (hG : w.heap.size + 2 < G) (o : Only G wr W) : P6 w h wd ko W :=
  ⟨p.hr.only (by omega) o, p.ho.only (by omega) o, p.hw.only (by omega) o, o.below _ _ p.hb (by omega)⟩
theorem P6.words (p : P6 w h wd ko wr) {F : Nat → Int} {W : World} (b : BN 49 8 .u16 F (w.heap.size + 2) 8 W) (o : Only (w.heap.size + 2) wr W) : P6 w h F ko W :=
  ⟨p.hr.only (by omega) o, p.ho.only (by omega) o, b, o.below _ _ p.hb (by omega)⟩
theorem P6.all8 (p : P6 w h wd ko wr) {f : Nat → Int} (hf : ∀ i, i < 8 → f i = wd i) : P6 w h f ko wr := ⟨p.hr, p.ho, p.hw.cast hf, p.hb⟩
theorem P6.alloc (p : P6 w h wd ko wr) (o : Obj) : P6 w h wd ko (wr.alloc o) := ⟨p.hr.alloc o, p.ho.alloc o, p.hw.alloc o, p.hb.alloc (by have := p.lt; omega) o⟩
end
end Go.Proofs.Qxb6604517aDoor
