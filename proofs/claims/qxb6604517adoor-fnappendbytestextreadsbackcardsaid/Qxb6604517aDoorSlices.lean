import Derived.Test.Qxb6604517aDoorMem
namespace Go.Proofs.Qxb6604517aDoor
open Go.RowKit

/-- A slice without spare that reads as the bytes l; its cells lie below block B. -/
def Full (B : Nat) (w : World) (v : Value) (l : List UInt8) : Prop :=
  ∃ (a : Option Addr) (b : Nat), v = .slice a l.length l.length ∧ (0 < l.length → a = some ⟨b, 0, none⟩ ∧ b < B) ∧ ∀ j (hj : j < l.length), w.cell? ⟨b, j, none⟩ = some (.int .u8 (l[j].toNat : Int))

theorem Full.rd {B : Nat} {w : World} {v : Value} {l : List UInt8} (h : Full B w v l) : Rd B w v l := by
  obtain ⟨a, b, hv, h1, h2⟩ := h
  exact ⟨a, b, 0, l.length, hv, h1, fun j hj => by rw [Nat.zero_add]; exact h2 j hj⟩

theorem Full.dst {B : Nat} {w : World} {v : Value} {l : List UInt8} (h : Full B w v l) (B' : Nat) : Dst B' w v l := by
  obtain ⟨a, b, hv, h1, h2⟩ := h
  refine Or.inr ⟨a, hv, fun ha => ?_, fun b' hb j u hj => ?_⟩
  · rcases Nat.eq_zero_or_pos l.length with h0 | h0
    · exact h0
    · rw [(h1 h0).1] at ha; cases ha
  · obtain ⟨hjl, rfl⟩ := bc_some _ _ _ hj
    rw [(h1 (by omega)).1] at hb
    cases hb
    rw [addr_add, Nat.zero_add]
    exact h2 j hjl

theorem Full.on {B : Nat} {w w' : World} {v : Value} {l : List UInt8} (h : Full B w v l) (hb : Below B w w') : Full B w' v l := by
  obtain ⟨a, b, hv, h1, h2⟩ := h
  refine ⟨a, b, hv, h1, fun j hj => ?_⟩
  rw [hb.cell (p := ⟨b, j, none⟩) (h1 (by omega)).2]
  exact h2 j hj

theorem Full.mono {B B' : Nat} {w : World} {v : Value} {l : List UInt8} (h : Full B w v l) (hB : B ≤ B') : Full B' w v l := by
  obtain ⟨a, b, hv, h1, h2⟩ := h
  exact ⟨a, b, hv, fun h0 => ⟨(h1 h0).1, Nat.lt_of_lt_of_le (h1 h0).2 hB⟩, h2⟩

theorem Full.nil (B : Nat) (w : World) : Full B w (.slice none 0 0) [] := ⟨none, 0, rfl, fun h => absurd h (by simp), fun j hj => absurd hj (by simp)⟩

/-- A row that 'make' laid, filled: at the end. -/
theorem Full.own {B g n : Nat} {w : World} {l : List UInt8} (hn : n = l.length) (h : w.ownsRow B 5 1 (.slice (some ⟨g, 0, none⟩) n n) n (bc l)) : Full w.heap.size w (.slice (some ⟨g, 0, none⟩) n n) l := by
  subst hn
  rcases h.2 with ⟨hv, h0⟩ | ⟨g', cap, cur, hv, hg, hh, r⟩
  · cases hv
  · cases hv
    refine ⟨_, g, rfl, fun _ => ⟨rfl, lt_of_block hh⟩, fun j hj => ?_⟩
    have := h.cells (g := g) rfl j _ (bc_at l j hj)
    rwa [addr_add, Nat.zero_add] at this

/-- What a row holds while it is filled from the left: the first k bytes, then noughts. -/
def part (l : List UInt8) (n k : Nat) : List Value := bc (l.take k) ++ List.replicate (n - k) (.int .u8 0)

theorem part_start (l : List UInt8) (n : Nat) : part l n 0 = List.replicate n (.int .u8 0) := by simp [part, bc, Lib.byteCells]
theorem part_end (l : List UInt8) (n : Nat) (h : n = l.length) : part l n n = bc l := by subst h; simp [part]
theorem part_set (l : List UInt8) (n k : Nat) (hk : k < l.length) (hn : k < n) : (part l n k).set k (.int .u8 (l[k].toNat : Int)) = part l n (k + 1) := by
  unfold part
  have hl : (bc (l.take k)).length = k := by rw [bc_length]; simp; omega
  have e : n - k = (n - (k + 1)) + 1 := by omega
  rw [List.set_append_right _ _ (by omega), hl, Nat.sub_self, e, List.replicate_succ, List.set_cons_zero, List.take_succ_eq_append_getElem hk, bc_append]
  simp [bc, Lib.byteCells]
theorem part_at (l : List UInt8) (n k j : Nat) (hk : k ≤ n) (hkl : k ≤ l.length) (hj : j < n) : ∃ v, (part l n k)[j]? = some v := by
  have : j < (part l n k).length := by unfold part; rw [List.length_append, bc_length, List.length_replicate, List.length_take]; omega
  exact ⟨_, List.getElem?_eq_getElem this⟩

theorem nilEq (w : World) (a : Option Addr) (n c : Nat) : (binOp .eql 22 (.slice a n c) (.slice none 0 0)).run Tryd.prog w = .ok (.bool a.isNone) w :=
  Lib.run_eql_slice_nil w 22 5 a n c 0 0 Tryd.underlying22

set_option maxHeartbeats 400000 in
theorem clone_any (w : World) (v : Value) (l : List UInt8) (h : Rd w.heap.size w v l) (hl : l.length ≤ 1048576) :
    Calls Tryd.prog 6 #[v] w fun e w' => ∃ v', e = .returned v' ∧ Full w'.heap.size w' v' l ∧ Below w.heap.size w w' := by
  obtain ⟨a, b, o, cap, rfl, h1, h2⟩ := h
  cases a with
  | none =>
    have hl0 : l = [] := by
      rcases Nat.eq_zero_or_pos l.length with h0 | h0
      · exact List.eq_nil_of_length_eq_zero h0
      · cases (h1 h0).1
    subst hl0
    have hq := fun w => nilEq w none 0 cap
    go_enter Tryd.func6, Tryd.ntmps6
    go_wp2
    go_ret
    exact ⟨_, rfl, Full.nil _ _, Below.refl _ _⟩
  | some ad =>
    obtain ⟨i0, hi, hz0, hz1, hz2⟩ := info_parts infoByte
    have hq := fun w => nilEq w (some ad) l.length cap
    obtain ⟨n, hn⟩ : ∃ n, n = l.length := ⟨_, rfl⟩
    rw [← hn] at hq hl ⊢
    have HN := Lib.hid hn
    clear hn
    go_enter Tryd.func6, Tryd.ntmps6
    go_wp2_with (at_make; refine wpList_make_full _ rfl _ _ 22 rfl w.heap.size 5 i0 (.int .u8 0) 1 Tryd.underlying22 hi hz0 hz1 .i64 .i64 _ _ n rfl rfl rfl rfl (by rw [hz2]; omega) (by unfold maxLen; omega) (Nat.le_refl _) ?_)
    intro w1 hown hgrow
    have hb1 : Below w.heap.size w w1 := (Below.refl _ _).grown hgrow (Nat.le_refl _) (fun k hk => by cases hk)
    clear hq hgrow
    have hown1 : w1.ownsRow w.heap.size 5 1 (.slice (some ⟨w.heap.size, 0, none⟩) n n) n (part l n 0) := by
      rw [part_start, ← toList_madeCells_one]; exact hown
    clear hown
    go_wp2
    go_loopw [4] (fun i wr => ∃ k : Nat, k ≤ n ∧ i = .int .i64 k ∧ wr.ownsRow w.heap.size 5 1 (.slice (some ⟨w.heap.size, 0, none⟩) n n) n (part l n k) ∧ Below w.heap.size w wr) (fun i _ => n - (intOf i).toNat)
    case atStart => exact ⟨0, Nat.zero_le _, rfl, hown1, hb1⟩
    case round =>
      obtain ⟨k, hk, rfl, hown, hb⟩ := hrel
      have HO := Lib.hid hown
      by_cases hlt : k < n
      · have hkl : k < l.length := by rw [← HN.out]; exact hlt
        have ha := (h1 (by omega)).1
        cases ha
        have hcell : wr.cell? ⟨b, o + k, none⟩ = some (.int .u8 (l[k].toNat : Int)) := by
          rw [hb.cell (p := ⟨b, o + k, none⟩) (h1 (by omega)).2]; exact h2 k hkl
        obtain ⟨x, hx0⟩ := part_at l n k k hk (by omega) hlt
        have hx : wr.cell? ⟨w.heap.size, k, none⟩ = some x := by rw [hown.cellAt k (by omega)]; exact hx0
        have hf := hown.frozenAt k
        have hst := Lib.hid (hown.stored k (.int .u8 (l[k].toNat : Int))).1
        clear hown hx0
        go_wp2
        go_roundw
        case rel => exact ⟨k + 1, by omega, by go_num, by rw [← part_set l n k hkl hlt]; exact hst.out, hb.setCell (Nat.le_refl _) _⟩
        case measure => simp [intOf]; omega
      · have hkn : k = n := by omega
        clear hown
        go_wp2
        go_ret
        refine ⟨_, rfl, Full.own HN.out (B := w.heap.size) ?_, hb⟩
        have := HO.out
        rw [hkn, part_end l n HN.out] at this
        exact this

set_option maxHeartbeats 400000 in
/-- Two slices that read as the same bytes: true. -/
theorem same_any (B : Nat) (w : World) (v v' : Value) (l : List UInt8) (h : Rd B w v l) (h' : Rd B w v' l) (hl : l.length ≤ 1099511627776) :
    Calls Tryd.prog 10 #[v, v'] w fun e w' => e = .returned (.bool true) ∧ ∃ k, w' = w.drewN k := by
  obtain ⟨a, b, o, cap, rfl, h1, h2⟩ := h
  obtain ⟨a', b', o', cap', rfl, h1', h2'⟩ := h'
  obtain ⟨n, hn⟩ : ∃ n, n = l.length := ⟨_, rfl⟩
  rw [← hn] at hl ⊢
  have HN := Lib.hid hn
  clear hn
  go_enter Tryd.func10, Tryd.ntmps10
  go_wp2
  go_loopw [5] (fun i wr => ∃ k : Nat, k ≤ n ∧ i = .int .i64 k ∧ ∃ q, wr = w.drewN q) (fun i _ => n - (intOf i).toNat)
  case atStart => exact ⟨0, Nat.zero_le _, rfl, 0, rfl⟩
  case round =>
    obtain ⟨k, hk, rfl, q, rfl⟩ := hrel
    by_cases hlt : k < n
    · have hkl : k < l.length := by rw [← HN.out]; exact hlt
      have ha := (h1 (by omega)).1
      have ha' := (h1' (by omega)).1
      cases ha
      cases ha'
      have hc := h2 k hkl
      have hc' := h2' k hkl
      have hlti : (k : Int) < n := by omega
      clear h1 h1' h2 h2'
      generalize (l[k].toNat : Int) = x at hc hc'
      go_wp2
      go_quiet (fail)
      go_wp2
      go_roundw
      case rel => exact ⟨k + 1, by omega, by go_num, _, rfl⟩
      case measure => simp [intOf]; omega
    · go_wp2
      go_ret
      exact ⟨rfl, q, rfl⟩

set_option maxHeartbeats 800000 in
/-- concatBytes: a new row that holds both. -/
theorem concat_any (w : World) (v v' : Value) (l l' : List UInt8) (h : Rd w.heap.size w v l) (h' : Rd w.heap.size w v' l') (hl : l.length ≤ 1099511627776) (hl' : l'.length ≤ 1099511627776) :
    Calls Tryd.prog 7 #[v, v'] w fun e w' => ∃ r, e = .returned r ∧ Full w'.heap.size w' r (l ++ l') ∧ Below w.heap.size w w' := by
  obtain ⟨a, b, o, cap, rfl, h1, h2⟩ := h
  obtain ⟨a', b', o', cap', rfl, h1', h2'⟩ := h'
  obtain ⟨i0, hi, hz0, hz1, hz2⟩ := info_parts infoByte
  obtain ⟨n, hn⟩ : ∃ n, n = l.length := ⟨_, rfl⟩
  obtain ⟨m, hm⟩ : ∃ m, m = l'.length := ⟨_, rfl⟩
  obtain ⟨L, hL⟩ : ∃ L, L = l ++ l' := ⟨_, rfl⟩
  have hlen : L.length = n + m := by rw [hL, hn, hm]; simp
  have hat1 : ∀ k (hk : k < l.length) (hkL : k < L.length), L[k] = l[k] := fun k hk _ => by subst hL; exact List.getElem_append_left hk
  have hat2 : ∀ k (hk : k < l'.length) (hkL : n + k < L.length), L[n + k] = l'[k] := fun k hk _ => by
    subst hL
    rw [List.getElem_append_right (by omega)]
    congr 1
    omega
  rw [← hn, ← hm, ← hL]
  rw [← hn] at hl
  rw [← hm] at hl'
  have HN := Lib.hid hn
  have HM := Lib.hid hm
  have HLen := Lib.hid hlen
  have A1 := Lib.hid hat1
  have A2 := Lib.hid hat2
  clear hn hm hL hlen hat1 hat2
  go_enter Tryd.func7, Tryd.ntmps7
  go_wp2_with (at_make; refine wpList_make_full _ rfl _ _ 22 rfl w.heap.size 5 i0 (.int .u8 0) 1 Tryd.underlying22 hi hz0 hz1 .i64 .i64 _ _ (n + m) rfl rfl (by omega) (by omega) (by rw [hz2]; omega) (by unfold maxLen; omega) (Nat.le_refl _) ?_)
  intro w1 hown hgrow
  have hb1 : Below w.heap.size w w1 := (Below.refl _ _).grown hgrow (Nat.le_refl _) (fun k hk => by cases hk)
  have hown1 : w1.ownsRow w.heap.size 5 1 (.slice (some ⟨w.heap.size, 0, none⟩) (n + m) (n + m)) (n + m) (part L (n + m) 0) := by
    rw [part_start, ← toList_madeCells_one]; exact hown
  clear hown hgrow
  go_wp2
  go_loopw [6] (fun i wr => ∃ k : Nat, k ≤ n ∧ i = .int .i64 k ∧ wr.ownsRow w.heap.size 5 1 (.slice (some ⟨w.heap.size, 0, none⟩) (n + m) (n + m)) (n + m) (part L (n + m) k) ∧ Below w.heap.size w wr) (fun i _ => n - (intOf i).toNat)
  case atStart => exact ⟨0, Nat.zero_le _, rfl, hown1, hb1⟩
  case round =>
    obtain ⟨k, hk, rfl, hown, hb⟩ := hrel
    clear hown1 hb1
    by_cases hlt : k < n
    · have hkl : k < l.length := by rw [← HN.out]; exact hlt
      have hkL : k < L.length := by rw [HLen.out]; omega
      have ha := (h1 (by omega)).1
      cases ha
      have hcell : wr.cell? ⟨b, o + k, none⟩ = some (.int .u8 (L[k].toNat : Int)) := by
        rw [hb.cell (p := ⟨b, o + k, none⟩) (h1 (by omega)).2, A1.out k hkl hkL]; exact h2 k hkl
      obtain ⟨x, hx0⟩ := part_at L (n + m) k k (by omega) (by omega) (by omega)
      have hx : wr.cell? ⟨w.heap.size, k, none⟩ = some x := by rw [hown.cellAt k (by omega)]; exact hx0
      have hf := hown.frozenAt k
      have hst := Lib.hid (hown.stored k (.int .u8 (L[k].toNat : Int))).1
      have hps := Lib.hid (part_set L (n + m) k hkL (by omega))
      clear hown hx0 h1 h2 h1' h2'
      go_wp2
      go_roundw
      case rel => exact ⟨k + 1, by omega, by go_num, by rw [← hps.out]; exact hst.out, hb.setCell (Nat.le_refl _) _⟩
      case measure => simp [intOf]; omega
    · obtain rfl : k = n := by omega
      have hown0 := Lib.hid hown
      have hb0 := Lib.hid hb
      clear hown hb h1 h2
      go_wp2
      go_loopw [7] (fun i wr => ∃ j : Nat, j ≤ m ∧ i = .int .i64 j ∧ wr.ownsRow w.heap.size 5 1 (.slice (some ⟨w.heap.size, 0, none⟩) (k + m) (k + m)) (k + m) (part L (k + m) (k + j)) ∧ Below w.heap.size w wr) (fun i _ => m - (intOf i).toNat)
      case atStart => exact ⟨0, Nat.zero_le _, rfl, hown0.out, hb0.out⟩
      case round =>
        obtain ⟨j, hj, rfl, hown, hb⟩ := hrel
        clear hown0 hb0
        by_cases hlt : j < m
        · have hkl : j < l'.length := by rw [← HM.out]; exact hlt
          have hkL : k + j < L.length := by rw [HLen.out]; omega
          have ha := (h1' (by omega)).1
          cases ha
          have hcell : wr.cell? ⟨b', o' + j, none⟩ = some (.int .u8 (L[k + j].toNat : Int)) := by
            rw [hb.cell (p := ⟨b', o' + j, none⟩) (h1' (by omega)).2, A2.out j hkl hkL]; exact h2' j hkl
          obtain ⟨x, hx0⟩ := part_at L (k + m) (k + j) (k + j) (by omega) (by omega) (by omega)
          have hx : wr.cell? ⟨w.heap.size, k + j, none⟩ = some x := by rw [hown.cellAt (k + j) (by omega)]; exact hx0
          have hf := hown.frozenAt (k + j)
          have hst := Lib.hid (hown.stored (k + j) (.int .u8 (L[k + j].toNat : Int))).1
          have hps := Lib.hid (part_set L (k + m) (k + j) hkL (by omega))
          clear hown hx0 h1' h2'
          go_wp2
          go_roundw
          case rel => exact ⟨j + 1, by omega, by go_num, by rw [← Nat.add_assoc, ← hps.out]; exact hst.out, hb.setCell (Nat.le_refl _) _⟩
          case measure => simp [intOf]; omega
        · obtain rfl : j = m := by omega
          have hown0 := Lib.hid hown
          clear hown h1' h2'
          go_wp2
          go_ret
          refine ⟨_, rfl, Full.own HLen.out.symm (B := w.heap.size) ?_, hb⟩
          have := hown0.out
          rw [part_end L _ HLen.out.symm] at this
          exact this
end Go.Proofs.Qxb6604517aDoor
