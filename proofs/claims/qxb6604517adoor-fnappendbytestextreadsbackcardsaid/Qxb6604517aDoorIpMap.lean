import Derived.Test.Qxb6604517aDoorIpSix
import Derived.Lib.SlBytesConst
import Derived.Lib.SmallJoins
namespace Go.Proofs.Qxb6604517aDoor
open Go.RowKit

def head7 : Array Value := #[.int .u8 58, .int .u8 58, .int .u8 102, .int .u8 102, .int .u8 102, .int .u8 102, .int .u8 58]
theorem dst_head (B : Nat) (W : World) : Dst B (W.alloc (.cells #[.int .u8 58, .int .u8 58, .int .u8 102, .int .u8 102, .int .u8 102, .int .u8 102, .int .u8 58] 5 (7, 8))) (.slice (some ⟨W.heap.size, 0, none⟩) 7 7) mappedHead := by
  refine Or.inr ⟨some ⟨W.heap.size, 0, none⟩, rfl, (fun h => by cases h), fun b hb j u hj => ?_⟩
  cases hb
  rw [addr_add, World.cell?_alloc_mark, Nat.zero_add]
  have e : bc mappedHead = head7.toList := rfl
  rw [e] at hj
  simpa [head7] using hj

set_option maxHeartbeats 3200000 in
set_option maxRecDepth 100000 in
theorem ip_map (x : Value) (t : List UInt8) (w : World) (hx : Rd w.heap.size w x t) (ht : t.length = 16)
    (hno : ((t.getD 10 0 == 255 && t.getD 11 0 == 255) && (t.take 10).all (fun c => c == 0)) = true) :
    Calls Tryd.prog 19 #[x] w fun e w' => ∃ v', e = .returned v' ∧ Rd w'.heap.size w' v' (mappedHead ++ dotted (t.getD 12 0).toNat (t.getD 13 0).toNat (t.getD 14 0).toNat (t.getD 15 0).toNat) ∧ Below w.heap.size w w' := by
  obtain ⟨a, b, o, cap, rfl, h1, h2⟩ := hx
  obtain ⟨ha, hbl⟩ := h1 (by omega)
  subst ha
  have hcl : ∀ (W : World), Below w.heap.size w W → ∀ j, j < 16 → W.cell? ⟨b, o + j, none⟩ = some (.int .u8 ((t.getD j 0).toNat : Int)) := by
    intro W hb j hj
    rw [hb.cell (p := ⟨b, o + j, none⟩) hbl, h2 j (by omega), List.getD_eq_getElem?_getD, List.getElem?_eq_getElem (by omega)]
    rfl
  have HCL := Lib.hid hcl
  rw [ht]
  have HT := Lib.hid ht
  rw [Bool.and_eq_true, Bool.and_eq_true, beq_iff_eq, beq_iff_eq] at hno
  obtain ⟨⟨h10, h11⟩, hall⟩ := hno
  have hz : ∀ k, k < 10 → t.getD k 0 = 0 := by
    intro k hk
    have hkl : k < t.length := by omega
    have := List.all_eq_true.1 hall t[k] (List.mem_take_iff_getElem.2 ⟨k, by omega, rfl⟩)
    rw [List.getD_eq_getElem?_getD, List.getElem?_eq_getElem hkl]
    simpa using this
  have HZ := Lib.hid hz
  have H10 := Lib.hid h10
  have H11 := Lib.hid h11
  clear hz hall h10 h11
  have hbn : b ≠ w.heap.size := by omega
  clear h1 h2 hcl ht
  go_enter Tryd.func19, Tryd.ntmps19
  go_wp2
  go_loopw [4] (fun i wr => ∃ k : Nat, k ≤ 8 ∧ i = .int .i64 k ∧ GA t w.heap.size k wr ∧ Below w.heap.size w wr) (fun i _ => 8 - (intOf i).toNat)
  case atStart => exact ⟨0, Nat.zero_le _, rfl, ⟨_, heap_alloc_new w _, rfl, fun i hi => absurd hi (by omega)⟩, (Below.refl _ _).alloc (Nat.le_refl _) _⟩
  case round =>
    obtain ⟨k, hk, rfl, hG, hb⟩ := hrel
    by_cases hlt : k < 8
    · have c0 := HCL.out wr hb (2 * k) (by omega)
      have c1 := HCL.out wr hb (2 * k + 1) (by omega)
      obtain ⟨X, hX⟩ : ∃ X : Int, X = ((t.getD (2 * k) 0).toNat : Int) := ⟨_, rfl⟩
      obtain ⟨Y, hY⟩ : ∃ X : Int, X = ((t.getD (2 * k + 1) 0).toNat : Int) := ⟨_, rfl⟩
      have hXl := (t.getD (2 * k) 0).toNat_lt
      have hYl := (t.getD (2 * k + 1) 0).toNat_lt
      rw [← hX] at c0
      rw [← hY] at c1
      have hor := or_u16 X Y (by omega) (by omega) (by omega) (by omega)
      have hX0 : 0 ≤ X := by omega
      have hX1 : X < 256 := by omega
      have hY0 : 0 ≤ Y := by omega
      have hY1 : Y < 256 := by omega
      obtain ⟨y, hy⟩ := hG.has k hlt
      have hf := hG.free k
      have hput := Lib.hid (hG.drew.put hlt (X * 256 + Y) (by rw [hX, hY]; unfold gq; omega))
      have hb2 := Lib.hid ((hb.drew).setCell (p := ⟨w.heap.size, k, none⟩) (Nat.le_refl _) (.int .u16 (X * 256 + Y)))
      have hk2 : 2 * (k : Int) < 16 := by omega
      have hk3 : 2 * (k : Int) + 1 < 16 := by omega
      clear hX hY hXl hYl hG hb
      go_wp2
      go_region
      all_goals
        go_wp2
        go_roundw
        case rel => exact ⟨k + 1, by omega, by go_num, hput.out, hb2.out⟩
        case measure => simp [intOf]; omega
    · obtain rfl : k = 8 := by omega
      have c10 := HCL.out wr hb 10 (by omega)
      have c11 := HCL.out wr hb 11 (by omega)
      rw [H10.out] at c10
      rw [H11.out] at c11
      have c10' : wr.cell? ⟨b, o + 10, none⟩ = some (.int .u8 255) := c10
      have c11' : wr.cell? ⟨b, o + 11, none⟩ = some (.int .u8 255) := c11
      clear c10 c11
      go_wp2
      go_loop [5, 6] (fun mm i => ∃ (k : Nat), k ≤ 10 ∧ i = .int .i64 k ∧ mm = .bool true) (fun _ i => 10 - (intOf i).toNat)
      case atStart => exact ⟨0, Nat.zero_le _, rfl, rfl⟩
      case round =>
        obtain ⟨k, hk, rfl, rfl⟩ := hrel
        clear c10' c11'
        by_cases hlt : k < 10
        · have ck := HCL.out wr hb k (by omega)
          rw [HZ.out k hlt] at ck
          have ck' : wr.cell? ⟨b, o + k, none⟩ = some (.int .u8 0) := ck
          clear ck
          go_wp2
          go_round
          case rel => exact ⟨k + 1, by omega, by go_num, rfl⟩
          case measure => simp [intOf]; omega
        · obtain rfl : k = 10 := by omega
          have c12 := HCL.out wr hb 12 (by omega)
          have c13 := HCL.out wr hb 13 (by omega)
          have c14 := HCL.out wr hb 14 (by omega)
          have c15 := HCL.out wr hb 15 (by omega)
          have hbs := hb.size
          have hbw : b < wr.heap.size := by omega
          have HD := Lib.hid (fun (W : World) (v : Value) (d : Dst w.heap.size W v mappedHead) (h : w.heap.size ≤ W.heap.size) => dotted_any w.heap.size W v mappedHead (t.getD 12 0) (t.getD 13 0) (t.getD 14 0) (t.getD 15 0) d h (by simp [mappedHead]))
          obtain ⟨FT, hFT⟩ : ∃ F, F = mappedHead ++ dotted (t.getD 12 0).toNat (t.getD 13 0).toNat (t.getD 14 0).toNat (t.getD 15 0).toNat := ⟨_, rfl⟩
          rw [← hFT] at HD
          have HFT := Lib.hid hFT
          obtain ⟨p, hp⟩ : ∃ p : Int, p = ((t.getD 12 0).toNat : Int) := ⟨_, rfl⟩
          obtain ⟨q, hq⟩ : ∃ p : Int, p = ((t.getD 13 0).toNat : Int) := ⟨_, rfl⟩
          obtain ⟨r, hr⟩ : ∃ p : Int, p = ((t.getD 14 0).toNat : Int) := ⟨_, rfl⟩
          obtain ⟨s, hs⟩ : ∃ p : Int, p = ((t.getD 15 0).toNat : Int) := ⟨_, rfl⟩
          rw [← hp, ← hq, ← hr, ← hs] at HD
          rw [← hp] at c12
          rw [← hq] at c13
          rw [← hr] at c14
          rw [← hs] at c15
          have hBB : w.heap.size ≤ (wr.drew.alloc (.cells #[.int .u8 58, .int .u8 58, .int .u8 102, .int .u8 102, .int .u8 102, .int .u8 102, .int .u8 58] 5 (7, 8))).heap.size := Nat.le_trans hbs (by simp)
          have HBw := Lib.hid ((hb.drew).alloc hbs (.cells #[.int .u8 58, .int .u8 58, .int .u8 102, .int .u8 102, .int .u8 102, .int .u8 102, .int .u8 58] 5 (7, 8)))
          have hconv : (convert 22 22 (.slice (some ⟨wr.heap.size, 0, none⟩) 7 7)).run Tryd.prog (wr.alloc (.cells #[.int .u8 58, .int .u8 58, .int .u8 102, .int .u8 102, .int .u8 102, .int .u8 102, .int .u8 58] 5)).drew = .ok (.slice (some ⟨wr.heap.size, 0, none⟩) 7 7) (wr.drew.alloc (.cells #[.int .u8 58, .int .u8 58, .int .u8 102, .int .u8 102, .int .u8 102, .int .u8 102, .int .u8 58] 5 (7, 8))) :=
            Lib.run_convert_bytes_const wr.drew 22 5 #[.int .u8 58, .int .u8 58, .int .u8 102, .int .u8 102, .int .u8 102, .int .u8 102, .int .u8 58] 7 7 Tryd.underlying22 Tryd.underlying5
          have HS := Lib.hid (show ∀ W, Below w.heap.size w W → W.cell? ⟨b, o + 12, none⟩ = some (.int .u8 p) ∧ W.cell? ⟨b, o + 13, none⟩ = some (.int .u8 q) ∧ W.cell? ⟨b, o + 14, none⟩ = some (.int .u8 r) ∧ W.cell? ⟨b, o + 15, none⟩ = some (.int .u8 s) from fun W h => by
            rw [hp, hq, hr, hs]
            exact ⟨HCL.out W h 12 (by omega), HCL.out W h 13 (by omega), HCL.out W h 14 (by omega), HCL.out W h 15 (by omega)⟩)
          clear hFT hp hq hr hs hG
          go_wp2
          go_region_held (fun W => W.cell? ⟨b, o + 12, none⟩ = some (.int .u8 p) ∧ W.cell? ⟨b, o + 13, none⟩ = some (.int .u8 q) ∧ W.cell? ⟨b, o + 14, none⟩ = some (.int .u8 r) ∧ W.cell? ⟨b, o + 15, none⟩ = some (.int .u8 s)) (first | go_keep | exact HS.out _ (HBw.out.trans b3.below)) (first | (go_at_call 18; refine (HD.out _ _ (dst_head w.heap.size wr.drew) hBB).mono ?_; rintro e w3 ⟨v3, rfl, o3, b3⟩))
          all_goals
            go_wp2
            go_ret
            exact ⟨v3, rfl, by rw [← HFT.out]; exact Rd.own o3, HBw.out.trans b3.below⟩
end Go.Proofs.Qxb6604517aDoor
