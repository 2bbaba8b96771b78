import Derived.Test.Qxb6604517aDoorNetTo6
import Derived.Deep.RegionHeld
namespace Go.Proofs.Qxb6604517aDoor
open Go.RowKit

theorem Rd.dst {B : Nat} {w : World} {v : Value} {l : List UInt8} (h : Dst B w v l) : Rd w.heap.size w v l := by
  rcases h with h | ⟨a, hv, h0, hc⟩
  · exact Rd.own h
  · cases a with
    | none =>
      have hl : l = [] := List.eq_nil_of_length_eq_zero (h0 rfl)
      subst hl
      rw [hv]; exact Rd.nil _ _
    | some b =>
      by_cases hl : l.length = 0
      · have hl : l = [] := List.eq_nil_of_length_eq_zero hl
        subst hl
        exact ⟨_, 0, 0, _, hv, fun h => absurd h (by simp), fun j hj => absurd hj (by simp)⟩
      · have hx := hc b rfl 0 _ (bc_at l 0 (by omega))
        have hsp := World.cell?_spot hx
        have hlt := World.block_lt_of_cell? w _ hx
        obtain ⟨bb, o, sp⟩ := b
        simp only [Addr.add, if_true] at hsp hlt
        subst hsp
        refine ⟨_, bb, o, _, hv, fun _ => ⟨rfl, hlt⟩, fun j hj => ?_⟩
        have := hc _ rfl j _ (bc_at l j hj)
        rwa [addr_add] at this

/-- Group k of sixteen bytes. -/
def gq (t : List UInt8) (k : Nat) : Nat := (t.getD (2 * k) 0).toNat * 256 + (t.getD (2 * k + 1) 0).toNat
theorem gq_lt (t : List UInt8) (k : Nat) : gq t k < 65536 := by
  have h1 := (t.getD (2 * k) 0).toNat_lt
  have h2 := (t.getD (2 * k + 1) 0).toNat_lt
  unfold gq; omega

theorem or_u16 (x y : Int) (h0 : 0 ≤ x) (h1 : x < 256) (g0 : 0 ≤ y) (g1 : y < 256) : bits .or .u16 (x * 256) y = x * 256 + y := by
  rw [u16_or (x * 256) y (by omega) (by omega) g0 (by omega)]
  have h := Nat.shiftLeft_add_eq_or_of_lt (i := 8) (b := y.toNat) (by omega) x.toNat
  rw [Nat.shiftLeft_eq] at h
  rw [show (x * 256).toNat = x.toNat * 2 ^ 8 by omega, ← h]
  omega

theorem u8_beq (a b : UInt8) : (a == b) = ((a.toNat : Int) == (b.toNat : Int)) := by
  by_cases h : a = b
  · subst h; simp
  · have : ¬ (a.toNat : Int) = (b.toNat : Int) := fun e => h (UInt8.toNat_inj.1 (by omega))
    rw [beq_eq_false_iff_ne.2 h, beq_eq_false_iff_ne.2 this]

/-- Block G is an array of eight words whose first k are the groups of t. -/
def GA (t : List UInt8) (G k : Nat) (w : World) : Prop :=
  ∃ cur : Array Value, w.heap[G]? = some (.cells cur 49 (0, 0)) ∧ cur.size = 8 ∧ ∀ i, i < k → cur[i]? = some (.int .u16 (gq t i : Int))

theorem GA.cell {t : List UInt8} {G k : Nat} {w : World} (h : GA t G k w) (i : Nat) (hi : i < k) : w.cell? ⟨G, i, none⟩ = some (.int .u16 (gq t i : Int)) := by
  obtain ⟨cur, h, hs, hc⟩ := h
  simp [World.cell?, h, hc i hi]
theorem GA.has {t : List UInt8} {G k : Nat} {w : World} (h : GA t G k w) (i : Nat) (hi : i < 8) : ∃ y, w.cell? ⟨G, i, none⟩ = some y := by
  obtain ⟨cur, h, hs, hc⟩ := h
  exact ⟨cur[i]'(by omega), by simp [World.cell?, h, hs, hi]⟩
theorem GA.free {t : List UInt8} {G k : Nat} {w : World} (h : GA t G k w) (i : Nat) : w.frozen? ⟨G, i, none⟩ = false := by
  obtain ⟨cur, h, hs, hc⟩ := h
  simp [World.frozen?, h]
theorem GA.put {t : List UInt8} {G k : Nat} {w : World} (h : GA t G k w) (hk : k < 8) (x : Int) (hx : x = (gq t k : Int)) : GA t G (k + 1) (w.setCell ⟨G, k, none⟩ (.int .u16 x)) := by
  subst hx
  obtain ⟨cur, h, hs, hc⟩ := h
  refine ⟨_, heap_setCell_at h k _, by simpa using hs, fun i hi => ?_⟩
  by_cases e : i = k
  · subst e
    rw [Array.getElem?_setIfInBounds_self_of_lt (by omega)]
  · rw [Array.getElem?_setIfInBounds_ne (by omega)]
    exact hc i (by omega)
theorem GA.drew {t : List UInt8} {G k : Nat} {w : World} (h : GA t G k w) : GA t G k w.drew := h
theorem GA.step {t : List UInt8} {B G k : Nat} {w w' : World} (h : GA t G k w) (hs : Step B w w') : GA t G k w' := by
  obtain ⟨cur, h, r⟩ := h
  exact ⟨cur, hs.other _ _ _ _ h (by decide), r⟩

/-- What loop six has written when it stands at k. -/
def tl6 (g : Nat → Nat) (e k : Nat) : List UInt8 := if k ≤ e then [] else hex16 (g e) ++ body g (e + 1) (k - (e + 1))
theorem tl6_end (g : Nat → Nat) (e : Nat) (he : e ≤ 8) : tl6 g e 8 = tail6 g e := by
  unfold tl6 tail6
  by_cases h : 8 ≤ e
  · rw [if_pos h, if_pos h]
  · rw [if_neg h, if_neg h, show 8 - (e + 1) = 7 - e by omega]
theorem tl6_first (g : Nat → Nat) (e : Nat) : tl6 g e (e + 1) = tl6 g e e ++ hex16 (g e) := by
  unfold tl6
  rw [if_neg (by omega), if_pos (Nat.le_refl _), Nat.sub_self]
  simp [body]
theorem tl6_next (g : Nat → Nat) (e k : Nat) (h : e < k) : tl6 g e (k + 1) = tl6 g e k ++ [58] ++ hex16 (g k) := by
  unfold tl6
  rw [if_neg (by omega), if_neg (by omega), show k + 1 - (e + 1) = (k - (e + 1)) + 1 by omega, body, show e + 1 + (k - (e + 1)) = k by omega]
  unfold pre
  rw [if_neg (by omega)]
  simp
theorem body_first (g : Nat → Nat) : body g 0 1 = body g 0 0 ++ hex16 (g 0) := by simp [body, pre]
theorem body_next (g : Nat → Nat) (k : Nat) (h : 0 < k) : body g 0 (k + 1) = body g 0 k ++ [58] ++ hex16 (g k) := by
  rw [body, Nat.zero_add, pre, if_neg (by omega)]
  simp
theorem tl6_len (g : Nat → Nat) (e k : Nat) : (tl6 g e k).length ≤ 4 + 5 * k := by
  unfold tl6
  split
  · simp
  · have := body_len g (e + 1) (k - (e + 1))
    have := (hex16_len (g e)).2
    simp; omega

/-- The model's search, one round. -/
theorem mst_no (f : Nat → Bool) (k a b c d : Nat) (h : mst f k = (a, b, c, d)) (hf : f k = false) : mst f (k + 1) = (a, b, c, 0) := by
  rw [mst, mstep, h, if_pos hf]
theorem mst_new (f : Nat → Bool) (k a b c : Nat) (h : mst f k = (a, b, c, 0)) (hf : f k = true) (hb : b < 1) : mst f (k + 1) = (k, 1, k, 1) := by
  rw [mst, mstep, h, if_neg (by rw [hf]; simp)]; simp [hb]
theorem mst_newno (f : Nat → Bool) (k a b c : Nat) (h : mst f k = (a, b, c, 0)) (hf : f k = true) (hb : ¬ b < 1) : mst f (k + 1) = (a, b, k, 1) := by
  rw [mst, mstep, h, if_neg (by rw [hf]; simp)]; simp; omega
theorem mst_on (f : Nat → Bool) (k a b c d : Nat) (h : mst f k = (a, b, c, d)) (hf : f k = true) (hd : 0 < d) (hb : b < d + 1) : mst f (k + 1) = (c, d + 1, c, d + 1) := by
  rw [mst, mstep, h, if_neg (by rw [hf]; simp)]; simp [hb, show ¬ d = 0 by omega]
theorem mst_onno (f : Nat → Bool) (k a b c d : Nat) (h : mst f k = (a, b, c, d)) (hf : f k = true) (hd : 0 < d) (hb : ¬ b < d + 1) : mst f (k + 1) = (a, b, c, d + 1) := by
  rw [mst, mstep, h, if_neg (by rw [hf]; simp)]; simp [hb, show ¬ d = 0 by omega]

/-- What the search comes to, in the words of netip's. -/
theorem agree_small (f : Nat → Bool) (a b c d : Nat) (h : mst f 8 = (a, b, c, d)) (hb : b < 2) : nst f 8 = (255, 255) := by
  have := agree_any f
  unfold agree at this
  rw [h] at this
  simpa [hb] using this
theorem agree_big (f : Nat → Bool) (a b c d : Nat) (h : mst f 8 = (a, b, c, d)) (hb : ¬ b < 2) : nst f 8 = (a, a + b) ∧ a + b ≤ 8 := by
  have := agree_any f
  unfold agree at this
  rw [h] at this
  simpa [hb] using this

set_option maxHeartbeats 3200000 in
set_option maxRecDepth 100000 in
theorem ip_six (x : Value) (t : List UInt8) (w : World) (hx : Rd w.heap.size w x t) (ht : t.length = 16)
    (hno : ((t.getD 10 0 == 255 && t.getD 11 0 == 255) && (t.take 10).all (fun c => c == 0)) = false) :
    Calls Tryd.prog 19 #[x] w fun e w' => ∃ v', e = .returned v' ∧ Rd w'.heap.size w' v' (text6 (gq t) (nst (fun k => gq t k == 0) 8).1 (nst (fun k => gq t k == 0) 8).2) ∧ Below w.heap.size w w' := by
  obtain ⟨a, b, o, cap, rfl, h1, h2⟩ := hx
  obtain ⟨ha, hbl⟩ := h1 (by omega)
  subst ha
  have hcl : ∀ (W : World), Below w.heap.size w W → ∀ j, j < 16 → W.cell? ⟨b, o + j, none⟩ = some (.int .u8 ((t.getD j 0).toNat : Int)) := by
    intro W hb j hj
    rw [hb.cell (p := ⟨b, o + j, none⟩) hbl, h2 j (by omega), List.getD_eq_getElem?_getD, List.getElem?_eq_getElem (by omega)]
    rfl
  have HCL := Lib.hid hcl
  rw [ht]
  have HT := Lib.hid ht
  have HNO := Lib.hid hno
  have hbn : b ≠ w.heap.size := by omega
  clear h1 h2 hcl ht hno
  go_enter Tryd.func19, Tryd.ntmps19
  go_wp2
  go_loopw [4] (fun i wr => ∃ k : Nat, k ≤ 8 ∧ i = .int .i64 k ∧ GA t w.heap.size k wr ∧ Below w.heap.size w wr) (fun i _ => 8 - (intOf i).toNat)
  case atStart => exact ⟨0, Nat.zero_le _, rfl, ⟨_, heap_alloc_new w _, rfl, fun i hi => absurd hi (by omega)⟩, (Below.refl _ _).alloc (Nat.le_refl _) _⟩
  case round =>
    obtain ⟨k, hk, rfl, hG, hb⟩ := hrel
    by_cases hlt : k < 8
    · have c0 := HCL.out wr hb (2 * k) (by omega)
      have c1 := HCL.out wr hb (2 * k + 1) (by omega)
      obtain ⟨X, hX⟩ : ∃ X : Int, X = ((t.getD (2 * k) 0).toNat : Int) := ⟨_, rfl⟩
      obtain ⟨Y, hY⟩ : ∃ X : Int, X = ((t.getD (2 * k + 1) 0).toNat : Int) := ⟨_, rfl⟩
      have hXl := (t.getD (2 * k) 0).toNat_lt
      have hYl := (t.getD (2 * k + 1) 0).toNat_lt
      rw [← hX] at c0
      rw [← hY] at c1
      have hor := or_u16 X Y (by omega) (by omega) (by omega) (by omega)
      have hX0 : 0 ≤ X := by omega
      have hX1 : X < 256 := by omega
      have hY0 : 0 ≤ Y := by omega
      have hY1 : Y < 256 := by omega
      obtain ⟨y, hy⟩ := hG.has k hlt
      have hf := hG.free k
      have hput := Lib.hid (hG.drew.put hlt (X * 256 + Y) (by rw [hX, hY]; unfold gq; omega))
      have hb2 := Lib.hid ((hb.drew).setCell (p := ⟨w.heap.size, k, none⟩) (Nat.le_refl _) (.int .u16 (X * 256 + Y)))
      have hk2 : 2 * (k : Int) < 16 := by omega
      have hk3 : 2 * (k : Int) + 1 < 16 := by omega
      clear hX hY hXl hYl hG hb
      go_wp2
      go_region
      all_goals
        go_wp2
        go_roundw
        case rel => exact ⟨k + 1, by omega, by go_num, hput.out, hb2.out⟩
        case measure => simp [intOf]; omega
    · obtain rfl : k = 8 := by omega
      have c10 := HCL.out wr hb 10 (by omega)
      have c11 := HCL.out wr hb 11 (by omega)
      obtain ⟨X, hX⟩ : ∃ X : Int, X = ((t.getD 10 0).toNat : Int) := ⟨_, rfl⟩
      obtain ⟨Y, hY⟩ : ∃ X : Int, X = ((t.getD 11 0).toNat : Int) := ⟨_, rfl⟩
      rw [← hX] at c10
      rw [← hY] at c11
      have hTeq : (t.getD 10 0 == 255 && t.getD 11 0 == 255) = (X == 255 && Y == 255) := by
        rw [hX, hY]
        congr 1
        · exact u8_beq _ 255
        · exact u8_beq _ 255
      have hno2 := HNO.out
      rw [hTeq] at hno2
      have HNO2 := Lib.hid hno2
      clear hX hY hTeq hno2
      by_cases hx : X = 255
      · subst hx
        have HT0 : Hid (((Y == 255) && (t.take 10).all (fun c => c == 0)) = false) := by
          have := HNO2.out
          rw [show ((255 : Int) == 255) = true from rfl, Bool.true_and] at this
          exact this
        go_wp2
        go_loop [5, 6] (fun mm i => ∃ (k : Nat) (m : Bool), k ≤ 10 ∧ i = .int .i64 k ∧ mm = .bool m ∧ Hid (m = ((Y == 255) && (t.take k).all (fun c => c == 0)))) (fun _ i => 10 - (intOf i).toNat)
        case atStart => exact ⟨0, _, Nat.zero_le _, rfl, rfl, by show _ = _; simp⟩
        case round =>
          obtain ⟨k, m, hk, rfl, rfl, hm⟩ := hrel
          clear c10 c11
          by_cases hlt : k < 10
          · have ck := HCL.out wr hb k (by omega)
            have hsn : (t.take (k + 1)).all (fun c => c == 0) = ((t.take k).all (fun c => c == 0) && (t.getD k 0 == 0)) := by
              have hkl : k < t.length := by rw [HT.out]; omega
              rw [List.take_succ_eq_append_getElem hkl, List.all_append]
              simp [List.getD_eq_getElem?_getD, List.getElem?_eq_getElem hkl]
            by_cases hz : t.getD k 0 = 0
            · rw [hz] at ck
              have ck' : wr.cell? ⟨b, o + k, none⟩ = some (.int .u8 0) := ck
              have hm' : m = ((Y == 255) && (t.take (k + 1)).all (fun c => c == 0)) := by rw [hsn, hz, hm.out]; simp
              have HM' := Lib.hid hm'
              clear hm' hm hsn hz ck
              go_wp2
              go_round
              case rel => exact ⟨k + 1, m, by omega, by go_num, rfl, HM'.out⟩
              case measure => simp [intOf]; omega
            · obtain ⟨V, hV⟩ : ∃ V : Int, V = ((t.getD k 0).toNat : Int) := ⟨_, rfl⟩
              rw [← hV] at ck
              have hV0 : V ≠ 0 := by
                intro h
                apply hz
                apply UInt8.toNat_inj.1
                show (t.getD k 0).toNat = 0
                omega
              have hm' : false = ((Y == 255) && (t.take (k + 1)).all (fun c => c == 0)) := by rw [hsn, beq_eq_false_iff_ne.2 hz]; simp
              have HM' := Lib.hid hm'
              clear hm' hm hsn hz hV
              go_wp2
              go_round
              case rel => exact ⟨k + 1, false, by omega, by go_num, rfl, HM'.out⟩
              case measure => simp [intOf]; omega
          · obtain rfl : k = 10 := by omega
            obtain rfl : m = false := by rw [hm.out]; exact HT0.out
            clear hm HT0
            go_wp2
            go_loop [7, 8, 9, 10, 11] (fun bs bl rs rl i => ∃ (k a b c d : Nat) (a' : Int), k ≤ 8 ∧ i = .int .i64 k ∧ bs = .int .i64 a' ∧ bl = .int .i64 b ∧ rs = .int .i64 c ∧ rl = .int .i64 d ∧ b ≤ 8 ∧ d ≤ k ∧ Hid (mst (fun k => gq t k == 0) k = (a, b, c, d) ∧ (0 < b → a' = (a : Int)))) (fun _ _ _ _ i => 8 - (intOf i).toNat)
            case atStart => exact ⟨0, 8, 0, 0, 0, -1, Nat.zero_le _, rfl, rfl, rfl, rfl, rfl, by omega, by omega, rfl, fun h => absurd h (by omega)⟩
            case round =>
              obtain ⟨k, a, bl, c, d, a', hk, rfl, rfl, rfl, rfl, rfl, hb8, hdk, hM⟩ := hrel
              by_cases hlt : k < 8
              · have ck := hG.cell k hlt
                obtain ⟨V, hV⟩ : ∃ V : Int, V = (gq t k : Int) := ⟨_, rfl⟩
                rw [← hV] at ck
                by_cases hz : gq t k = 0
                · have hf : (fun k => gq t k == 0) k = true := by simp [hz]
                  obtain rfl : V = 0 := by omega
                  rcases Nat.eq_zero_or_pos d with rfl | hd
                  · by_cases hbb : bl < 1
                    · have HM' := Lib.hid (mst_new _ k a bl c hM.out.1 hf hbb)
                      have hbi : (bl : Int) < 1 := by omega
                      clear hM hz hf hV
                      go_wp2
                      go_round
                      case rel => exact ⟨k + 1, k, 1, k, 1, k, by omega, by go_num, rfl, by go_num, rfl, by go_num, by omega, by omega, HM'.out, fun _ => rfl⟩
                      case measure => simp [intOf]; omega
                    · have HM' := Lib.hid (show _ ∧ (0 < bl → a' = (a : Int)) from ⟨mst_newno _ k a bl c hM.out.1 hf hbb, hM.out.2⟩)
                      have hbi : ¬ (bl : Int) < 1 := by omega
                      clear hM hz hf hV
                      go_wp2
                      go_round
                      case rel => exact ⟨k + 1, a, bl, k, 1, a', by omega, by go_num, rfl, rfl, rfl, by go_num, by omega, by omega, HM'.out⟩
                      case measure => simp [intOf]; omega
                  · have hdi : (d : Int) ≠ 0 := by omega
                    by_cases hbb : bl < d + 1
                    · have HM' := Lib.hid (mst_on _ k a bl c d hM.out.1 hf hd hbb)
                      have hbi : (bl : Int) < (d : Int) + 1 := by omega
                      clear hM hz hf hV
                      go_wp2
                      go_round
                      case rel => exact ⟨k + 1, c, d + 1, c, d + 1, c, by omega, by go_num, rfl, by go_num, rfl, by go_num, by omega, by omega, HM'.out, fun _ => rfl⟩
                      case measure => simp [intOf]; omega
                    · have HM' := Lib.hid (show _ ∧ (0 < bl → a' = (a : Int)) from ⟨mst_onno _ k a bl c d hM.out.1 hf hd hbb, hM.out.2⟩)
                      have hbi : ¬ (bl : Int) < (d : Int) + 1 := by omega
                      clear hM hz hf hV
                      go_wp2
                      go_round
                      case rel => exact ⟨k + 1, a, bl, c, d + 1, a', by omega, by go_num, rfl, rfl, rfl, by go_num, by omega, by omega, HM'.out⟩
                      case measure => simp [intOf]; omega
                · have hf : (fun k => gq t k == 0) k = false := by simp [hz]
                  have HM' := Lib.hid (show _ ∧ (0 < bl → a' = (a : Int)) from ⟨mst_no _ k a bl c d hM.out.1 hf, hM.out.2⟩)
                  have hV0 : V ≠ 0 := by omega
                  clear hM hz hf hV
                  go_wp2
                  go_round
                  case rel => exact ⟨k + 1, a, bl, c, 0, a', by omega, by go_num, rfl, rfl, rfl, rfl, by omega, by omega, HM'.out⟩
                  case measure => simp [intOf]; omega
              · obtain rfl : k = 8 := by omega
                by_cases hb2 : bl < 2
                · have hns := agree_small _ a bl c d hM.out.1 hb2
                  have hTx : text6 (gq t) (nst (fun k => gq t k == 0) 8).1 (nst (fun k => gq t k == 0) 8).2 = body (gq t) 0 8 := by rw [hns, text6, if_pos (by omega)]
                  have HTx := Lib.hid hTx
                  have hbi : (bl : Int) < 2 := by omega
                  clear hM hns hTx
                  go_wp2
                  go_loopw [12, 13] (fun d i wq => ∃ (k : Nat) (acc : List UInt8), 0 ≤ k ∧ k ≤ 8 ∧ i = .int .i64 (k : Int) ∧ Dst w.heap.size wq d acc ∧ Below w.heap.size w wq ∧ GA t w.heap.size 8 wq ∧ acc.length ≤ 300 ∧ Hid (acc = body (gq t) 0 (k))) (fun _ i _ => 8 - (intOf i).toNat)
                  case atStart => exact ⟨0, [], Nat.le_refl _, by omega, rfl, Dst.nil _ _, hb, hG, by simp, rfl⟩
                  case round =>
                    obtain ⟨k, acc, hk0, hk', rfl, hd, hs, hG', hal, hacc⟩ := hrel
                    by_cases hlt' : k < 8
                    · have ck := hG'.cell k (by omega)
                      have hgl := gq_lt t k
                      obtain ⟨V, hV⟩ : ∃ V : Int, V = (gq t k : Int) := ⟨_, rfl⟩
                      rw [← hV] at ck
                      have hVn : V.toNat = gq t k := by omega
                      have hV0 : 0 ≤ V := by omega
                      have hV1 : V < 65536 := by omega
                      have hB' := hs.size
                      have HVn := Lib.hid hVn
                      clear hV hVn hgl
                      by_cases hkz : k = 0
                      · have hE : acc ++ hex16 V.toNat = body (gq t) 0 (0 + 1) := by rw [hacc.out, HVn.out, hkz, body_first]
                        have HE := Lib.hid hE
                        have hlE : (body (gq t) 0 (0 + 1)).length ≤ 300 := (by have := body_len (gq t) 0 (0 + 1); omega)
                        have HLE := Lib.hid hlE
                        subst hkz
                        clear hE hlE
                        go_wp2_with fail
                        refine (hex16_any w.heap.size _ _ acc V hd hB' hV0 hV1 (by omega)).mono ?_
                        rintro e w3 ⟨v3, rfl, o3, b3⟩
                        go_wp2
                        go_roundw
                        case rel => exact ⟨0 + 1, _, by omega, by omega, by go_num, Dst.own o3, hs.trans b3.below, hG'.step b3, by rw [HE.out]; exact HLE.out, HE.out⟩
                        case measure => simp [intOf] <;> omega
                      · have hki : (0 : Int) < (k : Int) := by omega
                        obtain ⟨L1, hL1⟩ : ∃ L, L = acc ++ [58] := ⟨_, rfl⟩
                        have hl1 : L1.length = acc.length + 1 := by rw [hL1]; simp
                        have hE : L1 ++ hex16 V.toNat = body (gq t) 0 (k + 1) := by rw [hL1, hacc.out, HVn.out, body_next _ _ (by omega)]
                        have HE := Lib.hid hE
                        have hlE : (body (gq t) 0 (k + 1)).length ≤ 300 := (by have := body_len (gq t) 0 (k + 1); omega)
                        have HLE := Lib.hid hlE
                        have HL1 := Lib.hid hL1
                        have hg2 := hG'.cell k (by omega)
                        rw [ck] at hg2
                        have HG2 := Lib.hid hg2
                        clear hL1 hE hlE hg2
                        go_wp2_with (at_builtin; refine wpList_append1 rfl _ _ rfl w.heap.size _ acc rfl hd hB' 58 58 rfl L1 HL1.out rfl (by omega) ?_)
                        intro v2 w2 o2 b2
                        have ck2 : w2.cell? ⟨w.heap.size, k, none⟩ = some (.int .u16 V) := by
                          rw [(hG'.step b2).cell k (by omega)]; exact HG2.out.symm
                        go_wp2_with fail
                        refine (hex16_any w.heap.size _ _ L1 V (Dst.own o2) (Nat.le_trans hB' b2.size) hV0 hV1 (by omega)).mono ?_
                        rintro e w3 ⟨v3, rfl, o3, b3⟩
                        go_wp2
                        go_roundw
                        case rel => exact ⟨k + 1, _, by omega, by omega, by go_num, Dst.own o3, (hs.trans b2.below).trans b3.below, (hG'.step b2).step b3, by rw [HE.out]; exact HLE.out, HE.out⟩
                        case measure => simp [intOf]; omega
                    · obtain rfl : k = 8 := by omega
                      go_wp2
                      go_ret
                      refine ⟨_, rfl, ?_, hs⟩
                      rw [HTx.out, ← hacc.out]
                      exact Rd.dst hd
                · obtain ⟨hns, hab⟩ := agree_big _ a bl c d hM.out.1 hb2
                  have hTx : text6 (gq t) (nst (fun k => gq t k == 0) 8).1 (nst (fun k => gq t k == 0) 8).2 = body (gq t) 0 a ++ [58, 58] ++ tl6 (gq t) (a + bl) 8 := by rw [hns, tl6_end _ _ hab, text6, if_neg (by show ¬ 8 ≤ a; omega)]
                  have HTx := Lib.hid hTx
                  obtain rfl : a' = (a : Int) := hM.out.2 (by omega)
                  have hbi : ¬ (bl : Int) < 2 := by omega
                  clear hM hns hTx
                  go_wp2
                  go_loopw [12, 14] (fun d i wq => ∃ (k : Nat) (acc : List UInt8), 0 ≤ k ∧ k ≤ a ∧ i = .int .i64 (k : Int) ∧ Dst w.heap.size wq d acc ∧ Below w.heap.size w wq ∧ GA t w.heap.size 8 wq ∧ acc.length ≤ 300 ∧ Hid (acc = body (gq t) 0 (k))) (fun _ i _ => a - (intOf i).toNat)
                  case atStart => exact ⟨0, [], Nat.le_refl _, by omega, rfl, Dst.nil _ _, hb, hG, by simp, rfl⟩
                  case round =>
                    obtain ⟨k, acc, hk0, hk', rfl, hd, hs, hG', hal, hacc⟩ := hrel
                    by_cases hlt' : k < a
                    · have ck := hG'.cell k (by omega)
                      have hgl := gq_lt t k
                      obtain ⟨V, hV⟩ : ∃ V : Int, V = (gq t k : Int) := ⟨_, rfl⟩
                      rw [← hV] at ck
                      have hVn : V.toNat = gq t k := by omega
                      have hV0 : 0 ≤ V := by omega
                      have hV1 : V < 65536 := by omega
                      have hB' := hs.size
                      have HVn := Lib.hid hVn
                      clear hV hVn hgl
                      by_cases hkz : k = 0
                      · have hE : acc ++ hex16 V.toNat = body (gq t) 0 (0 + 1) := by rw [hacc.out, HVn.out, hkz, body_first]
                        have HE := Lib.hid hE
                        have hlE : (body (gq t) 0 (0 + 1)).length ≤ 300 := (by have := body_len (gq t) 0 (0 + 1); omega)
                        have HLE := Lib.hid hlE
                        subst hkz
                        clear hE hlE
                        go_wp2_with fail
                        refine (hex16_any w.heap.size _ _ acc V hd hB' hV0 hV1 (by omega)).mono ?_
                        rintro e w3 ⟨v3, rfl, o3, b3⟩
                        go_wp2
                        go_roundw
                        case rel => exact ⟨0 + 1, _, by omega, by omega, by go_num, Dst.own o3, hs.trans b3.below, hG'.step b3, by rw [HE.out]; exact HLE.out, HE.out⟩
                        case measure => simp [intOf] <;> omega
                      · have hki : (0 : Int) < (k : Int) := by omega
                        obtain ⟨L1, hL1⟩ : ∃ L, L = acc ++ [58] := ⟨_, rfl⟩
                        have hl1 : L1.length = acc.length + 1 := by rw [hL1]; simp
                        have hE : L1 ++ hex16 V.toNat = body (gq t) 0 (k + 1) := by rw [hL1, hacc.out, HVn.out, body_next _ _ (by omega)]
                        have HE := Lib.hid hE
                        have hlE : (body (gq t) 0 (k + 1)).length ≤ 300 := (by have := body_len (gq t) 0 (k + 1); omega)
                        have HLE := Lib.hid hlE
                        have HL1 := Lib.hid hL1
                        have hg2 := hG'.cell k (by omega)
                        rw [ck] at hg2
                        have HG2 := Lib.hid hg2
                        clear hL1 hE hlE hg2
                        go_wp2_with (at_builtin; refine wpList_append1 rfl _ _ rfl w.heap.size _ acc rfl hd hB' 58 58 rfl L1 HL1.out rfl (by omega) ?_)
                        intro v2 w2 o2 b2
                        have ck2 : w2.cell? ⟨w.heap.size, k, none⟩ = some (.int .u16 V) := by
                          rw [(hG'.step b2).cell k (by omega)]; exact HG2.out.symm
                        go_wp2_with fail
                        refine (hex16_any w.heap.size _ _ L1 V (Dst.own o2) (Nat.le_trans hB' b2.size) hV0 hV1 (by omega)).mono ?_
                        rintro e w3 ⟨v3, rfl, o3, b3⟩
                        go_wp2
                        go_roundw
                        case rel => exact ⟨k + 1, _, by omega, by omega, by go_num, Dst.own o3, (hs.trans b2.below).trans b3.below, (hG'.step b2).step b3, by rw [HE.out]; exact HLE.out, HE.out⟩
                        case measure => simp [intOf]; omega
                    · obtain rfl : k = a := by omega
                      obtain ⟨L9, hL9⟩ : ∃ L, L = acc ++ [58, 58] := ⟨_, rfl⟩
                      have HL9 := Lib.hid hL9
                      have HE9 := Lib.hid (show L9 = body (gq t) 0 k ++ [58, 58] by rw [hL9, hacc.out])
                      have HLE9 := Lib.hid (show (body (gq t) 0 k ++ [58, 58]).length ≤ 300 by have := body_len (gq t) 0 k; simp; omega)
                      have hB9 := hs.size
                      clear hL9 hlt'
                      go_wp2_with (at_builtin; refine wpList_append2 rfl _ _ rfl w.heap.size _ acc rfl hd hB9 58 58 58 58 rfl rfl L9 HL9.out rfl (by omega) ?_)
                      intro v9 w9 o9 b9
                      have hs9 := hs.trans b9.below
                      have hG9 := hG'.step b9
                      clear hd hs hG' hacc
                      go_wp2
                      go_loopw [12, 16] (fun d i wq => ∃ (z : Nat) (acc : List UInt8), (k + bl) ≤ z ∧ z ≤ 8 ∧ i = .int .i64 (z : Int) ∧ Dst w.heap.size wq d acc ∧ Below w.heap.size w wq ∧ GA t w.heap.size 8 wq ∧ acc.length ≤ 300 ∧ Hid (acc = body (gq t) 0 k ++ [58, 58] ++ tl6 (gq t) (k + bl) (z))) (fun _ i _ => 8 - (intOf i).toNat)
                      case atStart => exact ⟨k + bl, _, Nat.le_refl _, hab, by go_num, Dst.own o9, hs9, hG9, by rw [HE9.out]; exact HLE9.out, by show _ = _; rw [HE9.out]; simp [tl6]⟩
                      case round =>
                        obtain ⟨z, acc, hk0, hk', rfl, hd, hs, hG', hal, hacc⟩ := hrel
                        by_cases hlt' : z < 8
                        · have ck := hG'.cell z (by omega)
                          have hgl := gq_lt t z
                          obtain ⟨V, hV⟩ : ∃ V : Int, V = (gq t z : Int) := ⟨_, rfl⟩
                          rw [← hV] at ck
                          have hVn : V.toNat = gq t z := by omega
                          have hV0 : 0 ≤ V := by omega
                          have hV1 : V < 65536 := by omega
                          have hB' := hs.size
                          have HVn := Lib.hid hVn
                          clear hV hVn hgl
                          by_cases hkz : z = (k + bl)
                          · have hE : acc ++ hex16 V.toNat = body (gq t) 0 k ++ [58, 58] ++ tl6 (gq t) (k + bl) ((k + bl) + 1) := by rw [hacc.out, HVn.out, hkz, tl6_first, ← List.append_assoc]
                            have HE := Lib.hid hE
                            have hlE : (body (gq t) 0 k ++ [58, 58] ++ tl6 (gq t) (k + bl) ((k + bl) + 1)).length ≤ 300 := (by have := body_len (gq t) 0 k; have := tl6_len (gq t) (k + bl) ((k + bl) + 1); simp; omega)
                            have HLE := Lib.hid hlE
                            subst hkz
                            clear hE hlE
                            go_wp2_with fail
                            refine (hex16_any w.heap.size _ _ acc V hd hB' hV0 hV1 (by omega)).mono ?_
                            rintro e w3 ⟨v3, rfl, o3, b3⟩
                            go_wp2
                            go_roundw
                            case rel => exact ⟨(k + bl) + 1, _, by omega, by omega, by go_num, Dst.own o3, hs.trans b3.below, hG'.step b3, by rw [HE.out]; exact HLE.out, HE.out⟩
                            case measure => simp [intOf] <;> omega
                          · have hki : (((k : Int) + (bl : Int)) : Int) < (z : Int) := by omega
                            obtain ⟨L1, hL1⟩ : ∃ L, L = acc ++ [58] := ⟨_, rfl⟩
                            have hl1 : L1.length = acc.length + 1 := by rw [hL1]; simp
                            have hE : L1 ++ hex16 V.toNat = body (gq t) 0 k ++ [58, 58] ++ tl6 (gq t) (k + bl) (z + 1) := by rw [hL1, hacc.out, HVn.out, tl6_next _ _ _ (by omega), ← List.append_assoc, ← List.append_assoc]
                            have HE := Lib.hid hE
                            have hlE : (body (gq t) 0 k ++ [58, 58] ++ tl6 (gq t) (k + bl) (z + 1)).length ≤ 300 := (by have := body_len (gq t) 0 k; have := tl6_len (gq t) (k + bl) (z + 1); simp; omega)
                            have HLE := Lib.hid hlE
                            have HL1 := Lib.hid hL1
                            have hg2 := hG'.cell z (by omega)
                            rw [ck] at hg2
                            have HG2 := Lib.hid hg2
                            clear hL1 hE hlE hg2
                            go_wp2_with (at_builtin; refine wpList_append1 rfl _ _ rfl w.heap.size _ acc rfl hd hB' 58 58 rfl L1 HL1.out rfl (by omega) ?_)
                            intro v2 w2 o2 b2
                            have ck2 : w2.cell? ⟨w.heap.size, z, none⟩ = some (.int .u16 V) := by
                              rw [(hG'.step b2).cell z (by omega)]; exact HG2.out.symm
                            go_wp2_with fail
                            refine (hex16_any w.heap.size _ _ L1 V (Dst.own o2) (Nat.le_trans hB' b2.size) hV0 hV1 (by omega)).mono ?_
                            rintro e w3 ⟨v3, rfl, o3, b3⟩
                            go_wp2
                            go_roundw
                            case rel => exact ⟨z + 1, _, by omega, by omega, by go_num, Dst.own o3, (hs.trans b2.below).trans b3.below, (hG'.step b2).step b3, by rw [HE.out]; exact HLE.out, HE.out⟩
                            case measure => simp [intOf]; omega
                        · obtain rfl : z = 8 := by omega
                          go_wp2
                          go_ret
                          refine ⟨_, rfl, ?_, hs⟩
                          rw [HTx.out, ← hacc.out]
                          exact Rd.dst hd
      · have HT0 : Hid ((false && (t.take 10).all (fun c => c == 0)) = false) := by show _ = _; simp
        go_wp2
        go_loop [5, 6] (fun mm i => ∃ (k : Nat) (m : Bool), k ≤ 10 ∧ i = .int .i64 k ∧ mm = .bool m ∧ Hid (m = (false && (t.take k).all (fun c => c == 0)))) (fun _ i => 10 - (intOf i).toNat)
        case atStart => exact ⟨0, _, Nat.zero_le _, rfl, rfl, by show _ = _; simp⟩
        case round =>
          obtain ⟨k, m, hk, rfl, rfl, hm⟩ := hrel
          clear c10 c11
          by_cases hlt : k < 10
          · have ck := HCL.out wr hb k (by omega)
            have hsn : (t.take (k + 1)).all (fun c => c == 0) = ((t.take k).all (fun c => c == 0) && (t.getD k 0 == 0)) := by
              have hkl : k < t.length := by rw [HT.out]; omega
              rw [List.take_succ_eq_append_getElem hkl, List.all_append]
              simp [List.getD_eq_getElem?_getD, List.getElem?_eq_getElem hkl]
            by_cases hz : t.getD k 0 = 0
            · rw [hz] at ck
              have ck' : wr.cell? ⟨b, o + k, none⟩ = some (.int .u8 0) := ck
              have hm' : m = (false && (t.take (k + 1)).all (fun c => c == 0)) := by rw [hsn, hz, hm.out]; simp
              have HM' := Lib.hid hm'
              clear hm' hm hsn hz ck
              go_wp2
              go_round
              case rel => exact ⟨k + 1, m, by omega, by go_num, rfl, HM'.out⟩
              case measure => simp [intOf]; omega
            · obtain ⟨V, hV⟩ : ∃ V : Int, V = ((t.getD k 0).toNat : Int) := ⟨_, rfl⟩
              rw [← hV] at ck
              have hV0 : V ≠ 0 := by
                intro h
                apply hz
                apply UInt8.toNat_inj.1
                show (t.getD k 0).toNat = 0
                omega
              have hm' : false = (false && (t.take (k + 1)).all (fun c => c == 0)) := by rw [hsn, beq_eq_false_iff_ne.2 hz]; simp
              have HM' := Lib.hid hm'
              clear hm' hm hsn hz hV
              go_wp2
              go_round
              case rel => exact ⟨k + 1, false, by omega, by go_num, rfl, HM'.out⟩
              case measure => simp [intOf]; omega
          · obtain rfl : k = 10 := by omega
            obtain rfl : m = false := by rw [hm.out]; exact HT0.out
            clear hm HT0
            go_wp2
            go_loop [7, 8, 9, 10, 11] (fun bs bl rs rl i => ∃ (k a b c d : Nat) (a' : Int), k ≤ 8 ∧ i = .int .i64 k ∧ bs = .int .i64 a' ∧ bl = .int .i64 b ∧ rs = .int .i64 c ∧ rl = .int .i64 d ∧ b ≤ 8 ∧ d ≤ k ∧ Hid (mst (fun k => gq t k == 0) k = (a, b, c, d) ∧ (0 < b → a' = (a : Int)))) (fun _ _ _ _ i => 8 - (intOf i).toNat)
            case atStart => exact ⟨0, 8, 0, 0, 0, -1, Nat.zero_le _, rfl, rfl, rfl, rfl, rfl, by omega, by omega, rfl, fun h => absurd h (by omega)⟩
            case round =>
              obtain ⟨k, a, bl, c, d, a', hk, rfl, rfl, rfl, rfl, rfl, hb8, hdk, hM⟩ := hrel
              by_cases hlt : k < 8
              · have ck := hG.cell k hlt
                obtain ⟨V, hV⟩ : ∃ V : Int, V = (gq t k : Int) := ⟨_, rfl⟩
                rw [← hV] at ck
                by_cases hz : gq t k = 0
                · have hf : (fun k => gq t k == 0) k = true := by simp [hz]
                  obtain rfl : V = 0 := by omega
                  rcases Nat.eq_zero_or_pos d with rfl | hd
                  · by_cases hbb : bl < 1
                    · have HM' := Lib.hid (mst_new _ k a bl c hM.out.1 hf hbb)
                      have hbi : (bl : Int) < 1 := by omega
                      clear hM hz hf hV
                      go_wp2
                      go_round
                      case rel => exact ⟨k + 1, k, 1, k, 1, k, by omega, by go_num, rfl, by go_num, rfl, by go_num, by omega, by omega, HM'.out, fun _ => rfl⟩
                      case measure => simp [intOf]; omega
                    · have HM' := Lib.hid (show _ ∧ (0 < bl → a' = (a : Int)) from ⟨mst_newno _ k a bl c hM.out.1 hf hbb, hM.out.2⟩)
                      have hbi : ¬ (bl : Int) < 1 := by omega
                      clear hM hz hf hV
                      go_wp2
                      go_round
                      case rel => exact ⟨k + 1, a, bl, k, 1, a', by omega, by go_num, rfl, rfl, rfl, by go_num, by omega, by omega, HM'.out⟩
                      case measure => simp [intOf]; omega
                  · have hdi : (d : Int) ≠ 0 := by omega
                    by_cases hbb : bl < d + 1
                    · have HM' := Lib.hid (mst_on _ k a bl c d hM.out.1 hf hd hbb)
                      have hbi : (bl : Int) < (d : Int) + 1 := by omega
                      clear hM hz hf hV
                      go_wp2
                      go_round
                      case rel => exact ⟨k + 1, c, d + 1, c, d + 1, c, by omega, by go_num, rfl, by go_num, rfl, by go_num, by omega, by omega, HM'.out, fun _ => rfl⟩
                      case measure => simp [intOf]; omega
                    · have HM' := Lib.hid (show _ ∧ (0 < bl → a' = (a : Int)) from ⟨mst_onno _ k a bl c d hM.out.1 hf hd hbb, hM.out.2⟩)
                      have hbi : ¬ (bl : Int) < (d : Int) + 1 := by omega
                      clear hM hz hf hV
                      go_wp2
                      go_round
                      case rel => exact ⟨k + 1, a, bl, c, d + 1, a', by omega, by go_num, rfl, rfl, rfl, by go_num, by omega, by omega, HM'.out⟩
                      case measure => simp [intOf]; omega
                · have hf : (fun k => gq t k == 0) k = false := by simp [hz]
                  have HM' := Lib.hid (show _ ∧ (0 < bl → a' = (a : Int)) from ⟨mst_no _ k a bl c d hM.out.1 hf, hM.out.2⟩)
                  have hV0 : V ≠ 0 := by omega
                  clear hM hz hf hV
                  go_wp2
                  go_round
                  case rel => exact ⟨k + 1, a, bl, c, 0, a', by omega, by go_num, rfl, rfl, rfl, rfl, by omega, by omega, HM'.out⟩
                  case measure => simp [intOf]; omega
              · obtain rfl : k = 8 := by omega
                by_cases hb2 : bl < 2
                · have hns := agree_small _ a bl c d hM.out.1 hb2
                  have hTx : text6 (gq t) (nst (fun k => gq t k == 0) 8).1 (nst (fun k => gq t k == 0) 8).2 = body (gq t) 0 8 := by rw [hns, text6, if_pos (by omega)]
                  have HTx := Lib.hid hTx
                  have hbi : (bl : Int) < 2 := by omega
                  clear hM hns hTx
                  go_wp2
                  go_loopw [12, 13] (fun d i wq => ∃ (k : Nat) (acc : List UInt8), 0 ≤ k ∧ k ≤ 8 ∧ i = .int .i64 (k : Int) ∧ Dst w.heap.size wq d acc ∧ Below w.heap.size w wq ∧ GA t w.heap.size 8 wq ∧ acc.length ≤ 300 ∧ Hid (acc = body (gq t) 0 (k))) (fun _ i _ => 8 - (intOf i).toNat)
                  case atStart => exact ⟨0, [], Nat.le_refl _, by omega, rfl, Dst.nil _ _, hb, hG, by simp, rfl⟩
                  case round =>
                    obtain ⟨k, acc, hk0, hk', rfl, hd, hs, hG', hal, hacc⟩ := hrel
                    by_cases hlt' : k < 8
                    · have ck := hG'.cell k (by omega)
                      have hgl := gq_lt t k
                      obtain ⟨V, hV⟩ : ∃ V : Int, V = (gq t k : Int) := ⟨_, rfl⟩
                      rw [← hV] at ck
                      have hVn : V.toNat = gq t k := by omega
                      have hV0 : 0 ≤ V := by omega
                      have hV1 : V < 65536 := by omega
                      have hB' := hs.size
                      have HVn := Lib.hid hVn
                      clear hV hVn hgl
                      by_cases hkz : k = 0
                      · have hE : acc ++ hex16 V.toNat = body (gq t) 0 (0 + 1) := by rw [hacc.out, HVn.out, hkz, body_first]
                        have HE := Lib.hid hE
                        have hlE : (body (gq t) 0 (0 + 1)).length ≤ 300 := (by have := body_len (gq t) 0 (0 + 1); omega)
                        have HLE := Lib.hid hlE
                        subst hkz
                        clear hE hlE
                        go_wp2_with fail
                        refine (hex16_any w.heap.size _ _ acc V hd hB' hV0 hV1 (by omega)).mono ?_
                        rintro e w3 ⟨v3, rfl, o3, b3⟩
                        go_wp2
                        go_roundw
                        case rel => exact ⟨0 + 1, _, by omega, by omega, by go_num, Dst.own o3, hs.trans b3.below, hG'.step b3, by rw [HE.out]; exact HLE.out, HE.out⟩
                        case measure => simp [intOf] <;> omega
                      · have hki : (0 : Int) < (k : Int) := by omega
                        obtain ⟨L1, hL1⟩ : ∃ L, L = acc ++ [58] := ⟨_, rfl⟩
                        have hl1 : L1.length = acc.length + 1 := by rw [hL1]; simp
                        have hE : L1 ++ hex16 V.toNat = body (gq t) 0 (k + 1) := by rw [hL1, hacc.out, HVn.out, body_next _ _ (by omega)]
                        have HE := Lib.hid hE
                        have hlE : (body (gq t) 0 (k + 1)).length ≤ 300 := (by have := body_len (gq t) 0 (k + 1); omega)
                        have HLE := Lib.hid hlE
                        have HL1 := Lib.hid hL1
                        have hg2 := hG'.cell k (by omega)
                        rw [ck] at hg2
                        have HG2 := Lib.hid hg2
                        clear hL1 hE hlE hg2
                        go_wp2_with (at_builtin; refine wpList_append1 rfl _ _ rfl w.heap.size _ acc rfl hd hB' 58 58 rfl L1 HL1.out rfl (by omega) ?_)
                        intro v2 w2 o2 b2
                        have ck2 : w2.cell? ⟨w.heap.size, k, none⟩ = some (.int .u16 V) := by
                          rw [(hG'.step b2).cell k (by omega)]; exact HG2.out.symm
                        go_wp2_with fail
                        refine (hex16_any w.heap.size _ _ L1 V (Dst.own o2) (Nat.le_trans hB' b2.size) hV0 hV1 (by omega)).mono ?_
                        rintro e w3 ⟨v3, rfl, o3, b3⟩
                        go_wp2
                        go_roundw
                        case rel => exact ⟨k + 1, _, by omega, by omega, by go_num, Dst.own o3, (hs.trans b2.below).trans b3.below, (hG'.step b2).step b3, by rw [HE.out]; exact HLE.out, HE.out⟩
                        case measure => simp [intOf]; omega
                    · obtain rfl : k = 8 := by omega
                      go_wp2
                      go_ret
                      refine ⟨_, rfl, ?_, hs⟩
                      rw [HTx.out, ← hacc.out]
                      exact Rd.dst hd
                · obtain ⟨hns, hab⟩ := agree_big _ a bl c d hM.out.1 hb2
                  have hTx : text6 (gq t) (nst (fun k => gq t k == 0) 8).1 (nst (fun k => gq t k == 0) 8).2 = body (gq t) 0 a ++ [58, 58] ++ tl6 (gq t) (a + bl) 8 := by rw [hns, tl6_end _ _ hab, text6, if_neg (by show ¬ 8 ≤ a; omega)]
                  have HTx := Lib.hid hTx
                  obtain rfl : a' = (a : Int) := hM.out.2 (by omega)
                  have hbi : ¬ (bl : Int) < 2 := by omega
                  clear hM hns hTx
                  go_wp2
                  go_loopw [12, 14] (fun d i wq => ∃ (k : Nat) (acc : List UInt8), 0 ≤ k ∧ k ≤ a ∧ i = .int .i64 (k : Int) ∧ Dst w.heap.size wq d acc ∧ Below w.heap.size w wq ∧ GA t w.heap.size 8 wq ∧ acc.length ≤ 300 ∧ Hid (acc = body (gq t) 0 (k))) (fun _ i _ => a - (intOf i).toNat)
                  case atStart => exact ⟨0, [], Nat.le_refl _, by omega, rfl, Dst.nil _ _, hb, hG, by simp, rfl⟩
                  case round =>
                    obtain ⟨k, acc, hk0, hk', rfl, hd, hs, hG', hal, hacc⟩ := hrel
                    by_cases hlt' : k < a
                    · have ck := hG'.cell k (by omega)
                      have hgl := gq_lt t k
                      obtain ⟨V, hV⟩ : ∃ V : Int, V = (gq t k : Int) := ⟨_, rfl⟩
                      rw [← hV] at ck
                      have hVn : V.toNat = gq t k := by omega
                      have hV0 : 0 ≤ V := by omega
                      have hV1 : V < 65536 := by omega
                      have hB' := hs.size
                      have HVn := Lib.hid hVn
                      clear hV hVn hgl
                      by_cases hkz : k = 0
                      · have hE : acc ++ hex16 V.toNat = body (gq t) 0 (0 + 1) := by rw [hacc.out, HVn.out, hkz, body_first]
                        have HE := Lib.hid hE
                        have hlE : (body (gq t) 0 (0 + 1)).length ≤ 300 := (by have := body_len (gq t) 0 (0 + 1); omega)
                        have HLE := Lib.hid hlE
                        subst hkz
                        clear hE hlE
                        go_wp2_with fail
                        refine (hex16_any w.heap.size _ _ acc V hd hB' hV0 hV1 (by omega)).mono ?_
                        rintro e w3 ⟨v3, rfl, o3, b3⟩
                        go_wp2
                        go_roundw
                        case rel => exact ⟨0 + 1, _, by omega, by omega, by go_num, Dst.own o3, hs.trans b3.below, hG'.step b3, by rw [HE.out]; exact HLE.out, HE.out⟩
                        case measure => simp [intOf] <;> omega
                      · have hki : (0 : Int) < (k : Int) := by omega
                        obtain ⟨L1, hL1⟩ : ∃ L, L = acc ++ [58] := ⟨_, rfl⟩
                        have hl1 : L1.length = acc.length + 1 := by rw [hL1]; simp
                        have hE : L1 ++ hex16 V.toNat = body (gq t) 0 (k + 1) := by rw [hL1, hacc.out, HVn.out, body_next _ _ (by omega)]
                        have HE := Lib.hid hE
                        have hlE : (body (gq t) 0 (k + 1)).length ≤ 300 := (by have := body_len (gq t) 0 (k + 1); omega)
                        have HLE := Lib.hid hlE
                        have HL1 := Lib.hid hL1
                        have hg2 := hG'.cell k (by omega)
                        rw [ck] at hg2
                        have HG2 := Lib.hid hg2
                        clear hL1 hE hlE hg2
                        go_wp2_with (at_builtin; refine wpList_append1 rfl _ _ rfl w.heap.size _ acc rfl hd hB' 58 58 rfl L1 HL1.out rfl (by omega) ?_)
                        intro v2 w2 o2 b2
                        have ck2 : w2.cell? ⟨w.heap.size, k, none⟩ = some (.int .u16 V) := by
                          rw [(hG'.step b2).cell k (by omega)]; exact HG2.out.symm
                        go_wp2_with fail
                        refine (hex16_any w.heap.size _ _ L1 V (Dst.own o2) (Nat.le_trans hB' b2.size) hV0 hV1 (by omega)).mono ?_
                        rintro e w3 ⟨v3, rfl, o3, b3⟩
                        go_wp2
                        go_roundw
                        case rel => exact ⟨k + 1, _, by omega, by omega, by go_num, Dst.own o3, (hs.trans b2.below).trans b3.below, (hG'.step b2).step b3, by rw [HE.out]; exact HLE.out, HE.out⟩
                        case measure => simp [intOf]; omega
                    · obtain rfl : k = a := by omega
                      obtain ⟨L9, hL9⟩ : ∃ L, L = acc ++ [58, 58] := ⟨_, rfl⟩
                      have HL9 := Lib.hid hL9
                      have HE9 := Lib.hid (show L9 = body (gq t) 0 k ++ [58, 58] by rw [hL9, hacc.out])
                      have HLE9 := Lib.hid (show (body (gq t) 0 k ++ [58, 58]).length ≤ 300 by have := body_len (gq t) 0 k; simp; omega)
                      have hB9 := hs.size
                      clear hL9 hlt'
                      go_wp2_with (at_builtin; refine wpList_append2 rfl _ _ rfl w.heap.size _ acc rfl hd hB9 58 58 58 58 rfl rfl L9 HL9.out rfl (by omega) ?_)
                      intro v9 w9 o9 b9
                      have hs9 := hs.trans b9.below
                      have hG9 := hG'.step b9
                      clear hd hs hG' hacc
                      go_wp2
                      go_loopw [12, 16] (fun d i wq => ∃ (z : Nat) (acc : List UInt8), (k + bl) ≤ z ∧ z ≤ 8 ∧ i = .int .i64 (z : Int) ∧ Dst w.heap.size wq d acc ∧ Below w.heap.size w wq ∧ GA t w.heap.size 8 wq ∧ acc.length ≤ 300 ∧ Hid (acc = body (gq t) 0 k ++ [58, 58] ++ tl6 (gq t) (k + bl) (z))) (fun _ i _ => 8 - (intOf i).toNat)
                      case atStart => exact ⟨k + bl, _, Nat.le_refl _, hab, by go_num, Dst.own o9, hs9, hG9, by rw [HE9.out]; exact HLE9.out, by show _ = _; rw [HE9.out]; simp [tl6]⟩
                      case round =>
                        obtain ⟨z, acc, hk0, hk', rfl, hd, hs, hG', hal, hacc⟩ := hrel
                        by_cases hlt' : z < 8
                        · have ck := hG'.cell z (by omega)
                          have hgl := gq_lt t z
                          obtain ⟨V, hV⟩ : ∃ V : Int, V = (gq t z : Int) := ⟨_, rfl⟩
                          rw [← hV] at ck
                          have hVn : V.toNat = gq t z := by omega
                          have hV0 : 0 ≤ V := by omega
                          have hV1 : V < 65536 := by omega
                          have hB' := hs.size
                          have HVn := Lib.hid hVn
                          clear hV hVn hgl
                          by_cases hkz : z = (k + bl)
                          · have hE : acc ++ hex16 V.toNat = body (gq t) 0 k ++ [58, 58] ++ tl6 (gq t) (k + bl) ((k + bl) + 1) := by rw [hacc.out, HVn.out, hkz, tl6_first, ← List.append_assoc]
                            have HE := Lib.hid hE
                            have hlE : (body (gq t) 0 k ++ [58, 58] ++ tl6 (gq t) (k + bl) ((k + bl) + 1)).length ≤ 300 := (by have := body_len (gq t) 0 k; have := tl6_len (gq t) (k + bl) ((k + bl) + 1); simp; omega)
                            have HLE := Lib.hid hlE
                            subst hkz
                            clear hE hlE
                            go_wp2_with fail
                            refine (hex16_any w.heap.size _ _ acc V hd hB' hV0 hV1 (by omega)).mono ?_
                            rintro e w3 ⟨v3, rfl, o3, b3⟩
                            go_wp2
                            go_roundw
                            case rel => exact ⟨(k + bl) + 1, _, by omega, by omega, by go_num, Dst.own o3, hs.trans b3.below, hG'.step b3, by rw [HE.out]; exact HLE.out, HE.out⟩
                            case measure => simp [intOf] <;> omega
                          · have hki : (((k : Int) + (bl : Int)) : Int) < (z : Int) := by omega
                            obtain ⟨L1, hL1⟩ : ∃ L, L = acc ++ [58] := ⟨_, rfl⟩
                            have hl1 : L1.length = acc.length + 1 := by rw [hL1]; simp
                            have hE : L1 ++ hex16 V.toNat = body (gq t) 0 k ++ [58, 58] ++ tl6 (gq t) (k + bl) (z + 1) := by rw [hL1, hacc.out, HVn.out, tl6_next _ _ _ (by omega), ← List.append_assoc, ← List.append_assoc]
                            have HE := Lib.hid hE
                            have hlE : (body (gq t) 0 k ++ [58, 58] ++ tl6 (gq t) (k + bl) (z + 1)).length ≤ 300 := (by have := body_len (gq t) 0 k; have := tl6_len (gq t) (k + bl) (z + 1); simp; omega)
                            have HLE := Lib.hid hlE
                            have HL1 := Lib.hid hL1
                            have hg2 := hG'.cell z (by omega)
                            rw [ck] at hg2
                            have HG2 := Lib.hid hg2
                            clear hL1 hE hlE hg2
                            go_wp2_with (at_builtin; refine wpList_append1 rfl _ _ rfl w.heap.size _ acc rfl hd hB' 58 58 rfl L1 HL1.out rfl (by omega) ?_)
                            intro v2 w2 o2 b2
                            have ck2 : w2.cell? ⟨w.heap.size, z, none⟩ = some (.int .u16 V) := by
                              rw [(hG'.step b2).cell z (by omega)]; exact HG2.out.symm
                            go_wp2_with fail
                            refine (hex16_any w.heap.size _ _ L1 V (Dst.own o2) (Nat.le_trans hB' b2.size) hV0 hV1 (by omega)).mono ?_
                            rintro e w3 ⟨v3, rfl, o3, b3⟩
                            go_wp2
                            go_roundw
                            case rel => exact ⟨z + 1, _, by omega, by omega, by go_num, Dst.own o3, (hs.trans b2.below).trans b3.below, (hG'.step b2).step b3, by rw [HE.out]; exact HLE.out, HE.out⟩
                            case measure => simp [intOf]; omega
                        · obtain rfl : z = 8 := by omega
                          go_wp2
                          go_ret
                          refine ⟨_, rfl, ?_, hs⟩
                          rw [HTx.out, ← hacc.out]
                          exact Rd.dst hd
end Go.Proofs.Qxb6604517aDoor
