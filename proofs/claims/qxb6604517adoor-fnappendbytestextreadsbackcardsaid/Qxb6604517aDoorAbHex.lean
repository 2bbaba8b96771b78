import Derived.Test.Qxb6604517aDoorAppendU
import Derived.Test.Qxb6604517aDoorNetAppend
namespace Go.Proofs.Qxb6604517aDoor
open Go.RowKit

/-- A colon and two hexadecimal digits for each byte. -/
def cx : List UInt8 → List UInt8
  | [] => []
  | c :: t => 58 :: hexd (c.toNat / 16) :: hexd (c.toNat % 16) :: cx t
theorem cx_append (a b : List UInt8) : cx (a ++ b) = cx a ++ cx b := by
  induction a with
  | nil => rfl
  | cons c t ih => simp [cx, ih]
theorem cx_len (l : List UInt8) : (cx l).length = 3 * l.length := by
  induction l with
  | nil => rfl
  | cons c t ih => simp [cx, ih]; omega
/-- The colon-hex text. -/
def colonHex (l : List UInt8) : List UInt8 := (cx l).drop 1

theorem colonHex_snoc (l : List UInt8) (c : UInt8) : colonHex (l ++ [c]) = colonHex l ++ (if l = [] then [hexd (c.toNat / 16), hexd (c.toNat % 16)] else [58, hexd (c.toNat / 16), hexd (c.toNat % 16)]) := by
  unfold colonHex
  rw [cx_append]
  cases l with
  | nil => rfl
  | cons d t => simp [cx]

theorem and15_u8 (a : Int) (h0 : 0 ≤ a) (h1 : a < 256) : bits .and .u8 a 15 = a % 16 := by
  rw [u8_and a 15 h0 h1 (by omega) (by omega), show (15 : Int).toNat = 15 from rfl, nat_mask4]
  omega

set_option maxHeartbeats 1600000 in
theorem ab_hex (B : Nat) (A : Int) (hA : A = 4 ∨ A = 5) (v : Value) (l : List UInt8) (x : Value) (t : List UInt8) (w : World) (hd : Dst B w v l) (hx : Rd B w x t) (hB : B ≤ w.heap.size) (hl : l.length ≤ 10000000) (ht : t.length ≤ 10000000) :
    Calls Tryd.prog 23 #[v, .int .u8 A, x] w fun e w' => ∃ v', e = .returned v' ∧ Dst B w' v' (l ++ colonHex t) ∧ Step B w w' := by
  obtain ⟨a, b, o, cap, rfl, h1, h2⟩ := hx
  obtain ⟨n, hn⟩ : ∃ n, n = t.length := ⟨_, rfl⟩
  rw [← hn] at ht ⊢
  have HN := Lib.hid hn
  have h8 : (A == 8) = false := beq_eq_false_iff_ne.2 (by omega)
  have h9 : (A == 9) = false := beq_eq_false_iff_ne.2 (by omega)
  clear hn
  rcases hA with rfl | rfl
  · go_enter Tryd.func23, Tryd.ntmps23
    go_wp2
    go_loopw [0, 9, 10, 32] (fun d _i _c k wr => ∃ j : Nat, j ≤ n ∧ k = .int .i64 (j : Int) ∧ Dst B wr d (l ++ colonHex (t.take j)) ∧ Step B w wr) (fun _ _ _ k _ => n - (intOf k).toNat)
    case atStart => exact ⟨0, Nat.zero_le _, rfl, by simpa [colonHex, cx] using hd, Step.refl _ _⟩
    case round =>
      obtain ⟨j, hj, rfl, hdd, hs⟩ := hrel
      clear hd
      by_cases hlt : j < n
      · have hjl : j < t.length := by rw [← HN.out]; exact hlt
        have ha := (h1 (by omega)).1
        cases ha
        have hcell : wr.cell? ⟨b, o + j, none⟩ = some (.int .u8 (t[j].toNat : Int)) := by
          rw [hs.below.cell (p := ⟨b, o + j, none⟩) (h1 (by omega)).2]; exact h2 j hjl
        have hB' := Nat.le_trans hB hs.size
        obtain ⟨c, hc⟩ : ∃ c, c = t[j] := ⟨_, rfl⟩
        rw [← hc] at hcell
        have hc256 := c.toNat_lt
        obtain ⟨C, hC⟩ : ∃ C : Int, C = (c.toNat : Int) := ⟨_, rfl⟩
        rw [← hC] at hcell
        have i1 := fun w => idx_hex (C / 16) (by omega) (by omega) w
        have i2 := fun w => idx_hex (C % 16) (by omega) (by omega) w
        have a2 := and15_u8 C (by omega) (by omega)
        obtain ⟨p, hp⟩ : ∃ p, p = hexd (C / 16).toNat := ⟨_, rfl⟩
        obtain ⟨q, hq⟩ : ∃ q, q = hexd (C % 16).toNat := ⟨_, rfl⟩
        rw [← hp] at i1
        rw [← hq] at i2
        have hC0 : 0 ≤ C := by omega
        have hC1 : C < 256 := by omega
        have hsn : colonHex (t.take (j + 1)) = colonHex (t.take j) ++ (if t.take j = [] then [p, q] else [58, p, q]) := by
          rw [List.take_succ_eq_append_getElem hjl, colonHex_snoc, hp, hq, hC, hc, show ((t[j].toNat : Int) / 16).toNat = t[j].toNat / 16 by omega, show ((t[j].toNat : Int) % 16).toNat = t[j].toNat % 16 by omega]
        have HSN := Lib.hid hsn
        clear hc hC hp hq hsn hc256
        rcases Nat.eq_zero_or_pos j with rfl | hpos
        · clear h1 h2
          rw [Nat.add_zero] at hcell
          rw [show ((0 : Nat) : Int) = 0 from rfl]
          obtain ⟨L, hL⟩ : ∃ L, L = l ++ colonHex (t.take 0) ++ [p, q] := ⟨_, rfl⟩
          have HL := Lib.hid hL
          have HLim := Lib.hid (show (l ++ colonHex (t.take 0)).length + [p, q].length ≤ 140737488355328 by simp [colonHex, cx]; omega)
          clear hL
          go_wp2
          go_region_law (refine step_append_dst rfl (.tmp 42) (.tmp 49) rfl B u0 (l ++ colonHex (t.take 0)) (by simp [Act.eval]) (Dst.alloc (show Dst B wr.drew _ _ from hdd) _) (Nat.le_trans hB' (by simp)) ⟨wr.heap.size, 0, none⟩ 2 2 [p, q] L HL.out (by simp [Act.eval]) rfl (new_two wr.drew _ _ p q rfl rfl) (by simp) HLim.out ?_; intro v3 w3; intro o3; intro b3)
          all_goals
            go_wp2
            go_roundw
            case rel =>
              refine ⟨1, by omega, by go_num, ?_, hs.trans ((Step.of (((Below.refl _ _).drew).alloc (Nat.le_refl _) _) hB').trans b3)⟩
              have e := HSN.out
              rw [if_pos (by simp)] at e
              rw [e, ← List.append_assoc, ← HL.out]
              exact Dst.own o3
            case measure => simp [intOf]; omega
        · have hne : ¬ t.take j = [] := by
            intro h
            have := congrArg List.length h
            rw [List.length_take, List.length_nil] at this
            omega
          have HNE := Lib.hid hne
          have hji : (0 : Int) < (j : Int) := by omega
          obtain ⟨L1, hL1⟩ : ∃ L, L = l ++ colonHex (t.take j) ++ [58] := ⟨_, rfl⟩
          obtain ⟨L, hL⟩ : ∃ L, L = L1 ++ [p, q] := ⟨_, rfl⟩
          have hlen : (l ++ colonHex (t.take j)).length ≤ 50000000 := by
            have h3 := cx_len (t.take j)
            rw [List.length_take] at h3
            rw [List.length_append, colonHex, List.length_drop]
            omega
          have hl1 : L1.length = (l ++ colonHex (t.take j)).length + 1 := by rw [hL1, List.length_append]; rfl
          have HL1 := Lib.hid hL1
          have HL := Lib.hid hL
          have HLim0 := Lib.hid (show (l ++ colonHex (t.take j)).length + 1 ≤ 140737488355328 by omega)
          have HLim := Lib.hid (show L1.length + [p, q].length ≤ 140737488355328 by simp; omega)
          clear hL hL1 hl1 hlen hne h1 h2
          go_wp2_with (at_builtin; refine wpList_append1 rfl _ _ rfl B u0 _ rfl hdd hB' 58 58 rfl L1 HL1.out rfl HLim0.out ?_)
          intro v2 w2 o2 b2
          have hB2 := Nat.le_trans hB' b2.size
          go_wp2
          go_region_law (refine step_append_dst rfl (.tmp 42) (.tmp 49) rfl B v2 L1 (by simp [Act.eval]) (Dst.alloc (show Dst B w2.drew _ _ from Dst.own o2) _) (Nat.le_trans hB2 (by simp)) ⟨w2.heap.size, 0, none⟩ 2 2 [p, q] L HL.out (by simp [Act.eval]) rfl (new_two w2.drew _ _ p q rfl rfl) (by simp) HLim.out ?_; intro v3 w3; intro o3; intro b3)
          all_goals
            go_wp2
            go_roundw
            case rel =>
              refine ⟨j + 1, by omega, by go_num, ?_, (hs.trans b2).trans ((Step.of (((Below.refl _ _).drew).alloc (Nat.le_refl _) _) hB2).trans b3)⟩
              have e := HSN.out
              rw [if_neg HNE.out] at e
              rw [e, show l ++ (colonHex (t.take j) ++ [58, p, q]) = L by rw [HL.out, HL1.out]; simp]
              exact Dst.own o3
            case measure => simp [intOf]; omega
      · obtain rfl : j = n := by omega
        clear h1 h2 hlt
        rw [List.take_of_length_le (Nat.le_of_eq HN.out.symm)] at hdd
        go_wp2
        go_ret
        exact ⟨_, rfl, hdd, hs⟩
  · go_enter Tryd.func23, Tryd.ntmps23
    go_wp2
    go_loopw [0, 9, 10, 32] (fun d _i _c k wr => ∃ j : Nat, j ≤ n ∧ k = .int .i64 (j : Int) ∧ Dst B wr d (l ++ colonHex (t.take j)) ∧ Step B w wr) (fun _ _ _ k _ => n - (intOf k).toNat)
    case atStart => exact ⟨0, Nat.zero_le _, rfl, by simpa [colonHex, cx] using hd, Step.refl _ _⟩
    case round =>
      obtain ⟨j, hj, rfl, hdd, hs⟩ := hrel
      clear hd
      by_cases hlt : j < n
      · have hjl : j < t.length := by rw [← HN.out]; exact hlt
        have ha := (h1 (by omega)).1
        cases ha
        have hcell : wr.cell? ⟨b, o + j, none⟩ = some (.int .u8 (t[j].toNat : Int)) := by
          rw [hs.below.cell (p := ⟨b, o + j, none⟩) (h1 (by omega)).2]; exact h2 j hjl
        have hB' := Nat.le_trans hB hs.size
        obtain ⟨c, hc⟩ : ∃ c, c = t[j] := ⟨_, rfl⟩
        rw [← hc] at hcell
        have hc256 := c.toNat_lt
        obtain ⟨C, hC⟩ : ∃ C : Int, C = (c.toNat : Int) := ⟨_, rfl⟩
        rw [← hC] at hcell
        have i1 := fun w => idx_hex (C / 16) (by omega) (by omega) w
        have i2 := fun w => idx_hex (C % 16) (by omega) (by omega) w
        have a2 := and15_u8 C (by omega) (by omega)
        obtain ⟨p, hp⟩ : ∃ p, p = hexd (C / 16).toNat := ⟨_, rfl⟩
        obtain ⟨q, hq⟩ : ∃ q, q = hexd (C % 16).toNat := ⟨_, rfl⟩
        rw [← hp] at i1
        rw [← hq] at i2
        have hC0 : 0 ≤ C := by omega
        have hC1 : C < 256 := by omega
        have hsn : colonHex (t.take (j + 1)) = colonHex (t.take j) ++ (if t.take j = [] then [p, q] else [58, p, q]) := by
          rw [List.take_succ_eq_append_getElem hjl, colonHex_snoc, hp, hq, hC, hc, show ((t[j].toNat : Int) / 16).toNat = t[j].toNat / 16 by omega, show ((t[j].toNat : Int) % 16).toNat = t[j].toNat % 16 by omega]
        have HSN := Lib.hid hsn
        clear hc hC hp hq hsn hc256
        rcases Nat.eq_zero_or_pos j with rfl | hpos
        · clear h1 h2
          rw [Nat.add_zero] at hcell
          rw [show ((0 : Nat) : Int) = 0 from rfl]
          obtain ⟨L, hL⟩ : ∃ L, L = l ++ colonHex (t.take 0) ++ [p, q] := ⟨_, rfl⟩
          have HL := Lib.hid hL
          have HLim := Lib.hid (show (l ++ colonHex (t.take 0)).length + [p, q].length ≤ 140737488355328 by simp [colonHex, cx]; omega)
          clear hL
          go_wp2
          go_region_law (refine step_append_dst rfl (.tmp 42) (.tmp 49) rfl B u0 (l ++ colonHex (t.take 0)) (by simp [Act.eval]) (Dst.alloc (show Dst B wr.drew _ _ from hdd) _) (Nat.le_trans hB' (by simp)) ⟨wr.heap.size, 0, none⟩ 2 2 [p, q] L HL.out (by simp [Act.eval]) rfl (new_two wr.drew _ _ p q rfl rfl) (by simp) HLim.out ?_; intro v3 w3; intro o3; intro b3)
          all_goals
            go_wp2
            go_roundw
            case rel =>
              refine ⟨1, by omega, by go_num, ?_, hs.trans ((Step.of (((Below.refl _ _).drew).alloc (Nat.le_refl _) _) hB').trans b3)⟩
              have e := HSN.out
              rw [if_pos (by simp)] at e
              rw [e, ← List.append_assoc, ← HL.out]
              exact Dst.own o3
            case measure => simp [intOf]; omega
        · have hne : ¬ t.take j = [] := by
            intro h
            have := congrArg List.length h
            rw [List.length_take, List.length_nil] at this
            omega
          have HNE := Lib.hid hne
          have hji : (0 : Int) < (j : Int) := by omega
          obtain ⟨L1, hL1⟩ : ∃ L, L = l ++ colonHex (t.take j) ++ [58] := ⟨_, rfl⟩
          obtain ⟨L, hL⟩ : ∃ L, L = L1 ++ [p, q] := ⟨_, rfl⟩
          have hlen : (l ++ colonHex (t.take j)).length ≤ 50000000 := by
            have h3 := cx_len (t.take j)
            rw [List.length_take] at h3
            rw [List.length_append, colonHex, List.length_drop]
            omega
          have hl1 : L1.length = (l ++ colonHex (t.take j)).length + 1 := by rw [hL1, List.length_append]; rfl
          have HL1 := Lib.hid hL1
          have HL := Lib.hid hL
          have HLim0 := Lib.hid (show (l ++ colonHex (t.take j)).length + 1 ≤ 140737488355328 by omega)
          have HLim := Lib.hid (show L1.length + [p, q].length ≤ 140737488355328 by simp; omega)
          clear hL hL1 hl1 hlen hne h1 h2
          go_wp2_with (at_builtin; refine wpList_append1 rfl _ _ rfl B u0 _ rfl hdd hB' 58 58 rfl L1 HL1.out rfl HLim0.out ?_)
          intro v2 w2 o2 b2
          have hB2 := Nat.le_trans hB' b2.size
          go_wp2
          go_region_law (refine step_append_dst rfl (.tmp 42) (.tmp 49) rfl B v2 L1 (by simp [Act.eval]) (Dst.alloc (show Dst B w2.drew _ _ from Dst.own o2) _) (Nat.le_trans hB2 (by simp)) ⟨w2.heap.size, 0, none⟩ 2 2 [p, q] L HL.out (by simp [Act.eval]) rfl (new_two w2.drew _ _ p q rfl rfl) (by simp) HLim.out ?_; intro v3 w3; intro o3; intro b3)
          all_goals
            go_wp2
            go_roundw
            case rel =>
              refine ⟨j + 1, by omega, by go_num, ?_, (hs.trans b2).trans ((Step.of (((Below.refl _ _).drew).alloc (Nat.le_refl _) _) hB2).trans b3)⟩
              have e := HSN.out
              rw [if_neg HNE.out] at e
              rw [e, show l ++ (colonHex (t.take j) ++ [58, p, q]) = L by rw [HL.out, HL1.out]; simp]
              exact Dst.own o3
            case measure => simp [intOf]; omega
      · obtain rfl : j = n := by omega
        clear h1 h2 hlt
        rw [List.take_of_length_le (Nat.le_of_eq HN.out.symm)] at hdd
        go_wp2
        go_ret
        exact ⟨_, rfl, hdd, hs⟩
end Go.Proofs.Qxb6604517aDoor
