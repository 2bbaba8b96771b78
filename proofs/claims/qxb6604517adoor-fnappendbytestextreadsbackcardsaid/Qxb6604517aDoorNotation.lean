import Derived.Test.Qxb6604517aDoorIpMap
import Derived.Test.Qxb6604517aDoorColon
import Derived.Test.Qxb6604517aDoorLastEight
namespace Go.Proofs.Qxb6604517aDoor
open Go.RowKit

/-- The text of sixteen bytes as an address. -/
def ipText (t : List UInt8) : List UInt8 :=
  if ((t.getD 10 0 == 255 && t.getD 11 0 == 255) && (t.take 10).all (fun c => c == 0)) = true then mappedHead ++ dotted (t.getD 12 0).toNat (t.getD 13 0).toNat (t.getD 14 0).toNat (t.getD 15 0).toNat
  else text6 (gq t) (nst (fun k => gq t k == 0) 8).1 (nst (fun k => gq t k == 0) 8).2

/-- The notation of a value. -/
def notn (A : Int) (t : List UInt8) : List UInt8 :=
  if (A = 8 ∨ A = 9) ∧ t.length = 4 then dotted (t.getD 0 0).toNat (t.getD 1 0).toNat (t.getD 2 0).toNat (t.getD 3 0).toNat
  else if (A = 8 ∨ A = 9) ∧ t.length = 16 then ipText t
  else if A = 4 ∨ A = 5 then colonHex t
  else Lib.decDigits (l8 t)

theorem ip_any (x : Value) (t : List UInt8) (w : World) (hx : Rd w.heap.size w x t) (ht : t.length = 16) :
    Calls Tryd.prog 19 #[x] w fun e w' => ∃ v', e = .returned v' ∧ Rd w'.heap.size w' v' (ipText t) ∧ Below w.heap.size w w' := by
  unfold ipText
  by_cases h : ((t.getD 10 0 == 255 && t.getD 11 0 == 255) && (t.take 10).all (fun c => c == 0)) = true
  · rw [if_pos h]; exact ip_map x t w hx ht h
  · rw [if_neg h]; exact ip_six x t w hx ht (Bool.eq_false_iff.2 h)

set_option maxHeartbeats 1600000 in
set_option maxRecDepth 100000 in
theorem nm_16 (A : Int) (x : Value) (t : List UInt8) (w : World) (hx : Rd w.heap.size w x t) (_ht : t.length ≤ 10000000) (hA : A = 8 ∨ A = 9) (h16 : t.length = 16) :
    Calls Tryd.prog 8 #[.int .u8 A, x] w fun e w' => ∃ v', e = .returned v' ∧ Rd w'.heap.size w' v' (ipText t) ∧ Below w.heap.size w w' := by
  have HI := Lib.hid (ip_any x t w hx h16)
  obtain ⟨a, b, o, cap, rfl, h1, h2⟩ := hx
  rw [h16] at HI ⊢
  clear h1 h2
  rcases hA with rfl | rfl
  · go_enter Tryd.func8, Tryd.ntmps8
    go_wp2_with fail
    refine HI.out.mono ?_
    rintro e w1 ⟨v1, rfl, r1, hb1⟩
    go_wp2
    go_ret
    exact ⟨v1, rfl, r1, hb1⟩
  · go_enter Tryd.func8, Tryd.ntmps8
    go_wp2_with fail
    refine HI.out.mono ?_
    rintro e w1 ⟨v1, rfl, r1, hb1⟩
    go_wp2
    go_ret
    exact ⟨v1, rfl, r1, hb1⟩

set_option maxHeartbeats 1600000 in
set_option maxRecDepth 100000 in
theorem nm_hex (A : Int) (x : Value) (t : List UInt8) (w : World) (hx : Rd w.heap.size w x t) (ht : t.length ≤ 10000000) (hA : A = 4 ∨ A = 5) :
    Calls Tryd.prog 8 #[.int .u8 A, x] w fun e w' => ∃ v', e = .returned v' ∧ Rd w'.heap.size w' v' (colonHex t) ∧ Below w.heap.size w w' := by
  have HI := Lib.hid (colon_any x t w hx ht)
  obtain ⟨a, b, o, cap, rfl, h1, h2⟩ := hx
  obtain ⟨n, hn⟩ : ∃ n, n = t.length := ⟨_, rfl⟩
  rw [← hn] at HI ⊢
  clear h1 h2 ht hn
  rcases hA with rfl | rfl
  · go_enter Tryd.func8, Tryd.ntmps8
    go_wp2_with fail
    refine HI.out.mono ?_
    rintro e w1 ⟨v1, rfl, r1, hb1⟩
    go_wp2
    go_ret
    exact ⟨v1, rfl, r1, hb1⟩
  · go_enter Tryd.func8, Tryd.ntmps8
    go_wp2_with fail
    refine HI.out.mono ?_
    rintro e w1 ⟨v1, rfl, r1, hb1⟩
    go_wp2
    go_ret
    exact ⟨v1, rfl, r1, hb1⟩

set_option maxHeartbeats 1600000 in
set_option maxRecDepth 100000 in
theorem nm_dec (A : Int) (x : Value) (t : List UInt8) (w : World) (hx : Rd w.heap.size w x t) (ht : t.length ≤ 10000000) (hA : (A = 8 ∨ A = 9 → t.length ≠ 4 ∧ t.length ≠ 16) ∧ ¬ (A = 4 ∨ A = 5)) :
    Calls Tryd.prog 8 #[.int .u8 A, x] w fun e w' => ∃ v', e = .returned v' ∧ Rd w'.heap.size w' v' (Lib.decDigits (l8 t)) ∧ Below w.heap.size w w' := by
  have HI := Lib.hid (last8_any x t w hx ht)
  have HD := Lib.hid (fun (W : World) (h : w.heap.size ≤ W.heap.size) => decimal_any w.heap.size W (.slice none 0 0) [] (l8 t) (l8 t : Int) rfl (Dst.nil _ _) h (l8_lt t) (by simp))
  obtain ⟨N, hN⟩ : ∃ N : Int, N = (l8 t : Int) := ⟨_, rfl⟩
  rw [← hN] at HI HD
  obtain ⟨a, b, o, cap, rfl, h1, h2⟩ := hx
  obtain ⟨n, hn⟩ : ∃ n, n = t.length := ⟨_, rfl⟩
  rw [← hn] at HI hA ⊢
  clear h1 h2 ht hn hN
  by_cases h8 : A = 8 ∨ A = 9
  · have n4 : ((n : Int) == 4) = false := beq_eq_false_iff_ne.2 (by have := (hA.1 h8).1; omega)
    have n16 : ((n : Int) == 16) = false := beq_eq_false_iff_ne.2 (by have := (hA.1 h8).2; omega)
    clear hA
    rcases h8 with rfl | rfl
    · go_enter Tryd.func8, Tryd.ntmps8
      go_wp2_with fail
      refine HI.out.mono ?_
      rintro e w1 ⟨rfl, h⟩
      replace h := h.symm
      subst h
      go_wp2_with fail
      refine (HD.out _ (Nat.le_refl _)).mono ?_
      rintro e w2 ⟨v2, rfl, o2, b2⟩
      go_wp2
      go_ret
      exact ⟨v2, rfl, by simpa using Rd.own o2, b2.below⟩
    · go_enter Tryd.func8, Tryd.ntmps8
      go_wp2_with fail
      refine HI.out.mono ?_
      rintro e w1 ⟨rfl, h⟩
      replace h := h.symm
      subst h
      go_wp2_with fail
      refine (HD.out _ (Nat.le_refl _)).mono ?_
      rintro e w2 ⟨v2, rfl, o2, b2⟩
      go_wp2
      go_ret
      exact ⟨v2, rfl, by simpa using Rd.own o2, b2.below⟩
  · have e8 : (A == 8) = false := beq_eq_false_iff_ne.2 (fun h => h8 (Or.inl h))
    have e9 : (A == 9) = false := beq_eq_false_iff_ne.2 (fun h => h8 (Or.inr h))
    have e4 : (A == 4) = false := beq_eq_false_iff_ne.2 (fun h => hA.2 (Or.inl h))
    have e5 : (A == 5) = false := beq_eq_false_iff_ne.2 (fun h => hA.2 (Or.inr h))
    clear hA h8
    go_enter Tryd.func8, Tryd.ntmps8
    go_wp2_with fail
    refine HI.out.mono ?_
    rintro e w1 ⟨rfl, h⟩
    replace h := h.symm
    subst h
    go_wp2_with fail
    refine (HD.out _ (Nat.le_refl _)).mono ?_
    rintro e w2 ⟨v2, rfl, o2, b2⟩
    go_wp2
    go_ret
    exact ⟨v2, rfl, by simpa using Rd.own o2, b2.below⟩

set_option maxHeartbeats 1600000 in
set_option maxRecDepth 100000 in
theorem nm_4 (A : Int) (x : Value) (t : List UInt8) (w : World) (hx : Rd w.heap.size w x t) (_ht : t.length ≤ 10000000) (hA : A = 8 ∨ A = 9) (h4 : t.length = 4) :
    Calls Tryd.prog 8 #[.int .u8 A, x] w fun e w' => ∃ v', e = .returned v' ∧ Rd w'.heap.size w' v' (dotted (t.getD 0 0).toNat (t.getD 1 0).toNat (t.getD 2 0).toNat (t.getD 3 0).toNat) ∧ Below w.heap.size w w' := by
  obtain ⟨a, b, o, cap, rfl, h1, h2⟩ := hx
  obtain ⟨ha, hbl⟩ := h1 (by omega)
  subst ha
  have hcl : ∀ (W : World), Below w.heap.size w W → ∀ j, j < 4 → W.cell? ⟨b, o + j, none⟩ = some (.int .u8 ((t.getD j 0).toNat : Int)) := by
    intro W hb j hj
    rw [hb.cell (p := ⟨b, o + j, none⟩) hbl, h2 j (by omega), List.getD_eq_getElem?_getD, List.getElem?_eq_getElem (by omega)]
    rfl
  have HCL := Lib.hid hcl
  have HD := Lib.hid (fun (W : World) (v : Value) (d : Dst w.heap.size W v []) (h : w.heap.size ≤ W.heap.size) => dotted_any w.heap.size W v [] (t.getD 0 0) (t.getD 1 0) (t.getD 2 0) (t.getD 3 0) d h (by simp))
  rw [List.nil_append] at HD
  obtain ⟨FT, hFT⟩ : ∃ F, F = dotted (t.getD 0 0).toNat (t.getD 1 0).toNat (t.getD 2 0).toNat (t.getD 3 0).toNat := ⟨_, rfl⟩
  rw [← hFT] at HD ⊢
  obtain ⟨p, hp⟩ : ∃ p : Int, p = ((t.getD 0 0).toNat : Int) := ⟨_, rfl⟩
  obtain ⟨q, hq⟩ : ∃ p : Int, p = ((t.getD 1 0).toNat : Int) := ⟨_, rfl⟩
  obtain ⟨r, hr⟩ : ∃ p : Int, p = ((t.getD 2 0).toNat : Int) := ⟨_, rfl⟩
  obtain ⟨s, hs⟩ : ∃ p : Int, p = ((t.getD 3 0).toNat : Int) := ⟨_, rfl⟩
  rw [← hp, ← hq, ← hr, ← hs] at HD
  have HS := Lib.hid (show ∀ W, Below w.heap.size w W → W.cell? ⟨b, o, none⟩ = some (.int .u8 p) ∧ W.cell? ⟨b, o + 1, none⟩ = some (.int .u8 q) ∧ W.cell? ⟨b, o + 2, none⟩ = some (.int .u8 r) ∧ W.cell? ⟨b, o + 3, none⟩ = some (.int .u8 s) from fun W h => by
    rw [hp, hq, hr, hs]
    exact ⟨HCL.out W h 0 (by omega), HCL.out W h 1 (by omega), HCL.out W h 2 (by omega), HCL.out W h 3 (by omega)⟩)
  obtain ⟨c0, c1, c2, c3⟩ := HS.out w (Below.refl _ _)
  have hbd : Below w.heap.size w w.drew := (Below.refl _ _).drew
  rw [h4]
  clear hFT hp hq hr hs h1 h2 hcl h4
  rcases hA with rfl | rfl
  · go_enter Tryd.func8, Tryd.ntmps8
    go_wp2
    go_region_held (fun W => W.cell? ⟨b, o, none⟩ = some (.int .u8 p) ∧ W.cell? ⟨b, o + 1, none⟩ = some (.int .u8 q) ∧ W.cell? ⟨b, o + 2, none⟩ = some (.int .u8 r) ∧ W.cell? ⟨b, o + 3, none⟩ = some (.int .u8 s)) (first | go_keep | exact HS.out _ (hbd.trans b3.below)) (first | (go_at_call 18; refine (HD.out _ _ (Dst.nil w.heap.size w.drew) (Nat.le_refl _)).mono ?_; rintro e w3 ⟨v3, rfl, o3, b3⟩))
    all_goals
      go_wp2
      go_ret
      exact ⟨v3, rfl, Rd.own o3, hbd.trans b3.below⟩
  · go_enter Tryd.func8, Tryd.ntmps8
    go_wp2
    go_region_held (fun W => W.cell? ⟨b, o, none⟩ = some (.int .u8 p) ∧ W.cell? ⟨b, o + 1, none⟩ = some (.int .u8 q) ∧ W.cell? ⟨b, o + 2, none⟩ = some (.int .u8 r) ∧ W.cell? ⟨b, o + 3, none⟩ = some (.int .u8 s)) (first | go_keep | exact HS.out _ (hbd.trans b3.below)) (first | (go_at_call 18; refine (HD.out _ _ (Dst.nil w.heap.size w.drew) (Nat.le_refl _)).mono ?_; rintro e w3 ⟨v3, rfl, o3, b3⟩))
    all_goals
      go_wp2
      go_ret
      exact ⟨v3, rfl, Rd.own o3, hbd.trans b3.below⟩


theorem nm_any (A : Int) (x : Value) (t : List UInt8) (w : World) (hx : Rd w.heap.size w x t) (ht : t.length ≤ 10000000) :
    Calls Tryd.prog 8 #[.int .u8 A, x] w fun e w' => ∃ v', e = .returned v' ∧ Rd w'.heap.size w' v' (notn A t) ∧ Below w.heap.size w w' := by
  unfold notn
  by_cases h4 : (A = 8 ∨ A = 9) ∧ t.length = 4
  · rw [if_pos h4]; exact nm_4 A x t w hx ht h4.1 h4.2
  · rw [if_neg h4]
    by_cases h16 : (A = 8 ∨ A = 9) ∧ t.length = 16
    · rw [if_pos h16]; exact nm_16 A x t w hx ht h16.1 h16.2
    · rw [if_neg h16]
      by_cases hh : A = 4 ∨ A = 5
      · rw [if_pos hh]; exact nm_hex A x t w hx ht hh
      · rw [if_neg hh]; exact nm_dec A x t w hx ht ⟨fun h => ⟨fun e => h4 ⟨h, e⟩, fun e => h16 ⟨h, e⟩⟩, hh⟩
end Go.Proofs.Qxb6604517aDoor
