import Derived.Test.Qxb6604517aDoorRead7
namespace Go.Proofs.Qxb6604517aDoor
open Go.RowKit

theorem orw16 (x y : Int) (h0 : 0 ≤ x) (h1 : x < 256) (g0 : 0 ≤ y) (g1 : y < 256) : bits .or .u16 (x * 256) y = x * 256 + y := by
  rw [u16_or (x * 256) y (by omega) (by omega) g0 (by omega)]
  have h := Nat.shiftLeft_add_eq_or_of_lt (i := 8) (b := y.toNat) (by omega) x.toNat
  rw [Nat.shiftLeft_eq] at h
  rw [show (x * 256).toNat = x.toNat * 2 ^ 8 by omega, ← h]
  omega
theorem BN.lt {ty : TypeId} {n : Nat} {q : IntKind} {f : Nat → Int} {G k : Nat} {w : World} (h : BN ty n q f G k w) : G < w.heap.size := by
  obtain ⟨cur, h, _⟩ := h; exact lt_of_block h
theorem BN.on {ty : TypeId} {n : Nat} {q : IntKind} {f : Nat → Int} {G k : Nat} {w w' : World} {B : Nat} (h : BN ty n q f G k w) (hb : Below B w w') (hlt : G < B) : BN ty n q f G k w' := by
  obtain ⟨cur, h, r⟩ := h
  exact ⟨cur, by rw [hb.block G hlt]; exact h, r⟩

set_option maxHeartbeats 3200000 in
set_option maxRecDepth 100000 in
theorem pwords_map (w : World) (b o cap len : Nat) (q : Nat → Nat) (ps : Nat → Nat) (pd : Nat → Nat) (hq : ∀ k, q k < 256) (I : Nat → List UInt8) (hI0 : I 0 = hex16 65535) (hI1 : 46 ∈ I 1) (hI : Items w b o 58 2 I ps len)
    (hD : Items w b (o + ps 1) 46 4 (fun k => Lib.decDigits (q k)) pd (I 1).length) (hbl : b < w.heap.size) (hlen : len ≤ 1000) (hcap : len ≤ cap) :
    Calls Tryd.prog 24 #[.slice (some ⟨b, o, none⟩) len cap, .bool true] w fun e w' => e = .returned (.tuple #[aggW (fun k => if k = 0 then 65535 else if k = 1 then ((q 0 * 256 + q 1 : Nat) : Int) else if k = 2 then ((q 2 * 256 + q 3 : Nat) : Int) else 0), .int .i64 3, .bool true]) ∧ Below w.heap.size w w' := by
  have HI := Lib.hid hI
  have HD := Lib.hid hD
  have HQ := Lib.hid hq
  have HI0 := Lib.hid hI0
  have HI1 := Lib.hid hI1
  obtain ⟨f, hf⟩ : ∃ f : Nat → Int, f = fun k => if k = 0 then 65535 else if k = 1 then ((q 0 * 256 + q 1 : Nat) : Int) else if k = 2 then ((q 2 * 256 + q 3 : Nat) : Int) else 0 := ⟨_, rfl⟩
  have HF := Lib.hid hf
  rw [← hf]
  have hl0 := hI.le 2 0 (by omega) (by omega)
  have hx1 : 1 ≤ (I 0).length := by rw [hI0]; exact (hex16_len 65535).1
  rw [hI.p0] at hl0
  have hlen0 : ((len : Int) == 0) = false := beq_eq_false_iff_ne.2 (by have := hl0.1; omega)
  clear hI hq hf hl0 hx1 hD hI0 hI1
  go_enter Tryd.func24, Tryd.ntmps24
  go_wp2
  go_loopw [8, 9, 10, 11, 12, 13, 14, 15] (fun s5 s6 s7 _ _ _ _ _ wr => ∃ k p i j : Nat, k ≤ 2 ∧ s5 = .int .i64 ((if k = 2 then 3 else k : Nat) : Int) ∧ s6 = .int .i64 (p : Int) ∧ s7 = .int .i64 (i : Int) ∧ Hid (p = ps k ∧ i = ps k + j ∧ (k < 2 → j ≤ (I k).length) ∧ (k = 2 → j = 0)) ∧ BN 49 8 .u16 f (w.heap.size + 1) (if k = 2 then 3 else k) wr ∧ BN 49 8 .u16 f w.heap.size 0 wr ∧ Below w.heap.size w wr) (fun _ _ s7 _ _ _ _ _ _ => len + 1 - (intOf s7).toNat)
  case atStart =>
    refine ⟨0, 0, 0, 0, by omega, rfl, rfl, rfl, ⟨HI.out.p0.symm, by rw [HI.out.p0], fun _ => Nat.zero_le _, fun h => absurd h (by omega)⟩, ?_, ?_, ((Below.refl _ _).alloc (Nat.le_refl _) _).alloc (by simp) _⟩
    · have h := BN.fresh (ty := 49) (n := 8) (q := .u16) (f := f) (w.alloc (.cells #[.int .u16 0, .int .u16 0, .int .u16 0, .int .u16 0, .int .u16 0, .int .u16 0, .int .u16 0, .int .u16 0] 49)) #[.int .u16 0, .int .u16 0, .int .u16 0, .int .u16 0, .int .u16 0, .int .u16 0, .int .u16 0, .int .u16 0] rfl eight
      simpa using h
    · exact (BN.fresh (n := 8) (q := .u16) w #[.int .u16 0, .int .u16 0, .int .u16 0, .int .u16 0, .int .u16 0, .int .u16 0, .int .u16 0, .int .u16 0] rfl eight).alloc _
  case round =>
    obtain ⟨k, p, i, j, hk, rfl, rfl, rfl, hP, hG, hZ, hb⟩ := hrel
    obtain ⟨hp, hi, hj, hj4⟩ := hP.out
    have hcases : k = 0 ∨ k = 1 ∨ k = 2 := by omega
    rcases hcases with rfl | rfl | rfl
    · replace hG : BN 49 8 .u16 f (w.heap.size + 1) 0 wr := hG
      have hle := HI.out.le 2 0 (by omega) (by omega)
      have hj' := hj (by omega)
      by_cases hjl : j < (I 0).length
      · have hc := (HI.out.at_ 0 (by omega)).on hb hbl j hjl
        have hne := HI.out.no 0 (by omega) _ (List.getElem_mem hjl)
        rw [Nat.add_assoc, ← hi] at hc
        obtain ⟨C, hC⟩ : ∃ C : Int, C = ((I 0)[j].toNat : Int) := ⟨_, rfl⟩
        have hC46 : C ≠ 58 := by
          intro e
          apply hne
          apply UInt8.toNat_inj.1
          show (I 0)[j].toNat = 58
          omega
        rw [← hC] at hc
        have hil : (i : Int) < (len : Int) := by have := hle.1; omega
        have HP' := Lib.hid (show p = ps 0 ∧ i + 1 = ps 0 + (j + 1) ∧ j + 1 ≤ (I 0).length from ⟨hp, by omega, by omega⟩)
        have HG := Lib.hid hG
        have HZ := Lib.hid hZ
        have HB := Lib.hid hb
        have hC46' : (C == 58) = false := beq_eq_false_iff_ne.2 hC46
        clear hP hp hi hj hj4 hle hj' hjl hne hC hG hZ hb
        go_wp2
        go_roundw
        case rel => exact ⟨0, p, i + 1, j + 1, by omega, rfl, rfl, by go_num, ⟨HP'.out.1, HP'.out.2.1, fun _ => HP'.out.2.2, fun h => absurd h (by omega)⟩, HG.out, HZ.out, HB.out⟩
        case measure => simp [intOf]; omega
      · have hjE : j = (I 0).length := by omega
        have hAtk := (HI.out.at_ 0 (by omega)).on hb hbl
        rw [← hp, HI0.out] at hAtk
        have hpd := Lib.hid (fun c => phex_any wr b (o + p) c 65535 (by omega) hAtk)
        have hl1 := (hex16_len 65535).1
        obtain ⟨L, hL⟩ : ∃ L, L = (hex16 65535).length := ⟨_, rfl⟩
        have hLI : L = (I 0).length := by rw [HI0.out]; exact hL
        rw [← hL] at hpd hl1
        have hip : i - p = L := by omega
        have hpi : (p : Int) ≤ (i : Int) := by omega
        have hil : (i : Int) ≤ (len : Int) := by have := hle.1; omega
        have hicap : (i : Int) ≤ (cap : Int) := by omega
        have hpc : ¬ cap = p := by omega
        have hVf : (65535 : Int) = f 0 := by rw [HF.out]; rfl
        have c := hG.zero 0 (Nat.le_refl _) (by omega)
        have hfz := hG.free 0
        have HP' := Lib.hid (show i + 1 = ps 1 ∧ i + 1 = ps 1 + 0 from by
          have h1 : ps 1 = ps 0 + (I 0).length + 1 := HI.out.ps1 0 (by omega)
          refine ⟨by omega, by omega⟩)
        have HG := Lib.hid (hG.put (by omega))
        have HZ := Lib.hid (hZ.far (show w.heap.size ≠ w.heap.size + 1 by omega) 0 (.int .u16 (f 0)))
        have HB := Lib.hid (hb.setCell (p := ⟨w.heap.size + 1, 0, none⟩) (by show w.heap.size ≤ w.heap.size + 1; omega) (.int .u16 (f 0)))
        rw [← hVf] at HG HZ HB
        have hc := HI.out.sep_ 0 (by omega)
        rw [← hb.cell (p := ⟨b, o + (ps 0 + (I 0).length), none⟩) hbl, ← hjE, ← hi] at hc
        have hc' : wr.cell? ⟨b, o + i, none⟩ = some (.int .u8 58) := hc
        have hil' : (i : Int) < (len : Int) := by have := hle.2 (by omega); omega
        have hieq : ((i : Int) == (len : Int)) = false := beq_eq_false_iff_ne.2 (by omega)
        clear hP hp hi hj hj4 hle hj' hjl hG hZ hb hc hjE hL hVf hAtk hl1 hLI
        go_wp2_with fail
        refine (hpd.out _).mono ?_
        rintro e w' ⟨rfl, h⟩
        replace h := h.symm
        subst h
        go_wp2
        go_roundw
        case rel => exact ⟨1, i + 1, i + 1, 0, by omega, by go_num, by go_num, by go_num, ⟨HP'.out.1, HP'.out.2, fun _ => Nat.zero_le _, fun _ => rfl⟩, HG.out, HZ.out, HB.out⟩
        case measure => simp [intOf]; omega
    · replace hG : BN 49 8 .u16 f (w.heap.size + 1) 1 wr := hG
      have hle := HI.out.le 1 1 (by omega) (by omega)
      have hj' := hj (by omega)
      by_cases hjl : j < (I 1).length
      · have hc := (HI.out.at_ 1 (by omega)).on hb hbl j hjl
        have hne := HI.out.no 1 (by omega) _ (List.getElem_mem hjl)
        rw [Nat.add_assoc, ← hi] at hc
        obtain ⟨C, hC⟩ : ∃ C : Int, C = ((I 1)[j].toNat : Int) := ⟨_, rfl⟩
        have hC46 : C ≠ 58 := by
          intro e
          apply hne
          apply UInt8.toNat_inj.1
          show (I 1)[j].toNat = 58
          omega
        rw [← hC] at hc
        have hil : (i : Int) < (len : Int) := by have := hle.1; omega
        have HP' := Lib.hid (show p = ps 1 ∧ i + 1 = ps 1 + (j + 1) ∧ j + 1 ≤ (I 1).length from ⟨hp, by omega, by omega⟩)
        have HG := Lib.hid hG
        have HZ := Lib.hid hZ
        have HB := Lib.hid hb
        have hC46' : (C == 58) = false := beq_eq_false_iff_ne.2 hC46
        clear hP hp hi hj hj4 hle hj' hjl hne hC hG hZ hb
        go_wp2
        go_roundw
        case rel => exact ⟨1, p, i + 1, j + 1, by omega, rfl, rfl, by go_num, ⟨HP'.out.1, HP'.out.2.1, fun _ => HP'.out.2.2, fun h => absurd h (by omega)⟩, HG.out, HZ.out, HB.out⟩
        case measure => simp [intOf]; omega
      · have hjE : j = (I 1).length := by omega
        have hq0 := HQ.out 0
        have hq1 := HQ.out 1
        have hq2 := HQ.out 2
        have hq3 := HQ.out 3
        have hAtk := (HI.out.at_ 1 (by omega)).on hb hbl
        have hDw := HD.out.on hb hbl
        rw [← hp] at hAtk hDw
        have hbs := hb.size
        have hl1 : 1 ≤ (I 1).length := List.length_pos_of_mem HI1.out
        have hL1000 : (I 1).length ≤ 1000 := by have := hle.1; omega
        have hdt := Lib.hid (fun c => dot_any wr b (o + p) c (I 1) hL1000 hAtk HI1.out)
        have hpd := Lib.hid (fun c (h : (I 1).length ≤ c) => pdot_any wr b (o + p) c (I 1).length q pd HQ.out hDw (by omega) hL1000 h)
        obtain ⟨L, hL⟩ : ∃ L, L = (I 1).length := ⟨_, rfl⟩
        rw [← hL] at hpd hdt hl1 hjE hle
        have hip : i - p = L := by omega
        have hpi : (p : Int) ≤ (i : Int) := by omega
        have hil : (i : Int) ≤ (len : Int) := by have := hle.1; omega
        have hicap : (i : Int) ≤ (cap : Int) := by omega
        have hpc : ¬ cap = p := by omega
        have hLc : L ≤ cap - p := by omega
        have hps2 : ps 2 = ps 1 + L + 1 := by rw [hL]; exact HI.out.ps1 1 (by omega)
        have hpK := HI.out.pK
        have hil' : ¬ (i : Int) < (len : Int) := by omega
        have hieq : ((i : Int) == (len : Int)) = true := beq_iff_eq.2 (by omega)
        obtain ⟨X0, hX0⟩ : ∃ X : Int, X = ((q 0 : Nat) : Int) := ⟨_, rfl⟩
        obtain ⟨X1, hX1⟩ : ∃ X : Int, X = ((q 1 : Nat) : Int) := ⟨_, rfl⟩
        obtain ⟨X2, hX2⟩ : ∃ X : Int, X = ((q 2 : Nat) : Int) := ⟨_, rfl⟩
        obtain ⟨X3, hX3⟩ : ∃ X : Int, X = ((q 3 : Nat) : Int) := ⟨_, rfl⟩
        rw [← hX0, ← hX1, ← hX2, ← hX3] at hpd
        have o1 := orw16 X0 X1 (by omega) (by omega) (by omega) (by omega)
        have o2 := orw16 X2 X3 (by omega) (by omega) (by omega) (by omega)
        have f1 : X0 * 256 + X1 = f 1 := by rw [HF.out]; show _ = ((q 0 * 256 + q 1 : Nat) : Int); omega
        have f2 : X2 * 256 + X3 = f 2 := by rw [HF.out]; show _ = ((q 2 * 256 + q 3 : Nat) : Int); omega
        rw [f1] at o1
        rw [f2] at o2
        have b0 : 0 ≤ X0 ∧ X0 < 256 := by omega
        have b1 : 0 ≤ X1 ∧ X1 < 256 := by omega
        have b2 : 0 ≤ X2 ∧ X2 < 256 := by omega
        have b3 : 0 ≤ X3 ∧ X3 < 256 := by omega
        have HP' := Lib.hid (show i + 1 = ps 2 ∧ i + 1 = ps 2 + 0 from ⟨by omega, by omega⟩)
        have HG := Lib.hid hG
        have HZ := Lib.hid hZ
        have HB := Lib.hid hb
        have hGl := hG.lt
        have hZl := hZ.lt
        clear hP hp hi hj hj4 hle hj' hjl hG hZ hb hjE hL hAtk hl1 hDw hX0 hX1 hX2 hX3 f1 f2 hq0 hq1 hq2 hq3 hps2 hpK hL1000
        go_wp2_with fail
        refine (hdt.out _).mono ?_
        rintro e w' ⟨rfl, h⟩
        replace h := h.symm
        subst h
        go_wp2_with fail
        refine (hpd.out _ hLc).mono ?_
        rintro e w1 ⟨rfl, hb1⟩
        have hG2 := (HG.out.on hb1 hGl).alloc (.cells #[.int .u8 X0, .int .u8 X1, .int .u8 X2, .int .u8 X3] 29)
        have hZ2 := (HZ.out.on hb1 hZl).alloc (.cells #[.int .u8 X0, .int .u8 X1, .int .u8 X2, .int .u8 X3] 29)
        have hB2 := (HB.out.trans (hb1.mono HB.out.size)).alloc (Nat.le_trans HB.out.size hb1.size) (.cells #[.int .u8 X0, .int .u8 X1, .int .u8 X2, .int .u8 X3] 29)
        have cA := hG2.zero 1 (by omega) (by omega)
        have cB := hG2.zero 2 (by omega) (by omega)
        have fA := hG2.free 1
        have fB := hG2.free 2
        have hne1 : ¬ w1.heap.size = w.heap.size + 1 := by have := hb1.size; omega
        have hne2 : ¬ w.heap.size + 1 = w1.heap.size := by omega
        have HG2 := Lib.hid ((hG2.put (by omega)).put (by omega))
        have HZ2 := Lib.hid ((hZ2.far (show w.heap.size ≠ w.heap.size + 1 by omega) 1 (.int .u16 (f 1))).far (show w.heap.size ≠ w.heap.size + 1 by omega) 2 (.int .u16 (f 2)))
        have HB2 := Lib.hid ((hB2.setCell (p := ⟨w.heap.size + 1, 1, none⟩) (by show w.heap.size ≤ w.heap.size + 1; omega) (.int .u16 (f 1))).setCell (p := ⟨w.heap.size + 1, 2, none⟩) (by show w.heap.size ≤ w.heap.size + 1; omega) (.int .u16 (f 2)))
        clear hG2 hZ2 hB2
        go_wp2
        go_roundw
        case rel => exact ⟨2, i + 1, i + 1, 0, by omega, rfl, by go_num, by go_num, ⟨HP'.out.1, HP'.out.2, fun h => absurd h (by omega), fun _ => rfl⟩, HG2.out, HZ2.out, HB2.out⟩
        case measure => simp [intOf]; omega
    · replace hG : BN 49 8 .u16 f (w.heap.size + 1) 3 wr := hG
      have hj0 := hj4 rfl
      have hil : ¬ (i : Int) ≤ (len : Int) := by have := HI.out.pK; omega
      have hG8 : BN 49 8 .u16 f (w.heap.size + 1) 8 wr := hG.all (fun i h1 _ => by
        rw [HF.out]
        show (if i = 0 then (65535 : Int) else if i = 1 then _ else if i = 2 then _ else 0) = 0
        rw [if_neg (by omega), if_neg (by omega), if_neg (by omega)])
      have HZ := Lib.hid hZ
      have HB := Lib.hid hb
      have g0 := hG8.cell 0 (by omega)
      have g1 := hG8.cell 1 (by omega)
      have g2 := hG8.cell 2 (by omega)
      have g3 := hG8.cell 3 (by omega)
      have g4 := hG8.cell 4 (by omega)
      have g5 := hG8.cell 5 (by omega)
      have g6 := hG8.cell 6 (by omega)
      have g7 := hG8.cell 7 (by omega)
      have z0 := hZ.zero 0 (by omega) (by omega)
      have z1 := hZ.zero 1 (by omega) (by omega)
      have z2 := hZ.zero 2 (by omega) (by omega)
      have z3 := hZ.zero 3 (by omega) (by omega)
      have z4 := hZ.zero 4 (by omega) (by omega)
      have z5 := hZ.zero 5 (by omega) (by omega)
      have z6 := hZ.zero 6 (by omega) (by omega)
      have z7 := hZ.zero 7 (by omega) (by omega)
      have f0 := hZ.free 0
      have f1 := hZ.free 1
      have f2 := hZ.free 2
      have f3 := hZ.free 3
      have f4 := hZ.free 4
      have f5 := hZ.free 5
      have f6 := hZ.free 6
      have f7 := hZ.free 7
      rw [show ((if 2 = 2 then 3 else 2 : Nat) : Int) = 3 from rfl]
      clear hG hZ hb hP hp hi hj hj4 hj0 hG8
      go_wp2
      have hz8 := (((((((HZ.out.put (by omega)).put (by omega)).put (by omega)).put (by omega)).put (by omega)).put (by omega)).put (by omega)).put (by omega)
      have hb8 := ((((((((HB.out.setCell (p := ⟨w.heap.size, 0, none⟩) (Nat.le_refl _) (.int .u16 (f 0))).setCell (p := ⟨w.heap.size, 1, none⟩) (Nat.le_refl _) (.int .u16 (f 1))).setCell (p := ⟨w.heap.size, 2, none⟩) (Nat.le_refl _) (.int .u16 (f 2))).setCell (p := ⟨w.heap.size, 3, none⟩) (Nat.le_refl _) (.int .u16 (f 3))).setCell (p := ⟨w.heap.size, 4, none⟩) (Nat.le_refl _) (.int .u16 (f 4))).setCell (p := ⟨w.heap.size, 5, none⟩) (Nat.le_refl _) (.int .u16 (f 5))).setCell (p := ⟨w.heap.size, 6, none⟩) (Nat.le_refl _) (.int .u16 (f 6))).setCell (p := ⟨w.heap.size, 7, none⟩) (Nat.le_refl _) (.int .u16 (f 7)))
      simp only [Nat.zero_add, Nat.reduceAdd] at hz8
      generalize ((((((((wr.setCell ⟨w.heap.size, 0, none⟩ (.int .u16 (f 0))).setCell ⟨w.heap.size, 1, none⟩ (.int .u16 (f 1))).setCell ⟨w.heap.size, 2, none⟩ (.int .u16 (f 2))).setCell ⟨w.heap.size, 3, none⟩ (.int .u16 (f 3))).setCell ⟨w.heap.size, 4, none⟩ (.int .u16 (f 4))).setCell ⟨w.heap.size, 5, none⟩ (.int .u16 (f 5))).setCell ⟨w.heap.size, 6, none⟩ (.int .u16 (f 6))).setCell ⟨w.heap.size, 7, none⟩ (.int .u16 (f 7))) = W9 at hz8 hb8 ⊢
      have c0 := hz8.cell 0 (by omega)
      have c1 := hz8.cell 1 (by omega)
      have c2 := hz8.cell 2 (by omega)
      have c3 := hz8.cell 3 (by omega)
      have c4 := hz8.cell 4 (by omega)
      have c5 := hz8.cell 5 (by omega)
      have c6 := hz8.cell 6 (by omega)
      have c7 := hz8.cell 7 (by omega)
      exact bodyPost_ret (v := .tuple #[aggW f, .int .i64 3, .bool true]) (by simp [results, Tryd.results24, go_sem, aggW, c0, c1, c2, c3, c4, c5, c6, c7]) rfl ⟨rfl, hb8⟩
end Go.Proofs.Qxb6604517aDoor
