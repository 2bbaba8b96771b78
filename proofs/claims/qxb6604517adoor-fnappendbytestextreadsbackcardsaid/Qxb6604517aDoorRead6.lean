import Derived.Test.Qxb6604517aDoorRead5
namespace Go.Proofs.Qxb6604517aDoor
open Go.RowKit

def aggW (f : Nat → Int) : Value := .agg #[.int .u16 (f 0), .int .u16 (f 1), .int .u16 (f 2), .int .u16 (f 3), .int .u16 (f 4), .int .u16 (f 5), .int .u16 (f 6), .int .u16 (f 7)]
theorem eight (i : Nat) (h : i < 8) : (#[Value.int .u16 0, .int .u16 0, .int .u16 0, .int .u16 0, .int .u16 0, .int .u16 0, .int .u16 0, .int .u16 0] : Array Value)[i]? = some (.int .u16 0) := by
  have : i = 0 ∨ i = 1 ∨ i = 2 ∨ i = 3 ∨ i = 4 ∨ i = 5 ∨ i = 6 ∨ i = 7 := by omega
  rcases this with rfl | rfl | rfl | rfl | rfl | rfl | rfl | rfl <;> rfl
theorem BN.all {ty : TypeId} {n : Nat} {q : IntKind} {f : Nat → Int} {G k : Nat} {w : World} (h : BN ty n q f G k w) (h0 : ∀ i, k ≤ i → i < n → f i = 0) : BN ty n q f G n w := by
  obtain ⟨cur, h, hs, hc, hz⟩ := h
  refine ⟨cur, h, hs, fun i hi => ?_, fun i h1 h2 => absurd h2 (by omega)⟩
  by_cases e : i < k
  · exact hc i e
  · rw [h0 i (by omega) hi]; exact hz i (by omega) hi
theorem hexd_ne46 (x : Nat) (hx : x < 16) : hexd x ≠ 46 := by
  intro h
  have h1 := hexd_toNat x hx
  rw [h] at h1
  have : (46 : UInt8).toNat = 46 := rfl
  split at h1 <;> omega
theorem hex_nodot (x : Nat) (hx : x < 65536) : ∀ c ∈ hex16 x, c ≠ 46 := by
  intro c hc
  obtain ⟨k, hk, rfl⟩ := List.mem_iff_getElem.1 hc
  rw [hex16_at x hx k hk]
  exact hexd_ne46 _ (by omega)

set_option maxHeartbeats 3200000 in
set_option maxRecDepth 100000 in
theorem pwords_true (w : World) (b o cap len K : Nat) (hK1 : 1 ≤ K) (hK8 : K ≤ 8) (q : Nat → Nat) (ps : Nat → Nat) (hq : ∀ k, q k < 65536) (hI : Items w b o 58 K (fun k => hex16 (q k)) ps len) (hbl : b < w.heap.size) (hlen : len ≤ 1000) (hcap : len ≤ cap) :
    Calls Tryd.prog 24 #[.slice (some ⟨b, o, none⟩) len cap, .bool true] w fun e w' => e = .returned (.tuple #[aggW (fun k => if k < K then ((q k : Nat) : Int) else 0), .int .i64 (K : Int), .bool true]) ∧ Below w.heap.size w w' := by
  have HI := Lib.hid hI
  have HQ := Lib.hid hq
  obtain ⟨f, hf⟩ : ∃ f : Nat → Int, f = fun k => if k < K then ((q k : Nat) : Int) else 0 := ⟨_, rfl⟩
  have HF := Lib.hid hf
  rw [← hf]
  have hl0 := hI.le K 0 (by omega) (by omega)
  have hx1 := (hex16_len (q 0)).1
  rw [hI.p0] at hl0
  have hlen0 : ((len : Int) == 0) = false := beq_eq_false_iff_ne.2 (by have := hl0.1; omega)
  have HKs := Lib.hid hK1
  clear hI hq hf hl0 hx1
  go_enter Tryd.func24, Tryd.ntmps24
  go_wp2
  go_loopw [8, 9, 10, 11, 14, 15] (fun s5 s6 s7 _ _ _ wr => ∃ k p i j : Nat, k ≤ K ∧ s5 = .int .i64 (k : Int) ∧ s6 = .int .i64 (p : Int) ∧ s7 = .int .i64 (i : Int) ∧ Hid (p = ps k ∧ i = ps k + j ∧ (k < K → j ≤ (hex16 (q k)).length) ∧ (k = K → j = 0)) ∧ BN 49 8 .u16 f (w.heap.size + 1) k wr ∧ BN 49 8 .u16 f w.heap.size 0 wr ∧ Below w.heap.size w wr) (fun _ _ s7 _ _ _ _ => len + 1 - (intOf s7).toNat)
  case atStart =>
    refine ⟨0, 0, 0, 0, by omega, rfl, rfl, rfl, ⟨HI.out.p0.symm, by rw [HI.out.p0], fun _ => Nat.zero_le _, fun h => absurd h (by omega)⟩, ?_, ?_, ((Below.refl _ _).alloc (Nat.le_refl _) _).alloc (by simp) _⟩
    · have h := BN.fresh (ty := 49) (n := 8) (q := .u16) (f := f) (w.alloc (.cells #[.int .u16 0, .int .u16 0, .int .u16 0, .int .u16 0, .int .u16 0, .int .u16 0, .int .u16 0, .int .u16 0] 49)) #[.int .u16 0, .int .u16 0, .int .u16 0, .int .u16 0, .int .u16 0, .int .u16 0, .int .u16 0, .int .u16 0] rfl eight
      simpa using h
    · exact (BN.fresh (n := 8) (q := .u16) w #[.int .u16 0, .int .u16 0, .int .u16 0, .int .u16 0, .int .u16 0, .int .u16 0, .int .u16 0, .int .u16 0] rfl eight).alloc _
  case round =>
    obtain ⟨k, p, i, j, hk, rfl, rfl, rfl, hP, hG, hZ, hb⟩ := hrel
    obtain ⟨hp, hi, hj, hj4⟩ := hP.out
    by_cases hk4 : k < K
    · have hle := HI.out.le (K - k) k (by omega) hk4
      have hj' := hj hk4
      by_cases hjl : j < (hex16 (q k)).length
      · have hc := (HI.out.at_ k hk4).on hb hbl j hjl
        have hne := HI.out.no k hk4 _ (List.getElem_mem hjl)
        rw [Nat.add_assoc, ← hi] at hc
        obtain ⟨C, hC⟩ : ∃ C : Int, C = ((hex16 (q k))[j].toNat : Int) := ⟨_, rfl⟩
        have hC46 : C ≠ 58 := by
          intro e
          apply hne
          apply UInt8.toNat_inj.1
          show (hex16 (q k))[j].toNat = 58
          omega
        rw [← hC] at hc
        have hil : (i : Int) < (len : Int) := by have := hle.1; omega
        have HP' := Lib.hid (show p = ps k ∧ i + 1 = ps k + (j + 1) ∧ (k < K → j + 1 ≤ (hex16 (q k)).length) ∧ (k = K → j + 1 = 0) from ⟨hp, by omega, fun _ => by omega, fun h => by omega⟩)
        have HG := Lib.hid hG
        have HZ := Lib.hid hZ
        have HB := Lib.hid hb
        have hC46' : (C == 58) = false := beq_eq_false_iff_ne.2 hC46
        clear hP hp hi hj hj4 hle hj' hjl hne hC hG hZ hb
        go_wp2
        go_roundw
        case rel => exact ⟨k, p, i + 1, j + 1, hk, rfl, rfl, by go_num, HP'.out, HG.out, HZ.out, HB.out⟩
        case measure => simp [intOf]; omega
      · have hjE : j = (hex16 (q k)).length := by omega
        have hq := HQ.out k
        have hAtk := (HI.out.at_ k hk4).on hb hbl
        rw [← hp] at hAtk
        have hpd := Lib.hid (fun c => phex_any wr b (o + p) c (q k) hq hAtk)
        have hnd := Lib.hid (fun c => nodot_any wr b (o + p) c (hex16 (q k)) (by have := (hex16_len (q k)).2; omega) hAtk (hex_nodot (q k) hq))
        have hl1 := (hex16_len (q k)).1
        obtain ⟨L, hL⟩ : ∃ L, L = (hex16 (q k)).length := ⟨_, rfl⟩
        rw [← hL] at hpd hnd hl1 hjE hle
        have hip : i - p = L := by omega
        have hpi : (p : Int) ≤ (i : Int) := by omega
        have hil : (i : Int) ≤ (len : Int) := by have := hle.1; omega
        have hicap : (i : Int) ≤ (cap : Int) := by omega
        have hpc : ¬ cap = p := by omega
        obtain ⟨V, hV⟩ : ∃ V : Int, V = ((q k : Nat) : Int) := ⟨_, rfl⟩
        rw [← hV] at hpd
        have hVf : V = f k := by rw [hV, HF.out]; show _ = if k < K then _ else _; rw [if_pos hk4]
        have hV0 : 0 ≤ V := by omega
        have hV1 : V ≤ 65535 := by omega
        have c := hG.zero k (Nat.le_refl _) (by omega)
        have hfz := hG.free k
        have HP' := Lib.hid (show i + 1 = ps (k + 1) ∧ i + 1 = ps (k + 1) + 0 ∧ (k + 1 < K → 0 ≤ (hex16 (q (k + 1))).length) ∧ (k + 1 = K → 0 = 0) from by
          have := HI.out.ps1 k hk4
          refine ⟨by omega, by omega, fun _ => Nat.zero_le _, fun _ => rfl⟩)
        have HG := Lib.hid (hG.put (by omega))
        have HZ := Lib.hid (hZ.far (show w.heap.size ≠ w.heap.size + 1 by omega) k (.int .u16 (f k)))
        have HB := Lib.hid (hb.setCell (p := ⟨w.heap.size + 1, k, none⟩) (by show w.heap.size ≤ w.heap.size + 1; omega) (.int .u16 (f k)))
        rw [← hVf] at HG HZ HB
        have hk4i : (k : Int) ≤ 7 := by omega
        by_cases hlast : k + 1 < K
        · have hc := HI.out.sep_ k hlast
          rw [← hL, ← hb.cell (p := ⟨b, o + (ps k + L), none⟩) hbl, ← hjE, ← hi] at hc
          have hc' : wr.cell? ⟨b, o + i, none⟩ = some (.int .u8 58) := hc
          have hil' : (i : Int) < (len : Int) := by have := hle.2 hlast; omega
          have hieq : ((i : Int) == (len : Int)) = false := beq_eq_false_iff_ne.2 (by omega)
          clear hP hp hi hj hj4 hle hj' hjl hG hZ hb hc hjE hL hV hVf hq hAtk hl1
          go_wp2_with fail
          refine (hpd.out _).mono ?_
          rintro e w' ⟨rfl, h⟩
          replace h := h.symm
          subst h
          go_wp2
          go_roundw
          case rel => exact ⟨k + 1, i + 1, i + 1, 0, by omega, by go_num, by go_num, by go_num, ⟨HP'.out.1, HP'.out.2.1, HP'.out.2.2.1, fun _ => rfl⟩, HG.out, HZ.out, HB.out⟩
          case measure => simp [intOf]; omega
        · have hil' : ¬ (i : Int) < (len : Int) := by
            have h1 := HI.out.ps1 k hk4
            have h2 := HI.out.pK
            rw [show k + 1 = K by omega, h2] at h1
            omega
          have hieq : ((i : Int) == (len : Int)) = true := beq_iff_eq.2 (by omega)
          clear hP hp hi hj hj4 hle hj' hjl hG hZ hb hjE hL hV hVf hq hAtk hl1
          go_wp2_with fail
          refine (hnd.out _).mono ?_
          rintro e w' ⟨rfl, h⟩
          replace h := h.symm
          subst h
          go_wp2_with fail
          refine (hpd.out _).mono ?_
          rintro e w' ⟨rfl, h⟩
          replace h := h.symm
          subst h
          go_wp2
          go_roundw
          case rel => exact ⟨k + 1, i + 1, i + 1, 0, by omega, by go_num, by go_num, by go_num, ⟨HP'.out.1, HP'.out.2.1, HP'.out.2.2.1, fun _ => rfl⟩, HG.out, HZ.out, HB.out⟩
          case measure => simp [intOf]; omega
    · obtain rfl : k = K := by omega
      have hj0 := hj4 rfl
      have hil : ¬ (i : Int) ≤ (len : Int) := by have := HI.out.pK; omega
      have hG8 : BN 49 8 .u16 f (w.heap.size + 1) 8 wr := hG.all (fun i h1 _ => by rw [HF.out]; show (if i < k then _ else (0 : Int)) = 0; rw [if_neg (by omega)])
      have HZ := Lib.hid hZ
      have HB := Lib.hid hb
      have g0 := hG8.cell 0 (by omega)
      have g1 := hG8.cell 1 (by omega)
      have g2 := hG8.cell 2 (by omega)
      have g3 := hG8.cell 3 (by omega)
      have g4 := hG8.cell 4 (by omega)
      have g5 := hG8.cell 5 (by omega)
      have g6 := hG8.cell 6 (by omega)
      have g7 := hG8.cell 7 (by omega)
      have z0 := hZ.zero 0 (by omega) (by omega)
      have z1 := hZ.zero 1 (by omega) (by omega)
      have z2 := hZ.zero 2 (by omega) (by omega)
      have z3 := hZ.zero 3 (by omega) (by omega)
      have z4 := hZ.zero 4 (by omega) (by omega)
      have z5 := hZ.zero 5 (by omega) (by omega)
      have z6 := hZ.zero 6 (by omega) (by omega)
      have z7 := hZ.zero 7 (by omega) (by omega)
      have f0 := hZ.free 0
      have f1 := hZ.free 1
      have f2 := hZ.free 2
      have f3 := hZ.free 3
      have f4 := hZ.free 4
      have f5 := hZ.free 5
      have f6 := hZ.free 6
      have f7 := hZ.free 7
      clear hG hZ hb hP hp hi hj hj4 hj0 hG8
      go_wp2
      have hz8 := (((((((HZ.out.put (by omega)).put (by omega)).put (by omega)).put (by omega)).put (by omega)).put (by omega)).put (by omega)).put (by omega)
      have hb8 := ((((((((HB.out.setCell (p := ⟨w.heap.size, 0, none⟩) (Nat.le_refl _) (.int .u16 (f 0))).setCell (p := ⟨w.heap.size, 1, none⟩) (Nat.le_refl _) (.int .u16 (f 1))).setCell (p := ⟨w.heap.size, 2, none⟩) (Nat.le_refl _) (.int .u16 (f 2))).setCell (p := ⟨w.heap.size, 3, none⟩) (Nat.le_refl _) (.int .u16 (f 3))).setCell (p := ⟨w.heap.size, 4, none⟩) (Nat.le_refl _) (.int .u16 (f 4))).setCell (p := ⟨w.heap.size, 5, none⟩) (Nat.le_refl _) (.int .u16 (f 5))).setCell (p := ⟨w.heap.size, 6, none⟩) (Nat.le_refl _) (.int .u16 (f 6))).setCell (p := ⟨w.heap.size, 7, none⟩) (Nat.le_refl _) (.int .u16 (f 7)))
      simp only [Nat.zero_add, Nat.reduceAdd] at hz8
      generalize ((((((((wr.setCell ⟨w.heap.size, 0, none⟩ (.int .u16 (f 0))).setCell ⟨w.heap.size, 1, none⟩ (.int .u16 (f 1))).setCell ⟨w.heap.size, 2, none⟩ (.int .u16 (f 2))).setCell ⟨w.heap.size, 3, none⟩ (.int .u16 (f 3))).setCell ⟨w.heap.size, 4, none⟩ (.int .u16 (f 4))).setCell ⟨w.heap.size, 5, none⟩ (.int .u16 (f 5))).setCell ⟨w.heap.size, 6, none⟩ (.int .u16 (f 6))).setCell ⟨w.heap.size, 7, none⟩ (.int .u16 (f 7))) = W9 at hz8 hb8 ⊢
      have c0 := hz8.cell 0 (by omega)
      have c1 := hz8.cell 1 (by omega)
      have c2 := hz8.cell 2 (by omega)
      have c3 := hz8.cell 3 (by omega)
      have c4 := hz8.cell 4 (by omega)
      have c5 := hz8.cell 5 (by omega)
      have c6 := hz8.cell 6 (by omega)
      have c7 := hz8.cell 7 (by omega)
      exact bodyPost_ret (v := .tuple #[aggW f, .int .i64 (k : Int), .bool true]) (by simp [results, Tryd.results24, go_sem, aggW, c0, c1, c2, c3, c4, c5, c6, c7]) rfl ⟨rfl, hb8⟩

set_option maxHeartbeats 3200000 in
set_option maxRecDepth 100000 in
theorem pwords_false (w : World) (b o cap len K : Nat) (hK1 : 1 ≤ K) (hK8 : K ≤ 8) (q : Nat → Nat) (ps : Nat → Nat) (hq : ∀ k, q k < 65536) (hI : Items w b o 58 K (fun k => hex16 (q k)) ps len) (hbl : b < w.heap.size) (hlen : len ≤ 1000) (hcap : len ≤ cap) :
    Calls Tryd.prog 24 #[.slice (some ⟨b, o, none⟩) len cap, .bool false] w fun e w' => e = .returned (.tuple #[aggW (fun k => if k < K then ((q k : Nat) : Int) else 0), .int .i64 (K : Int), .bool true]) ∧ Below w.heap.size w w' := by
  have HI := Lib.hid hI
  have HQ := Lib.hid hq
  obtain ⟨f, hf⟩ : ∃ f : Nat → Int, f = fun k => if k < K then ((q k : Nat) : Int) else 0 := ⟨_, rfl⟩
  have HF := Lib.hid hf
  rw [← hf]
  have hl0 := hI.le K 0 (by omega) (by omega)
  have hx1 := (hex16_len (q 0)).1
  rw [hI.p0] at hl0
  have hlen0 : ((len : Int) == 0) = false := beq_eq_false_iff_ne.2 (by have := hl0.1; omega)
  have HKs := Lib.hid hK1
  clear hI hq hf hl0 hx1
  go_enter Tryd.func24, Tryd.ntmps24
  go_wp2
  go_loopw [8, 9, 10, 11, 14, 15] (fun s5 s6 s7 _ _ _ wr => ∃ k p i j : Nat, k ≤ K ∧ s5 = .int .i64 (k : Int) ∧ s6 = .int .i64 (p : Int) ∧ s7 = .int .i64 (i : Int) ∧ Hid (p = ps k ∧ i = ps k + j ∧ (k < K → j ≤ (hex16 (q k)).length) ∧ (k = K → j = 0)) ∧ BN 49 8 .u16 f (w.heap.size + 1) k wr ∧ BN 49 8 .u16 f w.heap.size 0 wr ∧ Below w.heap.size w wr) (fun _ _ s7 _ _ _ _ => len + 1 - (intOf s7).toNat)
  case atStart =>
    refine ⟨0, 0, 0, 0, by omega, rfl, rfl, rfl, ⟨HI.out.p0.symm, by rw [HI.out.p0], fun _ => Nat.zero_le _, fun h => absurd h (by omega)⟩, ?_, ?_, ((Below.refl _ _).alloc (Nat.le_refl _) _).alloc (by simp) _⟩
    · have h := BN.fresh (ty := 49) (n := 8) (q := .u16) (f := f) (w.alloc (.cells #[.int .u16 0, .int .u16 0, .int .u16 0, .int .u16 0, .int .u16 0, .int .u16 0, .int .u16 0, .int .u16 0] 49)) #[.int .u16 0, .int .u16 0, .int .u16 0, .int .u16 0, .int .u16 0, .int .u16 0, .int .u16 0, .int .u16 0] rfl eight
      simpa using h
    · exact (BN.fresh (n := 8) (q := .u16) w #[.int .u16 0, .int .u16 0, .int .u16 0, .int .u16 0, .int .u16 0, .int .u16 0, .int .u16 0, .int .u16 0] rfl eight).alloc _
  case round =>
    obtain ⟨k, p, i, j, hk, rfl, rfl, rfl, hP, hG, hZ, hb⟩ := hrel
    obtain ⟨hp, hi, hj, hj4⟩ := hP.out
    by_cases hk4 : k < K
    · have hle := HI.out.le (K - k) k (by omega) hk4
      have hj' := hj hk4
      by_cases hjl : j < (hex16 (q k)).length
      · have hc := (HI.out.at_ k hk4).on hb hbl j hjl
        have hne := HI.out.no k hk4 _ (List.getElem_mem hjl)
        rw [Nat.add_assoc, ← hi] at hc
        obtain ⟨C, hC⟩ : ∃ C : Int, C = ((hex16 (q k))[j].toNat : Int) := ⟨_, rfl⟩
        have hC46 : C ≠ 58 := by
          intro e
          apply hne
          apply UInt8.toNat_inj.1
          show (hex16 (q k))[j].toNat = 58
          omega
        rw [← hC] at hc
        have hil : (i : Int) < (len : Int) := by have := hle.1; omega
        have HP' := Lib.hid (show p = ps k ∧ i + 1 = ps k + (j + 1) ∧ (k < K → j + 1 ≤ (hex16 (q k)).length) ∧ (k = K → j + 1 = 0) from ⟨hp, by omega, fun _ => by omega, fun h => by omega⟩)
        have HG := Lib.hid hG
        have HZ := Lib.hid hZ
        have HB := Lib.hid hb
        have hC46' : (C == 58) = false := beq_eq_false_iff_ne.2 hC46
        clear hP hp hi hj hj4 hle hj' hjl hne hC hG hZ hb
        go_wp2
        go_roundw
        case rel => exact ⟨k, p, i + 1, j + 1, hk, rfl, rfl, by go_num, HP'.out, HG.out, HZ.out, HB.out⟩
        case measure => simp [intOf]; omega
      · have hjE : j = (hex16 (q k)).length := by omega
        have hq := HQ.out k
        have hAtk := (HI.out.at_ k hk4).on hb hbl
        rw [← hp] at hAtk
        have hpd := Lib.hid (fun c => phex_any wr b (o + p) c (q k) hq hAtk)
        have hnd := Lib.hid (fun c => nodot_any wr b (o + p) c (hex16 (q k)) (by have := (hex16_len (q k)).2; omega) hAtk (hex_nodot (q k) hq))
        have hl1 := (hex16_len (q k)).1
        obtain ⟨L, hL⟩ : ∃ L, L = (hex16 (q k)).length := ⟨_, rfl⟩
        rw [← hL] at hpd hnd hl1 hjE hle
        have hip : i - p = L := by omega
        have hpi : (p : Int) ≤ (i : Int) := by omega
        have hil : (i : Int) ≤ (len : Int) := by have := hle.1; omega
        have hicap : (i : Int) ≤ (cap : Int) := by omega
        have hpc : ¬ cap = p := by omega
        obtain ⟨V, hV⟩ : ∃ V : Int, V = ((q k : Nat) : Int) := ⟨_, rfl⟩
        rw [← hV] at hpd
        have hVf : V = f k := by rw [hV, HF.out]; show _ = if k < K then _ else _; rw [if_pos hk4]
        have hV0 : 0 ≤ V := by omega
        have hV1 : V ≤ 65535 := by omega
        have c := hG.zero k (Nat.le_refl _) (by omega)
        have hfz := hG.free k
        have HP' := Lib.hid (show i + 1 = ps (k + 1) ∧ i + 1 = ps (k + 1) + 0 ∧ (k + 1 < K → 0 ≤ (hex16 (q (k + 1))).length) ∧ (k + 1 = K → 0 = 0) from by
          have := HI.out.ps1 k hk4
          refine ⟨by omega, by omega, fun _ => Nat.zero_le _, fun _ => rfl⟩)
        have HG := Lib.hid (hG.put (by omega))
        have HZ := Lib.hid (hZ.far (show w.heap.size ≠ w.heap.size + 1 by omega) k (.int .u16 (f k)))
        have HB := Lib.hid (hb.setCell (p := ⟨w.heap.size + 1, k, none⟩) (by show w.heap.size ≤ w.heap.size + 1; omega) (.int .u16 (f k)))
        rw [← hVf] at HG HZ HB
        have hk4i : (k : Int) ≤ 7 := by omega
        by_cases hlast : k + 1 < K
        · have hc := HI.out.sep_ k hlast
          rw [← hL, ← hb.cell (p := ⟨b, o + (ps k + L), none⟩) hbl, ← hjE, ← hi] at hc
          have hc' : wr.cell? ⟨b, o + i, none⟩ = some (.int .u8 58) := hc
          have hil' : (i : Int) < (len : Int) := by have := hle.2 hlast; omega
          have hieq : ((i : Int) == (len : Int)) = false := beq_eq_false_iff_ne.2 (by omega)
          clear hP hp hi hj hj4 hle hj' hjl hG hZ hb hc hjE hL hV hVf hq hAtk hl1
          go_wp2_with fail
          refine (hpd.out _).mono ?_
          rintro e w' ⟨rfl, h⟩
          replace h := h.symm
          subst h
          go_wp2
          go_roundw
          case rel => exact ⟨k + 1, i + 1, i + 1, 0, by omega, by go_num, by go_num, by go_num, ⟨HP'.out.1, HP'.out.2.1, HP'.out.2.2.1, fun _ => rfl⟩, HG.out, HZ.out, HB.out⟩
          case measure => simp [intOf]; omega
        · have hil' : ¬ (i : Int) < (len : Int) := by
            have h1 := HI.out.ps1 k hk4
            have h2 := HI.out.pK
            rw [show k + 1 = K by omega, h2] at h1
            omega
          have hieq : ((i : Int) == (len : Int)) = true := beq_iff_eq.2 (by omega)
          clear hP hp hi hj hj4 hle hj' hjl hG hZ hb hjE hL hV hVf hq hAtk hl1
          go_wp2_with fail
          refine (hpd.out _).mono ?_
          rintro e w' ⟨rfl, h⟩
          replace h := h.symm
          subst h
          go_wp2
          go_roundw
          case rel => exact ⟨k + 1, i + 1, i + 1, 0, by omega, by go_num, by go_num, by go_num, ⟨HP'.out.1, HP'.out.2.1, HP'.out.2.2.1, fun _ => rfl⟩, HG.out, HZ.out, HB.out⟩
          case measure => simp [intOf]; omega
    · obtain rfl : k = K := by omega
      have hj0 := hj4 rfl
      have hil : ¬ (i : Int) ≤ (len : Int) := by have := HI.out.pK; omega
      have hG8 : BN 49 8 .u16 f (w.heap.size + 1) 8 wr := hG.all (fun i h1 _ => by rw [HF.out]; show (if i < k then _ else (0 : Int)) = 0; rw [if_neg (by omega)])
      have HZ := Lib.hid hZ
      have HB := Lib.hid hb
      have g0 := hG8.cell 0 (by omega)
      have g1 := hG8.cell 1 (by omega)
      have g2 := hG8.cell 2 (by omega)
      have g3 := hG8.cell 3 (by omega)
      have g4 := hG8.cell 4 (by omega)
      have g5 := hG8.cell 5 (by omega)
      have g6 := hG8.cell 6 (by omega)
      have g7 := hG8.cell 7 (by omega)
      have z0 := hZ.zero 0 (by omega) (by omega)
      have z1 := hZ.zero 1 (by omega) (by omega)
      have z2 := hZ.zero 2 (by omega) (by omega)
      have z3 := hZ.zero 3 (by omega) (by omega)
      have z4 := hZ.zero 4 (by omega) (by omega)
      have z5 := hZ.zero 5 (by omega) (by omega)
      have z6 := hZ.zero 6 (by omega) (by omega)
      have z7 := hZ.zero 7 (by omega) (by omega)
      have f0 := hZ.free 0
      have f1 := hZ.free 1
      have f2 := hZ.free 2
      have f3 := hZ.free 3
      have f4 := hZ.free 4
      have f5 := hZ.free 5
      have f6 := hZ.free 6
      have f7 := hZ.free 7
      clear hG hZ hb hP hp hi hj hj4 hj0 hG8
      go_wp2
      have hz8 := (((((((HZ.out.put (by omega)).put (by omega)).put (by omega)).put (by omega)).put (by omega)).put (by omega)).put (by omega)).put (by omega)
      have hb8 := ((((((((HB.out.setCell (p := ⟨w.heap.size, 0, none⟩) (Nat.le_refl _) (.int .u16 (f 0))).setCell (p := ⟨w.heap.size, 1, none⟩) (Nat.le_refl _) (.int .u16 (f 1))).setCell (p := ⟨w.heap.size, 2, none⟩) (Nat.le_refl _) (.int .u16 (f 2))).setCell (p := ⟨w.heap.size, 3, none⟩) (Nat.le_refl _) (.int .u16 (f 3))).setCell (p := ⟨w.heap.size, 4, none⟩) (Nat.le_refl _) (.int .u16 (f 4))).setCell (p := ⟨w.heap.size, 5, none⟩) (Nat.le_refl _) (.int .u16 (f 5))).setCell (p := ⟨w.heap.size, 6, none⟩) (Nat.le_refl _) (.int .u16 (f 6))).setCell (p := ⟨w.heap.size, 7, none⟩) (Nat.le_refl _) (.int .u16 (f 7)))
      simp only [Nat.zero_add, Nat.reduceAdd] at hz8
      generalize ((((((((wr.setCell ⟨w.heap.size, 0, none⟩ (.int .u16 (f 0))).setCell ⟨w.heap.size, 1, none⟩ (.int .u16 (f 1))).setCell ⟨w.heap.size, 2, none⟩ (.int .u16 (f 2))).setCell ⟨w.heap.size, 3, none⟩ (.int .u16 (f 3))).setCell ⟨w.heap.size, 4, none⟩ (.int .u16 (f 4))).setCell ⟨w.heap.size, 5, none⟩ (.int .u16 (f 5))).setCell ⟨w.heap.size, 6, none⟩ (.int .u16 (f 6))).setCell ⟨w.heap.size, 7, none⟩ (.int .u16 (f 7))) = W9 at hz8 hb8 ⊢
      have c0 := hz8.cell 0 (by omega)
      have c1 := hz8.cell 1 (by omega)
      have c2 := hz8.cell 2 (by omega)
      have c3 := hz8.cell 3 (by omega)
      have c4 := hz8.cell 4 (by omega)
      have c5 := hz8.cell 5 (by omega)
      have c6 := hz8.cell 6 (by omega)
      have c7 := hz8.cell 7 (by omega)
      exact bodyPost_ret (v := .tuple #[aggW f, .int .i64 (k : Int), .bool true]) (by simp [results, Tryd.results24, go_sem, aggW, c0, c1, c2, c3, c4, c5, c6, c7]) rfl ⟨rfl, hb8⟩
end Go.Proofs.Qxb6604517aDoor
