import Derived.Test.Qxb6604517aDoorRead4
namespace Go.Proofs.Qxb6604517aDoor
open Go.RowKit

/-- A text of K items with a separator between. -/
structure Items (w : World) (b o : Nat) (sep : UInt8) (K : Nat) (I : Nat → List UInt8) (ps : Nat → Nat) (len : Nat) : Prop where
  p0 : ps 0 = 0
  ps1 : ∀ k, k < K → ps (k + 1) = ps k + (I k).length + 1
  pK : ps K = len + 1
  at_ : ∀ k, k < K → At w b (o + ps k) (I k)
  no : ∀ k, k < K → ∀ c ∈ I k, c ≠ sep
  sep_ : ∀ k, k + 1 < K → w.cell? ⟨b, o + (ps k + (I k).length), none⟩ = some (.int .u8 (sep.toNat : Int))

theorem At.on {w w' : World} {B b o : Nat} {l : List UInt8} (h : At w b o l) (hb : Below B w w') (hlt : b < B) : At w' b o l := fun j hj => by
  rw [hb.cell (p := ⟨b, o + j, none⟩) hlt]; exact h j hj
theorem Items.on {w w' : World} {B b o : Nat} {sep : UInt8} {K : Nat} {I : Nat → List UInt8} {ps : Nat → Nat} {len : Nat} (h : Items w b o sep K I ps len) (hb : Below B w w') (hlt : b < B) : Items w' b o sep K I ps len :=
  ⟨h.p0, h.ps1, h.pK, fun k hk => (h.at_ k hk).on hb hlt, h.no, fun k hk => by rw [hb.cell (p := ⟨b, o + (ps k + (I k).length), none⟩) hlt]; exact h.sep_ k hk⟩
theorem Items.le {w : World} {b o : Nat} {sep : UInt8} {K : Nat} {I : Nat → List UInt8} {ps : Nat → Nat} {len : Nat} (h : Items w b o sep K I ps len) : ∀ d k, k + d = K → k < K → ps k + (I k).length ≤ len ∧ (k + 1 < K → ps k + (I k).length < len)
  | 0, k, e, hk => by omega
  | d + 1, k, e, hk => by
    have h1 := h.ps1 k hk
    by_cases hl : k + 1 = K
    · have := h.pK
      rw [← hl] at this
      constructor <;> omega
    · have h2 := h.le d (k + 1) (by omega) (by omega)
      constructor <;> omega

/-- Block G is an array of n cells of type ty, kind q, whose first k are f. -/
def BN (ty : TypeId) (n : Nat) (q : IntKind) (f : Nat → Int) (G k : Nat) (w : World) : Prop :=
  ∃ cur : Array Value, w.heap[G]? = some (.cells cur ty (0, 0)) ∧ cur.size = n ∧ (∀ i, i < k → cur[i]? = some (.int q (f i))) ∧ ∀ i, k ≤ i → i < n → cur[i]? = some (.int q 0)
section
variable {ty : TypeId} {n : Nat} {q : IntKind} {f : Nat → Int} {G k : Nat} {w : World}
theorem BN.cell (h : BN ty n q f G k w) (i : Nat) (hi : i < k) : w.cell? ⟨G, i, none⟩ = some (.int q (f i)) := by
  obtain ⟨cur, h, hs, hc, _⟩ := h
  simp [World.cell?, h, hc i hi]
theorem BN.zero (h : BN ty n q f G k w) (i : Nat) (hi : k ≤ i) (h8 : i < n) : w.cell? ⟨G, i, none⟩ = some (.int q 0) := by
  obtain ⟨cur, h, hs, _, hc⟩ := h
  simp [World.cell?, h, hc i hi h8]
theorem BN.free (h : BN ty n q f G k w) (i : Nat) : w.frozen? ⟨G, i, none⟩ = false := by
  obtain ⟨cur, h, hs, hc, _⟩ := h
  simp [World.frozen?, h]
theorem BN.put (h : BN ty n q f G k w) (hk : k < n) : BN ty n q f G (k + 1) (w.setCell ⟨G, k, none⟩ (.int q (f k))) := by
  obtain ⟨cur, h, hs, hc, hz⟩ := h
  refine ⟨_, heap_setCell_at h k _, by simpa using hs, fun i hi => ?_, fun i hi h8 => ?_⟩
  · by_cases e : i = k
    · subst e
      rw [Array.getElem?_setIfInBounds_self_of_lt (by omega)]
    · rw [Array.getElem?_setIfInBounds_ne (by omega)]
      exact hc i (by omega)
  · rw [Array.getElem?_setIfInBounds_ne (by omega)]
    exact hz i (by omega) h8
theorem BN.far (h : BN ty n q f G k w) {G' : Nat} (hne : G ≠ G') (o : Nat) (v : Value) : BN ty n q f G k (w.setCell ⟨G', o, none⟩ v) := by
  obtain ⟨cur, h, r⟩ := h
  refine ⟨cur, ?_, r⟩
  show (w.heap.modify G' _)[G]? = _
  rw [Array.getElem?_modify, if_neg (by omega)]
  exact h
theorem BN.fresh (w : World) (cur : Array Value) (hs : cur.size = n) (hz : ∀ i, i < n → cur[i]? = some (.int q 0)) : BN ty n q f w.heap.size 0 (w.alloc (.cells cur ty)) :=
  ⟨cur, heap_alloc_new w _, hs, fun i hi => absurd hi (by omega), fun i _ hi => hz i hi⟩
theorem BN.alloc (h : BN ty n q f G k w) (o : Obj) : BN ty n q f G k (w.alloc o) := by
  obtain ⟨cur, h, r⟩ := h
  exact ⟨cur, by rw [Below.heap_alloc w o G (lt_of_block h)]; exact h, r⟩
end
theorem four (i : Nat) (h : i < 4) : (#[Value.int .u8 0, .int .u8 0, .int .u8 0, .int .u8 0] : Array Value)[i]? = some (.int .u8 0) := by
  have : i = 0 ∨ i = 1 ∨ i = 2 ∨ i = 3 := by omega
  rcases this with rfl | rfl | rfl | rfl <;> rfl

set_option maxHeartbeats 3200000 in
set_option maxRecDepth 100000 in
theorem pdot_any (w : World) (b o cap len : Nat) (q : Nat → Nat) (ps : Nat → Nat) (hq : ∀ k, q k < 256) (hI : Items w b o 46 4 (fun k => Lib.decDigits (q k)) ps len) (hbl : b < w.heap.size) (hlen : len ≤ 1000) (hcap : len ≤ cap) :
    Calls Tryd.prog 12 #[.slice (some ⟨b, o, none⟩) len cap] w fun e w' => e = .returned (.tuple #[.agg #[.int .u8 (q 0), .int .u8 (q 1), .int .u8 (q 2), .int .u8 (q 3)], .bool true]) ∧ Below w.heap.size w w' := by
  have HI := Lib.hid hI
  have HQ := Lib.hid hq
  obtain ⟨f, hf⟩ : ∃ f : Nat → Int, f = fun k => ((q k : Nat) : Int) := ⟨_, rfl⟩
  have HF := Lib.hid hf
  have e0 : ((q 0 : Nat) : Int) = f 0 := by rw [hf]
  have e1 : ((q 1 : Nat) : Int) = f 1 := by rw [hf]
  have e2 : ((q 2 : Nat) : Int) = f 2 := by rw [hf]
  have e3 : ((q 3 : Nat) : Int) = f 3 := by rw [hf]
  rw [e0, e1, e2, e3]
  clear hI hq hf e0 e1 e2 e3
  go_enter Tryd.func12, Tryd.ntmps12
  go_wp2
  go_loopw [5, 6, 7, 8, 9] (fun s5 s6 s7 _ _ wr => ∃ k p i j : Nat, k ≤ 4 ∧ s5 = .int .i64 (k : Int) ∧ s6 = .int .i64 (p : Int) ∧ s7 = .int .i64 (i : Int) ∧ Hid (p = ps k ∧ i = ps k + j ∧ (k < 4 → j ≤ (Lib.decDigits (q k)).length) ∧ (k = 4 → j = 0)) ∧ BN 29 4 .u8 f (w.heap.size + 1) k wr ∧ BN 29 4 .u8 f w.heap.size 0 wr ∧ Below w.heap.size w wr) (fun _ _ s7 _ _ _ => len + 1 - (intOf s7).toNat)
  case atStart =>
    refine ⟨0, 0, 0, 0, by omega, rfl, rfl, rfl, ⟨HI.out.p0.symm, by rw [HI.out.p0], fun _ => Nat.zero_le _, fun h => absurd h (by omega)⟩, ?_, ?_, ((Below.refl _ _).alloc (Nat.le_refl _) _).alloc (by simp) _⟩
    · have h := BN.fresh (ty := 29) (n := 4) (q := .u8) (f := f) (w.alloc (.cells #[.int .u8 0, .int .u8 0, .int .u8 0, .int .u8 0] 29)) #[.int .u8 0, .int .u8 0, .int .u8 0, .int .u8 0] rfl four
      simpa using h
    · exact (BN.fresh (n := 4) (q := .u8) w #[.int .u8 0, .int .u8 0, .int .u8 0, .int .u8 0] rfl four).alloc _
  case round =>
    obtain ⟨k, p, i, j, hk, rfl, rfl, rfl, hP, hG, hZ, hb⟩ := hrel
    obtain ⟨hp, hi, hj, hj4⟩ := hP.out
    by_cases hk4 : k < 4
    · have hle := HI.out.le (4 - k) k (by omega) hk4
      have hj' := hj hk4
      by_cases hjl : j < (Lib.decDigits (q k)).length
      · have hc := (HI.out.at_ k hk4).on hb hbl j hjl
        have hne := HI.out.no k hk4 _ (List.getElem_mem hjl)
        rw [Nat.add_assoc, ← hi] at hc
        obtain ⟨C, hC⟩ : ∃ C : Int, C = ((Lib.decDigits (q k))[j].toNat : Int) := ⟨_, rfl⟩
        have hC46 : C ≠ 46 := by
          intro e
          apply hne
          apply UInt8.toNat_inj.1
          show (Lib.decDigits (q k))[j].toNat = 46
          omega
        rw [← hC] at hc
        have hil : (i : Int) < (len : Int) := by have := hle.1; omega
        have HP' := Lib.hid (show p = ps k ∧ i + 1 = ps k + (j + 1) ∧ (k < 4 → j + 1 ≤ (Lib.decDigits (q k)).length) ∧ (k = 4 → j + 1 = 0) from ⟨hp, by omega, fun _ => by omega, fun h => by omega⟩)
        have HG := Lib.hid hG
        have HZ := Lib.hid hZ
        have HB := Lib.hid hb
        have hC46' : (C == 46) = false := beq_eq_false_iff_ne.2 hC46
        clear hP hp hi hj hj4 hle hj' hjl hne hC hG hZ hb
        go_wp2
        go_roundw
        case rel => exact ⟨k, p, i + 1, j + 1, hk, rfl, rfl, by go_num, HP'.out, HG.out, HZ.out, HB.out⟩
        case measure => simp [intOf]; omega
      · have hjE : j = (Lib.decDigits (q k)).length := by omega
        have hq := HQ.out k
        have hAtk := (HI.out.at_ k hk4).on hb hbl
        rw [← hp] at hAtk
        have hpd := Lib.hid (fun c => pdec_any wr b (o + p) c (q k) (by omega) hAtk)
        have hl1 := (decDigits_len20 (q k) (by omega)).1
        obtain ⟨L, hL⟩ : ∃ L, L = (Lib.decDigits (q k)).length := ⟨_, rfl⟩
        rw [← hL] at hpd hl1 hjE hle
        have hip : i - p = L := by omega
        have hpi : (p : Int) ≤ (i : Int) := by omega
        have hil : (i : Int) ≤ (len : Int) := by have := hle.1; omega
        have hicap : (i : Int) ≤ (cap : Int) := by omega
        have hpc : ¬ cap = p := by omega
        obtain ⟨V, hV⟩ : ∃ V : Int, V = ((q k : Nat) : Int) := ⟨_, rfl⟩
        rw [← hV] at hpd
        have hVf : V = f k := by rw [hV, HF.out]
        have hV0 : 0 ≤ V := by omega
        have hV1 : V ≤ 255 := by omega
        have c := hG.zero k (Nat.le_refl _) hk4
        have hfz := hG.free k
        have HP' := Lib.hid (show i + 1 = ps (k + 1) ∧ i + 1 = ps (k + 1) + 0 ∧ (k + 1 < 4 → 0 ≤ (Lib.decDigits (q (k + 1))).length) ∧ (k + 1 = 4 → 0 = 0) from by
          have := HI.out.ps1 k hk4
          refine ⟨by omega, by omega, fun _ => Nat.zero_le _, fun _ => rfl⟩)
        have HG := Lib.hid (hG.put hk4)
        have HZ := Lib.hid (hZ.far (show w.heap.size ≠ w.heap.size + 1 by omega) k (.int .u8 (f k)))
        have HB := Lib.hid (hb.setCell (p := ⟨w.heap.size + 1, k, none⟩) (by show w.heap.size ≤ w.heap.size + 1; omega) (.int .u8 (f k)))
        rw [← hVf] at HG HZ HB
        have hk4i : (k : Int) < 4 := by omega
        by_cases hlast : k + 1 < 4
        · have hc := HI.out.sep_ k hlast
          rw [← hL, ← hb.cell (p := ⟨b, o + (ps k + L), none⟩) hbl, ← hjE, ← hi] at hc
          have hc' : wr.cell? ⟨b, o + i, none⟩ = some (.int .u8 46) := hc
          have hil' : (i : Int) < (len : Int) := by have := hle.2 hlast; omega
          clear hP hp hi hj hj4 hle hj' hjl hG hZ hb hc hjE hL hV hVf hq hAtk hl1
          go_wp2_with fail
          refine (hpd.out _).mono ?_
          rintro e w' ⟨rfl, h⟩
          replace h := h.symm
          subst h
          go_wp2
          go_roundw
          case rel => exact ⟨k + 1, i + 1, i + 1, 0, by omega, by go_num, by go_num, by go_num, ⟨HP'.out.1, HP'.out.2.1, HP'.out.2.2.1, fun _ => rfl⟩, HG.out, HZ.out, HB.out⟩
          case measure => simp [intOf]; omega
        · have hil' : ¬ (i : Int) < (len : Int) := by
            have h1 := HI.out.ps1 k hk4
            have h2 := HI.out.pK
            rw [show k + 1 = 4 by omega, h2] at h1
            omega
          clear hP hp hi hj hj4 hle hj' hjl hG hZ hb hjE hL hV hVf hq hAtk hl1
          go_wp2_with fail
          refine (hpd.out _).mono ?_
          rintro e w' ⟨rfl, h⟩
          replace h := h.symm
          subst h
          go_wp2
          go_roundw
          case rel => exact ⟨k + 1, i + 1, i + 1, 0, by omega, by go_num, by go_num, by go_num, ⟨HP'.out.1, HP'.out.2.1, HP'.out.2.2.1, fun _ => rfl⟩, HG.out, HZ.out, HB.out⟩
          case measure => simp [intOf]; omega
    · obtain rfl : k = 4 := by omega
      have hj0 := hj4 rfl
      have hil : ¬ (i : Int) ≤ (len : Int) := by have := HI.out.pK; omega
      have HZ := Lib.hid hZ
      have HB := Lib.hid hb
      have g0 := hG.cell 0 (by omega)
      have g1 := hG.cell 1 (by omega)
      have g2 := hG.cell 2 (by omega)
      have g3 := hG.cell 3 (by omega)
      have z0 := hZ.zero 0 (by omega) (by omega)
      have z1 := hZ.zero 1 (by omega) (by omega)
      have z2 := hZ.zero 2 (by omega) (by omega)
      have z3 := hZ.zero 3 (by omega) (by omega)
      have f0 := hZ.free 0
      have f1 := hZ.free 1
      have f2 := hZ.free 2
      have f3 := hZ.free 3
      clear hG hZ hb hP hp hi hj hj4 hj0
      go_wp2
      have hz8 := (((HZ.out.put (by omega)).put (by omega)).put (by omega)).put (by omega)
      have hb8 := (((HB.out.setCell (p := ⟨w.heap.size, 0, none⟩) (Nat.le_refl _) (.int .u8 (f 0))).setCell (p := ⟨w.heap.size, 1, none⟩) (Nat.le_refl _) (.int .u8 (f 1))).setCell (p := ⟨w.heap.size, 2, none⟩) (Nat.le_refl _) (.int .u8 (f 2))).setCell (p := ⟨w.heap.size, 3, none⟩) (Nat.le_refl _) (.int .u8 (f 3))
      simp only [Nat.zero_add, Nat.reduceAdd] at hz8
      generalize ((((wr.setCell ⟨w.heap.size, 0, none⟩ (.int .u8 (f 0))).setCell ⟨w.heap.size, 1, none⟩ (.int .u8 (f 1))).setCell ⟨w.heap.size, 2, none⟩ (.int .u8 (f 2))).setCell ⟨w.heap.size, 3, none⟩ (.int .u8 (f 3))) = W9 at hz8 hb8 ⊢
      have c0 := hz8.cell 0 (by omega)
      have c1 := hz8.cell 1 (by omega)
      have c2 := hz8.cell 2 (by omega)
      have c3 := hz8.cell 3 (by omega)
      exact bodyPost_ret (v := .tuple #[.agg #[.int .u8 (f 0), .int .u8 (f 1), .int .u8 (f 2), .int .u8 (f 3)], .bool true]) (by simp [results, Tryd.results12, go_sem, c0, c1, c2, c3]) rfl ⟨rfl, hb8⟩
end Go.Proofs.Qxb6604517aDoor
