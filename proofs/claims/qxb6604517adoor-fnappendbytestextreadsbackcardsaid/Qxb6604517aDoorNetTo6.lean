import Derived.Test.Qxb6604517aDoorNetV6
import Derived.Test.Qxb6604517aDoorRuns
namespace Go.Proofs.Qxb6604517aDoor
open Go.RowKit

theorem nst_bd (f : Nat → Bool) : ∀ k, k ≤ 8 → (nst f k).1 ≤ (nst f k).2 ∧ (nst f k).2 ≤ 255
  | 0, _ => by simp [nst]
  | k + 1, hk => by
    have ih := nst_bd f k (by omega)
    unfold nst nstep
    split
    · rename_i h
      have hz : zend f (8 - k) k ≤ 8 := by
        have : ∀ n i, zend f n i ≤ i + n := by
          intro n
          induction n with
          | zero => intro i; simp [zend]
          | succ n ih => intro i; unfold zend; split; have := ih (i + 1); omega; omega
        have := this (8 - k) k
        omega
      simp only
      omega
    · exact ih

theorem zend_bd (f : Nat → Bool) : ∀ n i, i ≤ zend f n i ∧ zend f n i ≤ i + n
  | 0, i => by simp [zend]
  | n + 1, i => by
    unfold zend
    split
    · have := zend_bd f n (i + 1); omega
    · omega

theorem nst_shape (f : Nat → Bool) : ∀ k, k ≤ 8 → nst f k = (255, 255) ∨ ((nst f k).1 < 8 ∧ (nst f k).1 + 2 ≤ (nst f k).2 ∧ (nst f k).2 ≤ 8)
  | 0, _ => Or.inl rfl
  | k + 1, hk => by
    have ih := nst_shape f k (by omega)
    have hz := zend_bd f (8 - k) k
    unfold nst nstep
    split
    · rename_i h
      right
      simp only
      omega
    · exact ih

/-- How far the writing has come. -/
def Prog (g : Nat → Nat) (zs ze i : Nat) (acc : List UInt8) : Prop :=
  ((i ≤ zs ∨ 8 ≤ zs) ∧ acc = body g 0 i) ∨ (zs < 8 ∧ ze < i ∧ acc = body g 0 zs ++ [58, 58] ++ hex16 (g ze) ++ body g (ze + 1) (i - (ze + 1)))

theorem Prog.start (g : Nat → Nat) (zs ze : Nat) : Prog g zs ze 0 [] := Or.inl ⟨Or.inl (Nat.zero_le _), rfl⟩

theorem body_succ (g : Nat → Nat) (a i : Nat) (h : a ≤ i) : body g a (i + 1 - a) = body g a (i - a) ++ pre g i := by
  rw [show i + 1 - a = (i - a) + 1 by omega, body, show a + (i - a) = i by omega]

theorem Prog.plain {g : Nat → Nat} {zs ze i : Nat} {acc : List UInt8} (h : Prog g zs ze i acc) (hne : i ≠ zs) : Prog g zs ze (i + 1) (acc ++ pre g i) := by
  rcases h with ⟨h1, h2⟩ | ⟨h1, h2, h3⟩
  · refine Or.inl ⟨by omega, ?_⟩
    rw [h2]; simp [body]
  · refine Or.inr ⟨h1, by omega, ?_⟩
    rw [h3, body_succ g (ze + 1) i (by omega)]; simp

theorem Prog.at_zs {g : Nat → Nat} {zs ze : Nat} {acc : List UInt8} (h : Prog g zs ze zs acc) (hze : zs < ze) : acc = body g 0 zs := by
  rcases h with ⟨_, h2⟩ | ⟨_, h2, _⟩
  · exact h2
  · omega

theorem Prog.jump {g : Nat → Nat} {zs ze : Nat} {acc : List UInt8} (h : Prog g zs ze zs acc) (hzs : zs < 8) (hze : zs < ze) : Prog g zs ze (ze + 1) (acc ++ [58, 58] ++ hex16 (g ze)) := by
  refine Or.inr ⟨hzs, by omega, ?_⟩
  rw [h.at_zs hze]; simp [body]

theorem Prog.done {g : Nat → Nat} {zs ze : Nat} {acc : List UInt8} (h : Prog g zs ze 8 acc) : acc = text6 g zs ze := by
  unfold text6 tail6
  rcases h with ⟨h1, h2⟩ | ⟨h1, h2, h3⟩
  · rw [if_pos (by omega)]; exact h2
  · rw [if_neg (by omega), if_neg (by omega), h3, show 8 - (ze + 1) = 7 - ze by omega]; simp

theorem Prog.cut {g : Nat → Nat} {zs ze : Nat} {acc : List UInt8} (h : Prog g zs ze zs acc) (hzs : zs < 8) (hz : zs < ze) (hze : 8 ≤ ze) : acc ++ [58, 58] = text6 g zs ze := by
  unfold text6 tail6
  rw [if_neg (by omega), if_pos hze, h.at_zs hz]; simp

theorem Prog.len {g : Nat → Nat} {zs ze i : Nat} {acc : List UInt8} (h : Prog g zs ze i acc) (hi : i ≤ 8) : acc.length ≤ 100 := by
  rcases h with ⟨h1, h2⟩ | ⟨h1, h2, h3⟩
  · have := body_len g 0 i; rw [h2]; omega
  · have := body_len g 0 zs
    have := body_len g (ze + 1) (i - (ze + 1))
    have := (hex16_len (g ze)).2
    rw [h3]; simp; omega

theorem pre_ne (g : Nat → Nat) (k : Nat) : pre g k ≠ [] := by
  intro h
  have := congrArg List.length h
  have h4 := (hex16_len (g k)).1
  unfold pre at this
  simp at this
  rw [this.2] at h4
  simp at h4

theorem Prog.ne {g : Nat → Nat} {zs ze i : Nat} {acc : List UInt8} (h : Prog g zs ze i acc) (hi : 1 ≤ i) : acc ≠ [] := by
  rcases h with ⟨_, h2⟩ | ⟨_, _, h3⟩
  · obtain ⟨j, rfl⟩ : ∃ j, i = j + 1 := ⟨i - 1, by omega⟩
    rw [h2, body]
    intro e
    exact pre_ne g (0 + j) (List.append_eq_nil_iff.1 e).2
  · rw [h3]; simp

/-- Which groups are nought. -/
def zf (hi lo : Int) (t : Nat) : Bool := grp hi lo t == 0

theorem box_on {w wr : World} {x y z : Value} (hb : Below (w.alloc (.cells #[x, y, z] 64)).heap.size (w.alloc (.cells #[x, y, z] 64)) wr) : wr.cell? ⟨w.heap.size, 0, none⟩ = some x ∧ wr.cell? ⟨w.heap.size, 1, none⟩ = some y ∧ wr.cell? ⟨w.heap.size, 2, none⟩ = some z :=
  box_cells (by rw [hb.block _ (by simp)]; exact heap_alloc_new w _)

set_option maxRecDepth 100000 in
set_option maxHeartbeats 1600000 in
theorem to6_any (B : Nat) (w : World) (v : Value) (l : List UInt8) (hi lo : Int) (a4 a6 : Addr) (hz : Zs B w a4 a6) (hd : Dst B w v l) (hB : B ≤ w.heap.size) (hl : l.length ≤ 100000000) :
    Calls Tryd.prog 38 #[.agg #[.int .u64 hi, .int .u64 lo, .pointer (some a6)], v] w fun e w' => ∃ v', e = .returned v' ∧ Own B w' v' (l ++ text6 (fun t => (grp hi lo t).toNat) (nst (zf hi lo) 8).1 (nst (zf hi lo) 8).2) ∧ Step B w w' := by
  have HD := Lib.hid hd
  have HZ := Lib.hid hz
  have HB := Lib.hid hB
  clear hd hz hB
  go_enter Tryd.func38, Tryd.ntmps38
  go_wp2
  go_loopw [5, 6, 7] (fun vs ve vi wr => ∃ (k zs ze : Nat), k ≤ 8 ∧ vi = .int .u8 k ∧ vs = .int .u8 zs ∧ ve = .int .u8 ze ∧ zs ≤ ze ∧ ze ≤ 255 ∧ Hid (nst (zf hi lo) k = (zs, ze)) ∧ Hid (Below (w.alloc (.cells #[.int .u64 hi, .int .u64 lo, .pointer (some a6)] 64)).heap.size (w.alloc (.cells #[.int .u64 hi, .int .u64 lo, .pointer (some a6)] 64)) wr)) (fun _ _ vi _ => 8 - (intOf vi).toNat)
  case atStart => exact ⟨0, 255, 255, by omega, rfl, rfl, rfl, by omega, by omega, rfl, Below.refl _ _⟩
  case round =>
    obtain ⟨k, zs, ze, hk, rfl, rfl, rfl, hzz, hze, hst, hb⟩ := hrel
    by_cases hlt : k < 8
    · have hkd : decide ((k : Int) < 8) = true := decide_eq_true (by omega)
      go_wp2
      go_loopw [8] (fun vj wr => ∃ m : Nat, k ≤ m ∧ m ≤ 8 ∧ vj = .int .u8 m ∧ Hid (∀ t, k ≤ t → t < m → zf hi lo t = true) ∧ Hid (Below (w.alloc (.cells #[.int .u64 hi, .int .u64 lo, .pointer (some a6)] 64)).heap.size (w.alloc (.cells #[.int .u64 hi, .int .u64 lo, .pointer (some a6)] 64)) wr)) (fun vj _ => 8 - (intOf vj).toNat)
      case atStart => exact ⟨k, Nat.le_refl _, by omega, rfl, fun t a b => by omega, hb⟩
      case round =>
        clear hb
        rename World => wr2
        obtain ⟨m, hkm, hm8, rfl, hzero, hb⟩ := hrel
        obtain ⟨m0, m1, m2⟩ := box_on hb.out
        by_cases hm : m < 8
        · have hmi : (m : Int) < 8 := by omega
          by_cases hzm : zf hi lo m = true
          · have hg : (grp hi lo m == 0) = true := hzm
            have HZM := Lib.hid hzm
            clear hzm
            go_wp2_with (go_at_call 46; refine (v6_any hi lo (some a6) m hm _).mono ?_; rintro e w2 ⟨rfl, hb2⟩)
            go_roundw
            case rel =>
              have hz2 : Hid (∀ t, k ≤ t → t < m + 1 → zf hi lo t = true) := fun t a b => (by
                by_cases e : t = m
                · rw [e]; exact HZM.out
                · exact hzero.out t a (by omega))
              exact ⟨m + 1, by omega, by omega, by go_num, hz2, hb.out.trans (hb2.mono hb.out.size)⟩
            case measure => simp [intOf]; omega
          · have hg : (grp hi lo m == 0) = false := by simpa [zf] using hzm
            have HZM := Lib.hid (show zf hi lo m = false by simpa using hzm)
            clear hzm
            have hend : zend (zf hi lo) (8 - k) k = m := zend_spec _ _ _ _ hkm (by omega) hzero.out (by exact Or.inr HZM.out)
            have hnext : nst (zf hi lo) (k + 1) = if 2 ≤ m - k ∧ ze - zs < m - k then (k, m) else (zs, ze) := by
              show nstep (zf hi lo) k (nst (zf hi lo) k) = _
              rw [hst.out]; unfold nstep; rw [hend]
            have HN := Lib.hid hnext
            clear hend hnext hst hzero
            by_cases c1 : (2 : Int) ≤ (m : Int) - (k : Int)
            · by_cases c2 : (ze : Int) - (zs : Int) < (m : Int) - (k : Int)
              · go_wp2_with (go_at_call 46; refine (v6_any hi lo (some a6) m hm _).mono ?_; rintro e w2 ⟨rfl, hb2⟩)
                go_roundw
                case rel => exact ⟨k + 1, k, m, by omega, by go_num, rfl, rfl, by omega, by omega, by show _ = _; rw [HN.out, if_pos (by omega)], hb.out.trans (hb2.mono hb.out.size)⟩
                case measure => simp [intOf]; omega
              · go_wp2_with (go_at_call 46; refine (v6_any hi lo (some a6) m hm _).mono ?_; rintro e w2 ⟨rfl, hb2⟩)
                go_roundw
                case rel => exact ⟨k + 1, zs, ze, by omega, by go_num, rfl, rfl, by omega, by omega, by show _ = _; rw [HN.out, if_neg (by omega)], hb.out.trans (hb2.mono hb.out.size)⟩
                case measure => simp [intOf]; omega
            · go_wp2_with (go_at_call 46; refine (v6_any hi lo (some a6) m hm _).mono ?_; rintro e w2 ⟨rfl, hb2⟩)
              go_roundw
              case rel => exact ⟨k + 1, zs, ze, by omega, by go_num, rfl, rfl, by omega, by omega, by show _ = _; rw [HN.out, if_neg (by omega)], hb.out.trans (hb2.mono hb.out.size)⟩
              case measure => simp [intOf]; omega
        · have hm8' : m = 8 := by omega
          subst hm8'
          have hend : zend (zf hi lo) (8 - k) k = 8 := zend_spec _ _ _ _ hkm (by omega) hzero.out (by left; omega)
          have hnext : nst (zf hi lo) (k + 1) = if 2 ≤ 8 - k ∧ ze - zs < 8 - k then (k, 8) else (zs, ze) := by
            show nstep (zf hi lo) k (nst (zf hi lo) k) = _
            rw [hst.out]; unfold nstep; rw [hend]
          have HN := Lib.hid hnext
          clear hend hnext hst hzero
          by_cases c1 : (2 : Int) ≤ (8 : Int) - (k : Int)
          · by_cases c2 : (ze : Int) - (zs : Int) < (8 : Int) - (k : Int)
            · go_wp2
              go_roundw
              case rel => exact ⟨k + 1, k, 8, by omega, by go_num, rfl, rfl, by omega, by omega, by show _ = _; rw [HN.out, if_pos (by omega)], hb⟩
              case measure => simp [intOf]; omega
            · go_wp2
              go_roundw
              case rel => exact ⟨k + 1, zs, ze, by omega, by go_num, rfl, rfl, by omega, by omega, by show _ = _; rw [HN.out, if_neg (by omega)], hb⟩
              case measure => simp [intOf]; omega
          · go_wp2
            go_roundw
            case rel => exact ⟨k + 1, zs, ze, by omega, by go_num, rfl, rfl, by omega, by omega, by show _ = _; rw [HN.out, if_neg (by omega)], hb⟩
            case measure => simp [intOf]; omega
    · obtain rfl : k = 8 := by omega
      have hshape := nst_shape (zf hi lo) 8 (Nat.le_refl _)
      rw [hst.out] at hshape
      simp only [Prod.mk.injEq] at hshape
      have hgoal : ∀ L, L = text6 (fun t => (grp hi lo t).toNat) zs ze → l ++ text6 (fun t => (grp hi lo t).toNat) (nst (zf hi lo) 8).1 (nst (zf hi lo) 8).2 = l ++ L := fun L hL => by rw [hst.out, hL]
      have HG := Lib.hid hgoal
      have HSh := Lib.hid hshape
      have hS : Hid (Step B w wr) := (Step.alloc HB.out _).trans (Step.of hb.out (by have := HB.out; simp; omega))
      have hDst : Hid (Dst B wr v l) := HD.out.on (((Below.refl _ _).alloc (Nat.le_refl _) _).trans (hb.out.mono (by simp)))
      have hK : Hid (wr.heap[w.heap.size]? = some (.cells #[.int .u64 hi, .int .u64 lo, .pointer (some a6)] 64 (0, 0))) := by
        show _ = _
        rw [hb.out.block _ (by simp)]; exact heap_alloc_new w _
      clear hst hshape hgoal hb HD hlt
      go_wp2
      go_loopw [1, 10] (fun vv vi wr => ∃ (i : Nat) (acc : List UInt8), i ≤ 8 ∧ vi = .int .u8 i ∧ Hid (Dst B wr vv (l ++ acc)) ∧ Hid (acc = [] ∨ Own B wr vv (l ++ acc)) ∧ Hid (Step B w wr) ∧ Hid (wr.heap[w.heap.size]? = some (.cells #[.int .u64 hi, .int .u64 lo, .pointer (some a6)] 64 (0, 0))) ∧ Hid (Prog (fun t => (grp hi lo t).toNat) zs ze i acc)) (fun _ vi _ => 8 - (intOf vi).toNat)
      case atStart => exact ⟨0, [], by omega, rfl, by show Dst B wr v (l ++ []); rw [List.append_nil]; exact hDst, Or.inl rfl, hS, hK, Prog.start _ _ _⟩
      case round =>
        clear hS hDst hK
        obtain ⟨i, acc, hi8, rfl, hDst, hOw, hS, hK, hP⟩ := hrel
        have hZ : Hid (Zs B wr a4 a6) := HZ.out.on hS.out.below
        have hBr : Hid (B ≤ wr.heap.size) := Nat.le_trans HB.out hS.out.size
        have hal := hP.out.len hi8
        by_cases hlt : i < 8
        · have hid : decide ((i : Int) < 8) = true := decide_eq_true (by omega)
          by_cases hzi : i = zs
          · have hzi2 : ((i : Int) == (zs : Int)) = true := beq_iff_eq.2 (by omega)
            have hsh : zs + 2 ≤ ze ∧ ze ≤ 8 := by have := HSh.out; omega
            obtain ⟨L1, e1⟩ : ∃ L, L = l ++ acc ++ [58, 58] := ⟨_, rfl⟩
            have HL1 := Lib.hid (show L1.length ≤ l.length + 102 by rw [e1]; simp; omega)
            have E1 := Lib.hid e1
            have HZI := Lib.hid hzi
            have hlim := Lib.hid (show (l ++ acc).length + 2 ≤ 140737488355328 by simp; omega)
            clear e1 hzi
            obtain ⟨hsh1, hsh2⟩ := hsh
            by_cases hze8 : ze = 8
            · have hzed : (8 : Int) ≤ (ze : Int) := by omega
              go_wp2_with (at_builtin; refine wpList_append2 rfl _ _ rfl B _ (l ++ acc) rfl hDst.out hBr.out 58 58 58 58 rfl rfl L1 E1.out rfl hlim.out ?_)
              intro v1 w1 o1 b1
              have K1 := b1.other _ _ _ _ hK.out (by decide)
              obtain ⟨m0, m1, m2⟩ := box_cells K1
              have c6 := (hZ.out.on b1.below).c6
              have q0 := fun d w => peq_same w a6 d
              clear K1
              go_wp2
              go_ret
              refine ⟨v1, rfl, ?_, hS.out.trans b1⟩
              rw [HG.out (acc ++ [58, 58]) ((show Prog _ zs ze zs acc from HZI.out ▸ hP.out).cut (by omega) (by omega) (by omega)), ← List.append_assoc, ← E1.out]
              exact o1
            · have hze7 : ze < 8 := by omega
              have hzed : (ze : Int) < 8 := by omega
              go_wp2_with (at_builtin; refine wpList_append2 rfl _ _ rfl B _ (l ++ acc) rfl hDst.out hBr.out 58 58 58 58 rfl rfl L1 E1.out rfl hlim.out ?_)
              intro v1 w1 o1 b1
              have K1 := b1.other _ _ _ _ hK.out (by decide)
              obtain ⟨m0, m1, m2⟩ := box_cells K1
              have S1 : Hid (Step B w w1) := hS.out.trans b1
              clear b1 hS hK hZ hDst hOw hBr
              go_wp2_with fail
              refine (v6_any hi lo (some a6) ze hze7 _).mono ?_
              rintro e w2 ⟨rfl, b2⟩
              have S2 : Hid (Step B w w2) := S1.out.trans (Step.of b2 (Nat.le_trans HB.out S1.out.size))
              have K2 : w2.heap[w.heap.size]? = _ := (b2.block _ (lt_of_block K1)).trans K1
              have D2 : Dst B w2 v1 L1 := (Dst.own o1).on b2
              clear b2 m0 m1 m2 K1 o1 S1
              go_wp2_with fail
              refine (nhex_any B w2 v1 L1 (grp hi lo ze) D2 (Nat.le_trans HB.out S2.out.size) (grp_bd hi lo ze).1 (grp_bd hi lo ze).2 (by have := HL1.out; omega)).mono ?_
              rintro e w3 ⟨v3, rfl, o3, b3⟩
              have K3 := b3.other _ _ _ _ K2 (by decide)
              have S3 : Hid (Step B w w3) := S2.out.trans b3
              clear b3 K2 D2 S2
              go_wp2
              go_roundw
              case rel =>
                have hj := (show Prog _ zs ze zs acc from HZI.out ▸ hP.out).jump (by omega) (by omega)
                have eo : L1 ++ hex16 (grp hi lo ze).toNat = l ++ (acc ++ [58, 58] ++ hex16 (grp hi lo ze).toNat) := by rw [E1.out]; simp
                rw [eo] at o3
                repeat apply Exists.intro
                refine ⟨?_, rfl⟩
                exact ⟨ze + 1, acc ++ [58, 58] ++ hex16 (grp hi lo ze).toNat, by omega, by go_num, Dst.own o3, Or.inr o3, S3, K3, hj⟩
              case measure => have := HZI.out; simp [intOf]; omega
          · have hzi2 : ((i : Int) == (zs : Int)) = false := beq_eq_false_iff_ne.2 (by omega)
            have hpl := Lib.hid (hP.out.plain hzi)
            clear hzi
            by_cases hi0 : i = 0
            · subst hi0
              obtain ⟨m0, m1, m2⟩ := box_cells hK.out
              have L0 := Lib.hid (show (l ++ acc).length ≤ 1099511627776 by simp; omega)
              go_wp2_with fail
              refine (v6_any hi lo (some a6) 0 hlt _).mono ?_
              rintro e w2 ⟨rfl, b2⟩
              have S2 : Hid (Step B w w2) := hS.out.trans (Step.of b2 hBr.out)
              have K2 : w2.heap[w.heap.size]? = _ := (b2.block _ (lt_of_block hK.out)).trans hK.out
              have D2 := hDst.out.on b2
              clear b2 m0 m1 m2 hS hK hZ hDst hOw hBr
              go_wp2_with fail
              refine (nhex_any B w2 _ (l ++ acc) (grp hi lo 0) D2 (Nat.le_trans HB.out S2.out.size) (grp_bd hi lo 0).1 (grp_bd hi lo 0).2 L0.out).mono ?_
              rintro e w3 ⟨v3, rfl, o3, b3⟩
              have K3 := b3.other _ _ _ _ K2 (by decide)
              have S3 : Hid (Step B w w3) := S2.out.trans b3
              clear b3 K2 D2 S2
              go_wp2
              go_roundw
              case rel =>
                have eo : l ++ acc ++ hex16 (grp hi lo 0).toNat = l ++ (acc ++ pre (fun t => (grp hi lo t).toNat) 0) := by simp [pre]
                rw [eo] at o3
                first
                  | exact ⟨1, acc ++ pre (fun t => (grp hi lo t).toNat) 0, by omega, by go_num, Dst.own o3, Or.inr o3, S3, K3, hpl⟩
                  | (repeat apply Exists.intro
                     refine ⟨?_, rfl⟩
                     exact ⟨1, acc ++ pre (fun t => (grp hi lo t).toNat) 0, by omega, by go_num, Dst.own o3, Or.inr o3, S3, K3, hpl⟩)
              case measure => simp [intOf]
            · have hid0 : (0 : Int) < (i : Int) := by omega
              obtain ⟨L1, e1⟩ : ∃ L, L = l ++ acc ++ [58] := ⟨_, rfl⟩
              have HL1 := Lib.hid (show L1.length ≤ l.length + 102 by rw [e1]; simp; omega)
              have eo : L1 ++ hex16 (grp hi lo i).toNat = l ++ (acc ++ pre (fun t => (grp hi lo t).toNat) i) := by rw [e1]; simp [pre, hi0]
              have EO := Lib.hid eo
              have E1 := Lib.hid e1
              have hlim := Lib.hid (show (l ++ acc).length + 1 ≤ 140737488355328 by simp; omega)
              clear e1 eo
              go_wp2_with (at_builtin; refine wpList_append1 rfl _ _ rfl B _ (l ++ acc) rfl hDst.out hBr.out 58 58 rfl L1 E1.out rfl hlim.out ?_)
              intro v1 w1 o1 b1
              have K1 := b1.other _ _ _ _ hK.out (by decide)
              obtain ⟨m0, m1, m2⟩ := box_cells K1
              have S1 : Hid (Step B w w1) := hS.out.trans b1
              clear b1 hS hK hZ hDst hOw hBr
              go_wp2_with fail
              refine (v6_any hi lo (some a6) i hlt _).mono ?_
              rintro e w2 ⟨rfl, b2⟩
              have S2 : Hid (Step B w w2) := S1.out.trans (Step.of b2 (Nat.le_trans HB.out S1.out.size))
              have K2 : w2.heap[w.heap.size]? = _ := (b2.block _ (lt_of_block K1)).trans K1
              have D2 : Dst B w2 v1 L1 := (Dst.own o1).on b2
              clear b2 m0 m1 m2 K1 o1 S1
              go_wp2_with fail
              refine (nhex_any B w2 v1 L1 (grp hi lo i) D2 (Nat.le_trans HB.out S2.out.size) (grp_bd hi lo i).1 (grp_bd hi lo i).2 (by have := HL1.out; omega)).mono ?_
              rintro e w3 ⟨v3, rfl, o3, b3⟩
              have K3 := b3.other _ _ _ _ K2 (by decide)
              have S3 : Hid (Step B w w3) := S2.out.trans b3
              clear b3 K2 D2 S2
              go_wp2
              go_roundw
              case rel =>
                rw [EO.out] at o3
                first
                  | exact ⟨i + 1, acc ++ pre (fun t => (grp hi lo t).toNat) i, by omega, by go_num, Dst.own o3, Or.inr o3, S3, K3, hpl⟩
                  | (repeat apply Exists.intro
                     refine ⟨?_, rfl⟩
                     exact ⟨i + 1, acc ++ pre (fun t => (grp hi lo t).toNat) i, by omega, by go_num, Dst.own o3, Or.inr o3, S3, K3, hpl⟩)
              case measure => simp [intOf]; omega
        · obtain rfl : i = 8 := by omega
          obtain ⟨m0, m1, m2⟩ := box_cells hK.out
          have c6 := hZ.out.c6
          have q0 := fun d w => peq_same w a6 d
          go_wp2
          go_ret
          refine ⟨_, rfl, ?_, hS.out⟩
          rw [HG.out acc hP.out.done]
          exact hOw.out.resolve_left (hP.out.ne (by omega))
end Go.Proofs.Qxb6604517aDoor
