import Derived.Test.Qxb6604517aDoorRead11
namespace Go.Proofs.Qxb6604517aDoor
open Go.RowKit

/-! ### The longest run of zero groups -/
def okz (f : Nat → Bool) : Bool :=
  decide (8 ≤ (nst f 8).1) || (decide ((nst f 8).1 + 2 ≤ (nst f 8).2) && decide ((nst f 8).2 ≤ 8) && (List.range 8).all fun k => !(decide ((nst f 8).1 ≤ k) && decide (k < (nst f 8).2)) || f k)
theorem okz_all : ∀ a b c d e f g h : Bool, okz (pat [a, b, c, d, e, f, g, h]) = true := by decide +kernel
theorem okz_any (f : Nat → Bool) : okz f = true := by
  have h := okz_all (f 0) (f 1) (f 2) (f 3) (f 4) (f 5) (f 6) (f 7)
  have e : ∀ t, t < 8 → f t = pat [f 0, f 1, f 2, f 3, f 4, f 5, f 6, f 7] t := fun t ht => by
    have : t = 0 ∨ t = 1 ∨ t = 2 ∨ t = 3 ∨ t = 4 ∨ t = 5 ∨ t = 6 ∨ t = 7 := by omega
    rcases this with rfl | rfl | rfl | rfl | rfl | rfl | rfl | rfl <;> rfl
  have e2 : (List.range 8).all (fun k => !(decide ((nst f 8).1 ≤ k) && decide (k < (nst f 8).2)) || f k) = (List.range 8).all (fun k => !(decide ((nst f 8).1 ≤ k) && decide (k < (nst f 8).2)) || pat [f 0, f 1, f 2, f 3, f 4, f 5, f 6, f 7] k) := by
    rw [Bool.eq_iff_iff, List.all_eq_true, List.all_eq_true]
    constructor <;> intro h x hx <;> have := h x hx <;> have h8 : x < 8 := List.mem_range.1 hx
    · rw [← e x h8]; exact this
    · rw [e x h8]; exact this
  unfold okz at *
  rw [e2, nst_congr f _ e 8 (Nat.le_refl _)]
  exact h
theorem run_zero (f : Nat → Bool) (h : ¬ 8 ≤ (nst f 8).1) : (nst f 8).1 + 2 ≤ (nst f 8).2 ∧ (nst f 8).2 ≤ 8 ∧ ∀ k, (nst f 8).1 ≤ k → k < (nst f 8).2 → f k = true := by
  have ho := okz_any f
  unfold okz at ho
  simp only [Bool.or_eq_true, decide_eq_true_eq, Bool.and_eq_true, h, false_or] at ho
  obtain ⟨⟨h1, h2⟩, h3⟩ := ho
  refine ⟨h1, h2, fun k hk1 hk2 => ?_⟩
  have := List.all_eq_true.1 h3 k (List.mem_range.2 (by omega))
  simpa [hk1, hk2] using this

/-! ### Items joined -/
def jl (sep : UInt8) (I : Nat → List UInt8) : Nat → List UInt8
  | 0 => []
  | K + 1 => jl sep I K ++ (if K = 0 then [] else [sep]) ++ I K
theorem jl_split (sep : UInt8) (I : Nat → List UInt8) : ∀ (d k : Nat), ∃ r, jl sep I (k + d) = jl sep I k ++ r
  | 0, k => ⟨[], by simp⟩
  | d + 1, k => by
    obtain ⟨r, hr⟩ := jl_split sep I d k
    rw [← Nat.add_assoc, jl, hr]
    exact ⟨r ++ (if k + d = 0 then [] else [sep]) ++ I (k + d), by simp [List.append_assoc]⟩
def jlps (sep : UInt8) (I : Nat → List UInt8) (k : Nat) : Nat := (jl sep I k).length + (if k = 0 then 0 else 1)
theorem jl_items (w : World) (b o K : Nat) (sep : UInt8) (I : Nat → List UInt8) (hno : ∀ k, k < K → ∀ c ∈ I k, c ≠ sep) (hK : 1 ≤ K) (h : At w b o (jl sep I K)) : Items w b o sep K I (jlps sep I) (jl sep I K).length where
  p0 := by simp [jlps, jl]
  ps1 := fun k hk => by
    unfold jlps
    rw [if_neg (by omega), jl]
    by_cases h0 : k = 0
    · subst h0; simp [jl]
    · simp [h0]; omega
  pK := by unfold jlps; rw [if_neg (by omega)]
  at_ := fun k hk => by
    obtain ⟨r, hr⟩ := jl_split sep I (K - (k + 1)) (k + 1)
    rw [show k + 1 + (K - (k + 1)) = K by omega] at hr
    rw [hr, jl] at h
    have h1 := h.left.right
    unfold jlps
    by_cases h0 : k = 0
    · subst h0; simpa [jl] using h1
    · rw [List.length_append, if_neg h0] at h1
      rw [if_neg h0]
      simpa [Nat.add_assoc] using h1
  no := hno
  sep_ := fun k hk => by
    obtain ⟨r, hr⟩ := jl_split sep I (K - (k + 2)) (k + 2)
    rw [show k + 2 + (K - (k + 2)) = K by omega] at hr
    rw [hr, jl] at h
    have h1 := h.left.left.right
    rw [if_neg (by omega)] at h1
    have h2 := h1 0 (by simp)
    have e : jlps sep I k + (I k).length = (jl sep I (k + 1)).length := by
      unfold jlps
      rw [jl]
      by_cases h0 : k = 0
      · subst h0; simp [jl]
      · simp [h0]; omega
    rw [e]
    simpa using h2

theorem dec_no (u : Nat) (c : UInt8) (h : c ∈ Lib.decDigits u) : 48 ≤ c.toNat ∧ c.toNat ≤ 57 := decDigits_range u c h
theorem dec_no46 (u : Nat) : ∀ c ∈ Lib.decDigits u, c ≠ 46 := fun c hc e => by
  have := dec_no u c hc
  rw [e] at this
  have h46 : (46 : UInt8).toNat = 46 := rfl
  omega
theorem dec_no58 (u : Nat) : ∀ c ∈ Lib.decDigits u, c ≠ 58 := fun c hc e => by
  have := dec_no u c hc
  rw [e] at this
  have h46 : (58 : UInt8).toNat = 58 := rfl
  omega
theorem dotted_jl (q : Nat → Nat) : dotted (q 0) (q 1) (q 2) (q 3) = jl 46 (fun k => Lib.decDigits (q k)) 4 := by simp [dotted, jl]
theorem dotted_no58 (p q r s : Nat) : ∀ c ∈ dotted p q r s, c ≠ 58 := by
  intro c hc
  have h := hc
  simp only [dotted, List.mem_append, List.mem_singleton] at h
  rcases h with (((((h | h) | h) | h) | h) | h) | h
  · exact dec_no58 _ c h
  · rw [h]; decide
  · exact dec_no58 _ c h
  · rw [h]; decide
  · exact dec_no58 _ c h
  · rw [h]; decide
  · exact dec_no58 _ c h
theorem dotted_46 (p q r s : Nat) : (46 : UInt8) ∈ dotted p q r s := by simp [dotted]

theorem pdot_text (w : World) (b o cap : Nat) (q : Nat → Nat) (hq : ∀ k, q k < 256) (hA : At w b o (dotted (q 0) (q 1) (q 2) (q 3))) (hbl : b < w.heap.size) (hlen : (dotted (q 0) (q 1) (q 2) (q 3)).length ≤ 1000) (hcap : (dotted (q 0) (q 1) (q 2) (q 3)).length ≤ cap) :
    Calls Tryd.prog 12 #[.slice (some ⟨b, o, none⟩) (dotted (q 0) (q 1) (q 2) (q 3)).length cap] w fun e w' => e = .returned (.tuple #[.agg #[.int .u8 (q 0), .int .u8 (q 1), .int .u8 (q 2), .int .u8 (q 3)], .bool true]) ∧ Below w.heap.size w w' := by
  rw [dotted_jl] at hA hlen hcap ⊢
  exact pdot_any w b o cap _ q _ hq (jl_items w b o 4 46 _ (fun k _ => dec_no46 _) (by omega) hA) hbl hlen hcap

/-- The text behind '::' of a mapped address. -/
def mapRest (q : Nat → Nat) : List UInt8 := hex16 65535 ++ [58] ++ dotted (q 0) (q 1) (q 2) (q 3)
theorem mapped_split (q : Nat → Nat) : mappedHead ++ dotted (q 0) (q 1) (q 2) (q 3) = [58, 58] ++ mapRest q := by
  have : mappedHead = [58, 58] ++ hex16 65535 ++ [58] := by decide
  rw [this, mapRest]; simp [List.append_assoc]
theorem pmap_text (w : World) (b o cap : Nat) (q : Nat → Nat) (hq : ∀ k, q k < 256) (hA : At w b o (mapRest q)) (hbl : b < w.heap.size) (hlen : (mapRest q).length ≤ 1000) (hcap : (mapRest q).length ≤ cap) :
    Calls Tryd.prog 24 #[.slice (some ⟨b, o, none⟩) (mapRest q).length cap, .bool true] w fun e w' => e = .returned (.tuple #[aggW (fun k => if k = 0 then 65535 else if k = 1 then ((q 0 * 256 + q 1 : Nat) : Int) else if k = 2 then ((q 2 * 256 + q 3 : Nat) : Int) else 0), .int .i64 3, .bool true]) ∧ Below w.heap.size w w' := by
  obtain ⟨I, hI⟩ : ∃ I : Nat → List UInt8, I = fun k => if k = 0 then hex16 65535 else dotted (q 0) (q 1) (q 2) (q 3) := ⟨_, rfl⟩
  have i0 : I 0 = hex16 65535 := by rw [hI]; rfl
  have i1 : I 1 = dotted (q 0) (q 1) (q 2) (q 3) := by rw [hI]; rfl
  have e : mapRest q = jl 58 I 2 := by rw [mapRest, jl, jl, jl, i0, i1]; simp
  have hit : Items w b o 58 2 I (jlps 58 I) (jl 58 I 2).length := jl_items w b o 2 58 I (fun k hk => by
    have : k = 0 ∨ k = 1 := by omega
    rcases this with rfl | rfl
    · rw [i0]; exact hex_no58 _ (by omega)
    · rw [i1]; exact dotted_no58 _ _ _ _) (by omega) (by rw [← e]; exact hA)
  have h1 := hit.at_ 1 (by omega)
  rw [i1, dotted_jl] at h1
  have hd := jl_items w b (o + jlps 58 I 1) 4 46 (fun k => Lib.decDigits (q k)) (fun k _ => dec_no46 _) (by omega) h1
  rw [← dotted_jl, ← i1] at hd
  rw [e] at hlen hcap ⊢
  exact pwords_map w b o cap _ q _ _ hq I i0 (by rw [i1]; exact dotted_46 _ _ _ _) hit hd hbl hlen hcap
end Go.Proofs.Qxb6604517aDoor
