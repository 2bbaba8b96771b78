import Derived.Test.Qxb6604517aDoorHex
namespace Go.Proofs.Qxb6604517aDoor

/-! ### Zero runs, plain: f k: group k is nought -/
/-- The first place from i on (at most fuel steps on) at which f is false, or i + fuel. -/
def zend (f : Nat → Bool) : Nat → Nat → Nat
  | 0, i => i
  | n + 1, i => if f i then zend f n (i + 1) else i

theorem zend_spec (f : Nat → Bool) : ∀ (n i j : Nat), i ≤ j → j ≤ i + n → (∀ t, i ≤ t → t < j → f t = true) → (j = i + n ∨ f j = false) → zend f n i = j
  | 0, i, j, h1, h2, _, _ => by simp only [zend]; omega
  | n + 1, i, j, h1, h2, h3, h4 => by
    unfold zend
    by_cases e : j = i
    · subst e
      rcases h4 with h4 | h4
      · omega
      · rw [h4]; rfl
    · rw [h3 i (Nat.le_refl _) (by omega), if_pos rfl]
      exact zend_spec f n (i + 1) j (by omega) (by omega) (fun t a b => h3 t (by omega) b) (by rcases h4 with h | h; exact Or.inl (by omega); exact Or.inr h)

/-- One round of netip's search: the run that begins at i. -/
def nstep (f : Nat → Bool) (i : Nat) (s : Nat × Nat) : Nat × Nat :=
  if 2 ≤ zend f (8 - i) i - i ∧ s.2 - s.1 < zend f (8 - i) i - i then (i, zend f (8 - i) i) else s
/-- netip's state behind k rounds. -/
def nst (f : Nat → Bool) : Nat → Nat × Nat
  | 0 => (255, 255)
  | k + 1 => nstep f k (nst f k)

/-- The model's state: (bestStart, bestLen, runStart, runLen). bestStart 8 stands for none. -/
def mstep (f : Nat → Bool) (k : Nat) (s : Nat × Nat × Nat × Nat) : Nat × Nat × Nat × Nat :=
  if f k = false then (s.1, s.2.1, s.2.2.1, 0)
  else if s.2.1 < s.2.2.2 + 1 then (if s.2.2.2 = 0 then k else s.2.2.1, s.2.2.2 + 1, if s.2.2.2 = 0 then k else s.2.2.1, s.2.2.2 + 1)
  else (s.1, s.2.1, if s.2.2.2 = 0 then k else s.2.2.1, s.2.2.2 + 1)
def mst (f : Nat → Bool) : Nat → Nat × Nat × Nat × Nat
  | 0 => (8, 0, 0, 0)
  | k + 1 => mstep f k (mst f k)

/-- A pattern of eight, as a function. -/
def pat (b : List Bool) (k : Nat) : Bool := b.getD k false

theorem zend_congr (f g : Nat → Bool) : ∀ (n i : Nat), (∀ t, i ≤ t → t < i + n → f t = g t) → zend f n i = zend g n i
  | 0, _, _ => rfl
  | n + 1, i, h => by
    unfold zend
    rw [h i (Nat.le_refl _) (by omega), zend_congr f g n (i + 1) (fun t a b => h t (by omega) (by omega))]

theorem nst_congr (f g : Nat → Bool) (h : ∀ t, t < 8 → f t = g t) : ∀ k, k ≤ 8 → nst f k = nst g k
  | 0, _ => rfl
  | k + 1, hk => by
    unfold nst nstep
    rw [zend_congr f g (8 - k) k (fun t _ b => h t (by omega)), nst_congr f g h k (by omega)]

theorem mst_congr (f g : Nat → Bool) (h : ∀ t, t < 8 → f t = g t) : ∀ k, k ≤ 8 → mst f k = mst g k
  | 0, _ => rfl
  | k + 1, hk => by
    unfold mst mstep
    rw [h k (by omega), mst_congr f g h k (by omega)]

/-- What the two searches come to. -/
def agree (f : Nat → Bool) : Bool :=
  (if (mst f 8).2.1 < 2 then nst f 8 == (255, 255) else nst f 8 == ((mst f 8).1, (mst f 8).1 + (mst f 8).2.1) && decide ((mst f 8).1 + (mst f 8).2.1 ≤ 8)) 

theorem agree_all : ∀ a b c d e f g h : Bool, agree (pat [a, b, c, d, e, f, g, h]) = true := by decide +kernel

theorem agree_any (f : Nat → Bool) : agree f = true := by
  have h := agree_all (f 0) (f 1) (f 2) (f 3) (f 4) (f 5) (f 6) (f 7)
  have e : ∀ t, t < 8 → f t = pat [f 0, f 1, f 2, f 3, f 4, f 5, f 6, f 7] t := fun t ht => by
    have : t = 0 ∨ t = 1 ∨ t = 2 ∨ t = 3 ∨ t = 4 ∨ t = 5 ∨ t = 6 ∨ t = 7 := by omega
    rcases this with rfl | rfl | rfl | rfl | rfl | rfl | rfl | rfl <;> rfl
  unfold agree at *
  rw [nst_congr f _ e 8 (Nat.le_refl _), mst_congr f _ e 8 (Nat.le_refl _)]
  exact h

/-! ### The text -/
def pre (g : Nat → Nat) (k : Nat) : List UInt8 := (if k = 0 then [] else [58]) ++ hex16 (g k)
/-- n groups from a on. -/
def body (g : Nat → Nat) (a : Nat) : Nat → List UInt8
  | 0 => []
  | n + 1 => body g a n ++ pre g (a + n)
def tail6 (g : Nat → Nat) (ze : Nat) : List UInt8 := if 8 ≤ ze then [] else hex16 (g ze) ++ body g (ze + 1) (7 - ze)
def text6 (g : Nat → Nat) (zs ze : Nat) : List UInt8 := if 8 ≤ zs then body g 0 8 else body g 0 zs ++ [58, 58] ++ tail6 g ze

theorem pre_len (g : Nat → Nat) (k : Nat) : (pre g k).length ≤ 5 := by
  have := (hex16_len (g k)).2
  unfold pre; split <;> simp <;> omega
theorem body_len (g : Nat → Nat) (a : Nat) : ∀ n, (body g a n).length ≤ 5 * n
  | 0 => by simp [body]
  | n + 1 => by
    have := body_len g a n
    have := pre_len g (a + n)
    simp [body]; omega
end Go.Proofs.Qxb6604517aDoor
