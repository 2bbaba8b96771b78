import Derived.Test.Qxb6604517aDoorRead8
import Derived.Test.Qxb6604517aDoorIpMap
namespace Go.Proofs.Qxb6604517aDoor
open Go.RowKit

/-- K groups from a on, a colon between. -/
def jn (g : Nat → Nat) (a : Nat) : Nat → List UInt8
  | 0 => []
  | K + 1 => jn g a K ++ (if K = 0 then [] else [58]) ++ hex16 (g (a + K))

theorem jn_split (g : Nat → Nat) (a : Nat) : ∀ (d k : Nat), ∃ r, jn g a (k + d) = jn g a k ++ r
  | 0, k => ⟨[], by simp⟩
  | d + 1, k => by
    obtain ⟨r, hr⟩ := jn_split g a d k
    rw [← Nat.add_assoc, jn, hr]
    exact ⟨r ++ (if k + d = 0 then [] else [58]) ++ hex16 (g (a + (k + d))), by simp [List.append_assoc]⟩

theorem body_jn (g : Nat → Nat) : ∀ K, body g 0 K = jn g 0 K
  | 0 => rfl
  | K + 1 => by
    rw [body, jn, body_jn g K, Nat.zero_add, pre]
    by_cases h : K = 0 <;> simp [h]

theorem body_tail (g : Nat → Nat) (z : Nat) : ∀ n, hex16 (g z) ++ body g (z + 1) n = jn g z (n + 1)
  | 0 => by simp [body, jn]
  | n + 1 => by
    have e : jn g z (n + 1 + 1) = jn g z (n + 1) ++ [58] ++ hex16 (g (z + (n + 1))) := by rw [jn, if_neg (by omega)]
    rw [body, ← List.append_assoc, body_tail g z n, e, pre, if_neg (by omega), show z + 1 + n = z + (n + 1) by omega, List.append_assoc]

theorem tail6_jn (g : Nat → Nat) (z : Nat) (hz : z ≤ 8) : tail6 g z = jn g z (8 - z) := by
  unfold tail6
  by_cases h : 8 ≤ z
  · rw [if_pos h, show 8 - z = 0 by omega]; rfl
  · rw [if_neg h, body_tail, show 7 - z + 1 = 8 - z by omega]

def jps (g : Nat → Nat) (a k : Nat) : Nat := (jn g a k).length + (if k = 0 then 0 else 1)

theorem hexd_ne58 (x : Nat) (hx : x < 16) : hexd x ≠ 58 := by
  intro h
  have h1 := hexd_toNat x hx
  rw [h] at h1
  have : (58 : UInt8).toNat = 58 := rfl
  split at h1 <;> omega
theorem hex_no58 (x : Nat) (hx : x < 65536) : ∀ c ∈ hex16 x, c ≠ 58 := by
  intro c hc
  obtain ⟨k, hk, rfl⟩ := List.mem_iff_getElem.1 hc
  rw [hex16_at x hx k hk]
  exact hexd_ne58 _ (by omega)

theorem jn_items (w : World) (b o a K : Nat) (g : Nat → Nat) (hg : ∀ k, g k < 65536) (hK : 1 ≤ K) (h : At w b o (jn g a K)) : Items w b o 58 K (fun k => hex16 (g (a + k))) (jps g a) (jn g a K).length where
  p0 := by simp [jps, jn]
  ps1 := fun k hk => by
    unfold jps
    rw [if_neg (by omega), jn]
    by_cases h0 : k = 0
    · subst h0; simp [jn]
    · simp [h0]; omega
  pK := by unfold jps; rw [if_neg (by omega)]
  at_ := fun k hk => by
    obtain ⟨r, hr⟩ := jn_split g a (K - (k + 1)) (k + 1)
    rw [show k + 1 + (K - (k + 1)) = K by omega] at hr
    rw [hr, jn] at h
    have h1 := h.left.right
    unfold jps
    by_cases h0 : k = 0
    · subst h0; simpa [jn] using h1
    · rw [List.length_append, if_neg h0] at h1
      rw [if_neg h0]
      simpa [Nat.add_assoc] using h1
  no := fun k hk => hex_no58 _ (hg _)
  sep_ := fun k hk => by
    obtain ⟨r, hr⟩ := jn_split g a (K - (k + 2)) (k + 2)
    rw [show k + 2 + (K - (k + 2)) = K by omega] at hr
    rw [hr, jn] at h
    have h1 := h.left.left.right
    rw [if_neg (by omega)] at h1
    have h2 := h1 0 (by simp)
    have e : jps g a k + (hex16 (g (a + k))).length = (jn g a (k + 1)).length := by
      unfold jps
      rw [jn]
      by_cases h0 : k = 0
      · subst h0; simp [jn]
      · simp [h0]; omega
    rw [e]
    simpa using h2
end Go.Proofs.Qxb6604517aDoor
