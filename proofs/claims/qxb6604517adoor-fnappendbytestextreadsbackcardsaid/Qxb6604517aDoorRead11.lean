import Derived.Test.Qxb6604517aDoorRead10
namespace Go.Proofs.Qxb6604517aDoor
open Go.RowKit

/-- No two colons side by side. -/
def NoCC (l : List UInt8) : Prop := ∀ i : Nat, ¬ (l[i]? = some 58 ∧ l[i + 1]? = some 58)

theorem NoCC.append {l h : List UInt8} (hl : NoCC l) (hh : ∀ c ∈ h, c ≠ 58) : NoCC (l ++ h) := by
  intro i ⟨h1, h2⟩
  by_cases e : i + 1 < l.length
  · rw [List.getElem?_append_left (by omega)] at h1 h2
    exact hl i ⟨h1, h2⟩
  · rw [List.getElem?_append_right (by omega)] at h2
    exact hh 58 (List.mem_of_getElem? h2) rfl

theorem NoCC.colon {l : List UInt8} (hl : NoCC l) (hn : ∀ i : Nat, i + 1 = l.length → l[i]? ≠ some 58) : NoCC (l ++ [58]) := by
  intro i ⟨h1, h2⟩
  by_cases e : i + 1 < l.length
  · rw [List.getElem?_append_left (by omega)] at h1 h2
    exact hl i ⟨h1, h2⟩
  · by_cases e2 : i + 1 = l.length
    · rw [List.getElem?_append_left (by omega)] at h1
      exact hn i e2 h1
    · rw [List.getElem?_append_right (by omega), List.getElem?_eq_none (by simp; omega)] at h2
      cases h2

theorem jn_last (g : Nat → Nat) (hg : ∀ k, g k < 65536) (a : Nat) : ∀ K i, i + 1 = (jn g a K).length → (jn g a K)[i]? ≠ some 58
  | 0, i, h => by simp [jn] at h
  | K + 1, i, h => by
    intro e
    rw [jn] at h e
    have h1 := (hex16_len (g (a + K))).1
    rw [List.length_append] at h
    rw [List.getElem?_append_right (by omega)] at e
    exact hex_no58 _ (hg _) 58 (List.mem_of_getElem? e) rfl

theorem jn_nocc (g : Nat → Nat) (hg : ∀ k, g k < 65536) (a : Nat) : ∀ K, NoCC (jn g a K)
  | 0 => by intro i ⟨h, _⟩; simp [jn] at h
  | K + 1 => by
    rw [jn]
    refine NoCC.append ?_ (hex_no58 _ (hg _))
    by_cases h : K = 0
    · rw [if_pos h, List.append_nil]; exact jn_nocc g hg a K
    · rw [if_neg h]; exact (jn_nocc g hg a K).colon (jn_last g hg a K)

theorem jn_first (g : Nat → Nat) (hg : ∀ k, g k < 65536) (a K : Nat) (r : List UInt8) (i : Nat) (hi : i < (jn g a K).length) : ¬ ((jn g a K ++ r)[i]? = some 58 ∧ (jn g a K ++ r)[i + 1]? = some 58) := by
  intro ⟨h1, h2⟩
  rw [List.getElem?_append_left hi] at h1
  by_cases e : i + 1 < (jn g a K).length
  · rw [List.getElem?_append_left e] at h2
    exact jn_nocc g hg a K i ⟨h1, h2⟩
  · exact jn_last g hg a K i (by omega) h1
end Go.Proofs.Qxb6604517aDoor
