import Derived.Test.Qxb6604517aDoorRead9
namespace Go.Proofs.Qxb6604517aDoor
open Go.RowKit

theorem BN.upd {ty : TypeId} {n : Nat} {q : IntKind} {f f' : Nat → Int} {G : Nat} {w : World} (h : BN ty n q f G n w) (k : Nat) (hk : k < n) (h1 : ∀ i, i < n → i ≠ k → f' i = f i) (v : Int) (hv : v = f' k) : BN ty n q f' G n (w.setCell ⟨G, k, none⟩ (.int q v)) := by
  subst hv
  obtain ⟨cur, h, hs, hc, _⟩ := h
  refine ⟨_, heap_setCell_at h k _, by simpa using hs, fun i hi => ?_, fun i h1 h2 => absurd h2 (by omega)⟩
  by_cases e : i = k
  · subst e
    rw [Array.getElem?_setIfInBounds_self_of_lt (by omega)]
  · rw [Array.getElem?_setIfInBounds_ne (by omega), h1 i hi e]
    exact hc i hi
theorem BN.cast {ty : TypeId} {n : Nat} {q : IntKind} {f f' : Nat → Int} {G : Nat} {w : World} (h : BN ty n q f G n w) (h1 : ∀ i, i < n → f' i = f i) : BN ty n q f' G n w := by
  obtain ⟨cur, h, hs, hc, _⟩ := h
  exact ⟨cur, h, hs, fun i hi => by rw [h1 i hi]; exact hc i hi, fun i h1 h2 => absurd h2 (by omega)⟩
theorem sixteen (i : Nat) (h : i < 16) : (#[Value.int .u8 0, .int .u8 0, .int .u8 0, .int .u8 0, .int .u8 0, .int .u8 0, .int .u8 0, .int .u8 0, .int .u8 0, .int .u8 0, .int .u8 0, .int .u8 0, .int .u8 0, .int .u8 0, .int .u8 0, .int .u8 0] : Array Value)[i]? = some (.int .u8 0) := by
  have : i = 0 ∨ i = 1 ∨ i = 2 ∨ i = 3 ∨ i = 4 ∨ i = 5 ∨ i = 6 ∨ i = 7 ∨ i = 8 ∨ i = 9 ∨ i = 10 ∨ i = 11 ∨ i = 12 ∨ i = 13 ∨ i = 14 ∨ i = 15 := by omega
  rcases this with rfl | rfl | rfl | rfl | rfl | rfl | rfl | rfl | rfl | rfl | rfl | rfl | rfl | rfl | rfl | rfl <;> rfl
/-- The sixteen bytes of eight words. -/
def wb (f : Nat → Int) (i : Nat) : Int := if i % 2 = 0 then f (i / 2) / 256 else f (i / 2) % 256
def agg16 (h : Nat → Int) : Value := .agg #[.int .u8 (h 0), .int .u8 (h 1), .int .u8 (h 2), .int .u8 (h 3), .int .u8 (h 4), .int .u8 (h 5), .int .u8 (h 6), .int .u8 (h 7), .int .u8 (h 8), .int .u8 (h 9), .int .u8 (h 10), .int .u8 (h 11), .int .u8 (h 12), .int .u8 (h 13), .int .u8 (h 14), .int .u8 (h 15)]

end Go.Proofs.Qxb6604517aDoor
