import Derived.Test.Qxb6604517aDoorNetMap
import Derived.RegionTactic
import Derived.ChangeAlike
namespace Go.Proofs.Qxb6604517aDoor
open Go.RowKit

set_option maxHeartbeats 800000 in
theorem halves_any (b : Nat) (w : World) :
    Calls Tryd.prog 50 #[.pointer (some ⟨b, 0, none⟩)] w fun e w' => e = .returned (.agg #[.pointer (some ⟨b, 0, none⟩), .pointer (some ⟨b, 1, none⟩)]) ∧ Below w.heap.size w w' := by
  go_enter Tryd.func50, Tryd.ntmps50
  go_wp2
  go_region
  go_wp2
  exact bodyPost_ret (v := .agg #[.pointer (some ⟨b, 0, none⟩), .pointer (some ⟨b, 1, none⟩)]) (by simp [results, Tryd.results50, go_sem]) rfl ⟨rfl, ((Below.refl _ _).alloc (Nat.le_refl _) _).drew⟩

/-- The eight groups of an address: sixteen bits each. -/
def grps (hi lo : Int) : List Int := [hi / 281474976710656 % 65536, hi / 4294967296 % 65536, hi / 65536 % 65536, hi % 65536, lo / 281474976710656 % 65536, lo / 4294967296 % 65536, lo / 65536 % 65536, lo % 65536]
def grp (hi lo : Int) (i : Nat) : Int := (grps hi lo).getD i 0
theorem grp_bd (hi lo : Int) (i : Nat) : 0 ≤ grp hi lo i ∧ grp hi lo i < 65536 := by
  unfold grp grps
  have : i = 0 ∨ i = 1 ∨ i = 2 ∨ i = 3 ∨ i = 4 ∨ i = 5 ∨ i = 6 ∨ i = 7 ∨ 8 ≤ i := by omega
  rcases this with rfl | rfl | rfl | rfl | rfl | rfl | rfl | rfl | h
  all_goals first | (simp only [List.getD_cons_zero, List.getD_cons_succ]; omega) | skip
  rw [List.getD_eq_getElem?_getD, List.getElem?_eq_none (by simpa using h)]; simp

theorem pick0 (x y : Value) (w : World) : (Instr.index 82 (.agg #[x, y]) (.int .u8 0)).run Tryd.prog w = .ok x w := by kernel_rfl
theorem pick1 (x y : Value) (w : World) : (Instr.index 82 (.agg #[x, y]) (.int .u8 1)).run Tryd.prog w = .ok y w := by kernel_rfl

set_option maxHeartbeats 400000 in
theorem v6_0 (hi lo : Int) (z : Option Addr) (w : World) :
    Calls Tryd.prog 46 #[.agg #[.int .u64 hi, .int .u64 lo, .pointer z], .int .u8 0] w fun e w' => e = .returned (.int .u16 (hi / 281474976710656 % 65536)) ∧ Below w.heap.size w w' := by
  have ip := fun x y w => pick0 x y w
  go_enter Tryd.func46, Tryd.ntmps46
  go_wp2_with fail
  refine (halves_any w.heap.size _).mono ?_
  rintro e w1 ⟨rfl, hb⟩
  have hc : w1.cell? ⟨w.heap.size, 0, none⟩ = some (.int .u64 hi) := by rw [hb.cell (p := ⟨w.heap.size, 0, none⟩) (by simp)]; simp
  have hbb : Below w.heap.size w w1 := ((Below.refl _ _).alloc (Nat.le_refl _) _).trans (hb.mono (by simp))
  clear hb
  go_wp2
  go_ret
  exact ⟨rfl, hbb⟩

set_option maxHeartbeats 400000 in
theorem v6_1 (hi lo : Int) (z : Option Addr) (w : World) :
    Calls Tryd.prog 46 #[.agg #[.int .u64 hi, .int .u64 lo, .pointer z], .int .u8 1] w fun e w' => e = .returned (.int .u16 (hi / 4294967296 % 65536)) ∧ Below w.heap.size w w' := by
  have ip := fun x y w => pick0 x y w
  go_enter Tryd.func46, Tryd.ntmps46
  go_wp2_with fail
  refine (halves_any w.heap.size _).mono ?_
  rintro e w1 ⟨rfl, hb⟩
  have hc : w1.cell? ⟨w.heap.size, 0, none⟩ = some (.int .u64 hi) := by rw [hb.cell (p := ⟨w.heap.size, 0, none⟩) (by simp)]; simp
  have hbb : Below w.heap.size w w1 := ((Below.refl _ _).alloc (Nat.le_refl _) _).trans (hb.mono (by simp))
  clear hb
  go_wp2
  go_ret
  exact ⟨rfl, hbb⟩

set_option maxHeartbeats 400000 in
theorem v6_2 (hi lo : Int) (z : Option Addr) (w : World) :
    Calls Tryd.prog 46 #[.agg #[.int .u64 hi, .int .u64 lo, .pointer z], .int .u8 2] w fun e w' => e = .returned (.int .u16 (hi / 65536 % 65536)) ∧ Below w.heap.size w w' := by
  have ip := fun x y w => pick0 x y w
  go_enter Tryd.func46, Tryd.ntmps46
  go_wp2_with fail
  refine (halves_any w.heap.size _).mono ?_
  rintro e w1 ⟨rfl, hb⟩
  have hc : w1.cell? ⟨w.heap.size, 0, none⟩ = some (.int .u64 hi) := by rw [hb.cell (p := ⟨w.heap.size, 0, none⟩) (by simp)]; simp
  have hbb : Below w.heap.size w w1 := ((Below.refl _ _).alloc (Nat.le_refl _) _).trans (hb.mono (by simp))
  clear hb
  go_wp2
  go_ret
  exact ⟨rfl, hbb⟩

set_option maxHeartbeats 400000 in
theorem v6_3 (hi lo : Int) (z : Option Addr) (w : World) :
    Calls Tryd.prog 46 #[.agg #[.int .u64 hi, .int .u64 lo, .pointer z], .int .u8 3] w fun e w' => e = .returned (.int .u16 (hi % 65536)) ∧ Below w.heap.size w w' := by
  have ip := fun x y w => pick0 x y w
  go_enter Tryd.func46, Tryd.ntmps46
  go_wp2_with fail
  refine (halves_any w.heap.size _).mono ?_
  rintro e w1 ⟨rfl, hb⟩
  have hc : w1.cell? ⟨w.heap.size, 0, none⟩ = some (.int .u64 hi) := by rw [hb.cell (p := ⟨w.heap.size, 0, none⟩) (by simp)]; simp
  have hbb : Below w.heap.size w w1 := ((Below.refl _ _).alloc (Nat.le_refl _) _).trans (hb.mono (by simp))
  clear hb
  go_wp2
  go_ret
  exact ⟨rfl, hbb⟩

set_option maxHeartbeats 400000 in
theorem v6_4 (hi lo : Int) (z : Option Addr) (w : World) :
    Calls Tryd.prog 46 #[.agg #[.int .u64 hi, .int .u64 lo, .pointer z], .int .u8 4] w fun e w' => e = .returned (.int .u16 (lo / 281474976710656 % 65536)) ∧ Below w.heap.size w w' := by
  have ip := fun x y w => pick1 x y w
  go_enter Tryd.func46, Tryd.ntmps46
  go_wp2_with fail
  refine (halves_any w.heap.size _).mono ?_
  rintro e w1 ⟨rfl, hb⟩
  have hc : w1.cell? ⟨w.heap.size, 1, none⟩ = some (.int .u64 lo) := by rw [hb.cell (p := ⟨w.heap.size, 1, none⟩) (by simp)]; simp
  have hbb : Below w.heap.size w w1 := ((Below.refl _ _).alloc (Nat.le_refl _) _).trans (hb.mono (by simp))
  clear hb
  go_wp2
  go_ret
  exact ⟨rfl, hbb⟩

set_option maxHeartbeats 400000 in
theorem v6_5 (hi lo : Int) (z : Option Addr) (w : World) :
    Calls Tryd.prog 46 #[.agg #[.int .u64 hi, .int .u64 lo, .pointer z], .int .u8 5] w fun e w' => e = .returned (.int .u16 (lo / 4294967296 % 65536)) ∧ Below w.heap.size w w' := by
  have ip := fun x y w => pick1 x y w
  go_enter Tryd.func46, Tryd.ntmps46
  go_wp2_with fail
  refine (halves_any w.heap.size _).mono ?_
  rintro e w1 ⟨rfl, hb⟩
  have hc : w1.cell? ⟨w.heap.size, 1, none⟩ = some (.int .u64 lo) := by rw [hb.cell (p := ⟨w.heap.size, 1, none⟩) (by simp)]; simp
  have hbb : Below w.heap.size w w1 := ((Below.refl _ _).alloc (Nat.le_refl _) _).trans (hb.mono (by simp))
  clear hb
  go_wp2
  go_ret
  exact ⟨rfl, hbb⟩

set_option maxHeartbeats 400000 in
theorem v6_6 (hi lo : Int) (z : Option Addr) (w : World) :
    Calls Tryd.prog 46 #[.agg #[.int .u64 hi, .int .u64 lo, .pointer z], .int .u8 6] w fun e w' => e = .returned (.int .u16 (lo / 65536 % 65536)) ∧ Below w.heap.size w w' := by
  have ip := fun x y w => pick1 x y w
  go_enter Tryd.func46, Tryd.ntmps46
  go_wp2_with fail
  refine (halves_any w.heap.size _).mono ?_
  rintro e w1 ⟨rfl, hb⟩
  have hc : w1.cell? ⟨w.heap.size, 1, none⟩ = some (.int .u64 lo) := by rw [hb.cell (p := ⟨w.heap.size, 1, none⟩) (by simp)]; simp
  have hbb : Below w.heap.size w w1 := ((Below.refl _ _).alloc (Nat.le_refl _) _).trans (hb.mono (by simp))
  clear hb
  go_wp2
  go_ret
  exact ⟨rfl, hbb⟩

set_option maxHeartbeats 400000 in
theorem v6_7 (hi lo : Int) (z : Option Addr) (w : World) :
    Calls Tryd.prog 46 #[.agg #[.int .u64 hi, .int .u64 lo, .pointer z], .int .u8 7] w fun e w' => e = .returned (.int .u16 (lo % 65536)) ∧ Below w.heap.size w w' := by
  have ip := fun x y w => pick1 x y w
  go_enter Tryd.func46, Tryd.ntmps46
  go_wp2_with fail
  refine (halves_any w.heap.size _).mono ?_
  rintro e w1 ⟨rfl, hb⟩
  have hc : w1.cell? ⟨w.heap.size, 1, none⟩ = some (.int .u64 lo) := by rw [hb.cell (p := ⟨w.heap.size, 1, none⟩) (by simp)]; simp
  have hbb : Below w.heap.size w w1 := ((Below.refl _ _).alloc (Nat.le_refl _) _).trans (hb.mono (by simp))
  clear hb
  go_wp2
  go_ret
  exact ⟨rfl, hbb⟩

theorem v6_any (hi lo : Int) (z : Option Addr) (i : Nat) (hi8 : i < 8) (w : World) :
    Calls Tryd.prog 46 #[.agg #[.int .u64 hi, .int .u64 lo, .pointer z], .int .u8 (i : Int)] w fun e w' => e = .returned (.int .u16 (grp hi lo i)) ∧ Below w.heap.size w w' := by
  have : i = 0 ∨ i = 1 ∨ i = 2 ∨ i = 3 ∨ i = 4 ∨ i = 5 ∨ i = 6 ∨ i = 7 := by omega
  rcases this with rfl | rfl | rfl | rfl | rfl | rfl | rfl | rfl
  · exact v6_0 hi lo z w
  · exact v6_1 hi lo z w
  · exact v6_2 hi lo z w
  · exact v6_3 hi lo z w
  · exact v6_4 hi lo z w
  · exact v6_5 hi lo z w
  · exact v6_6 hi lo z w
  · exact v6_7 hi lo z w
end Go.Proofs.Qxb6604517aDoor
