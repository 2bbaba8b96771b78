import Derived.Test.Qxb6604555aDoorRows
import Derived.Test.Qxb6604555aDoorPlain
import Derived.WalkKit
import Derived.WalkSpells
namespace Go.Proofs.Qxb6604555aDoor
open Go.RowKit

theorem bne_size (s : ByteArray) (h : 1 ≤ s.size) : ¬ s = ByteArray.empty := by
  intro e; subst e; simp at h

theorem ret_bool {a b : Bool} (h : a = b) : Ending.returned (.bool a) = .returned (.bool b) := by rw [h]

set_option maxHeartbeats 400000 in
theorem w4_pos (n : Nat) (w : World) (h1 : (n : Int) ≤ 9223372036854775807)
   (h5 : Hid (Calls Tryd.prog 5 #[.int .i64 n] w fun e w' => ∃ s : ByteArray, e = .returned (.string s) ∧ Spells s 0 n ∧ Below w.heap.size w w')) :
   Calls Tryd.prog 4 #[.int .i64 n] w fun e w' => e = .returned (.bool true) ∧ Below w.heap.size w w' := by
  go_enter Tryd.func4, Tryd.ntmps4
  go_wp2_with fail
  refine h5.out.mono ?_
  clear h5
  rintro e w1 ⟨s, rfl, hS0, hb⟩
  have hS : Hid (Spells s 0 n) := hS0
  have hs1 := hS0.lo
  have hs2 : (s.size : Int) ≤ 20 := by have := hS0.hi; omega
  have hne := bne_size s hs1
  have hz : ((s.size : Int) == 0) = false := beq_eq_false_iff_ne.2 (by omega)
  have hd := hS0.dig 0 (by omega) (by omega)
  have h45 : ((s[0].toNat : Int) == 45) = false := beq_eq_false_iff_ne.2 (by omega)
  have hl : (s.size : Int) ≤ 1 ∨ ¬ (s[0].toNat : Int) = 48 := by
    rcases hS0.lead with ⟨_, h⟩ | ⟨h, h'⟩ <;> omega
  clear hS0 hd
  rcases hl with hl | hl
  all_goals
    go_wp2_with fail
  all_goals
    clear hl
    go_loop [5, 7] (fun i u => ∃ (k : Nat) (a : Int), k ≤ s.size ∧ i = .int .i64 k ∧ u = .int .u64 a ∧ 0 ≤ a ∧ Hid (a = (pv s.data.toList 0 k : Nat))) (fun i _ => s.size - (intOf i).toNat)
    case atStart => exact ⟨0, 0, Nat.zero_le _, rfl, rfl, Int.le_refl _, by show (0 : Int) = _; rw [pv_start]; rfl⟩
    case round =>
      obtain ⟨k, a, hk, rfl, rfl, ha0, ha⟩ := hrel
      by_cases hlt : k < s.size
      · have hd := hS.out.dig k hlt (Nat.zero_le _)
        have hd1 : (48 : Int) ≤ (s[k].toNat : Int) := by omega
        have hd2 : (s[k].toNat : Int) ≤ 57 := by omega
        have hst : Hid ((pv s.data.toList 0 (k + 1) : Nat) = a * 10 + ((s[k].toNat : Int) - 48)) := by
          have := pv_step s.data.toList 0 k (Nat.zero_le _) (by simpa using hlt)
          have e2 := ha.out
          rw [← getElem_toList s k hlt] at this
          show ((pv s.data.toList 0 (k + 1) : Nat) : Int) = _
          rw [this, e2]; omega
        have hbd : a * 10 + ((s[k].toNat : Int) - 48) ≤ 9223372036854775808 := by
          have := hst.out
          have h2 := pv_le s.data.toList 0 (k + 1)
          rw [hS.out.val] at h2
          have := hS.out.small
          omega
        clear hd
        go_wp2
        go_round
        case rel => exact ⟨k + 1, a * 10 + ((s[k].toNat : Int) - 48), by omega, by go_num, rfl, by omega, hst.out.symm⟩
        case measure => simp [intOf]; omega
      · have hks : k = s.size := by omega
        have hfin : a = (n : Int) := by
          rw [ha.out, hks, ← hS.out.val]
          have := pv_full s.data.toList 0 (Nat.zero_le _)
          rw [show s.data.toList.length = s.size from by simp] at this
          rw [this]
        subst hfin
        clear hks
        go_wp2
        go_ret
        exact ⟨ret_bool (by simp), hb⟩

theorem back (n : Nat) (h0 : (1:Int) ≤ n) (h1 : (n : Int) ≤ 9223372036854775808) : (wrap64 (IntKind.u64.wrap (-(n:Int))) == -(n:Int)) = true := by
  refine beq_iff_eq.2 ?_
  have e : IntKind.u64.wrap (-(n:Int)) = (-(n:Int)) % 18446744073709551616 := rfl
  rw [e]; unfold wrap64
  omega

set_option maxHeartbeats 400000 in
theorem w4_neg (n : Nat) (w : World) (h0 : (1 : Int) ≤ n) (h1 : (n : Int) ≤ 9223372036854775808)
   (h5 : Hid (Calls Tryd.prog 5 #[.int .i64 (-(n : Int))] w fun e w' => ∃ s : ByteArray, e = .returned (.string s) ∧ (Spells s 1 n ∧ ∃ h0 : 0 < s.size, s[0].toNat = 45) ∧ Below w.heap.size w w')) :
   Calls Tryd.prog 4 #[.int .i64 (-(n : Int))] w fun e w' => e = .returned (.bool true) ∧ Below w.heap.size w w' := by
  go_enter Tryd.func4, Tryd.ntmps4
  go_wp2_with fail
  refine h5.out.mono ?_
  clear h5
  rintro e w1 ⟨s, rfl, ⟨hS0, hp, he⟩, hb⟩
  have hS : Hid (Spells s 1 n) := hS0
  have hs1 : 1 < s.size := hS0.first
  have hs2 : (s.size : Int) ≤ 20 := by have := hS0.hi; omega
  have hne := bne_size s (by omega)
  have hz : ((s.size : Int) == 0) = false := beq_eq_false_iff_ne.2 (by omega)
  have h45 : ((s[0].toNat : Int) == 45) = true := beq_iff_eq.2 (by omega)
  have hl : ¬ (s[1].toNat : Int) = 48 := by
    rcases hS0.lead with ⟨_, h⟩ | ⟨h, h'⟩ <;> omega
  clear hS0 he
  go_wp2_with fail
  go_loop [5, 7] (fun i u => ∃ (k : Nat) (a : Int), 1 ≤ k ∧ k ≤ s.size ∧ i = .int .i64 k ∧ u = .int .u64 a ∧ 0 ≤ a ∧ Hid (a = (pv s.data.toList 1 k : Nat))) (fun i _ => s.size - (intOf i).toNat)
  case atStart => exact ⟨1, 0, Nat.le_refl _, by omega, rfl, rfl, Int.le_refl _, by show (0 : Int) = _; rw [pv_start]; rfl⟩
  case round =>
    obtain ⟨k, a, hk1, hk, rfl, rfl, ha0, ha⟩ := hrel
    by_cases hlt : k < s.size
    · have hd := hS.out.dig k hlt hk1
      have hd1 : (48 : Int) ≤ (s[k].toNat : Int) := by omega
      have hd2 : (s[k].toNat : Int) ≤ 57 := by omega
      have hst : Hid ((pv s.data.toList 1 (k + 1) : Nat) = a * 10 + ((s[k].toNat : Int) - 48)) := by
        have := pv_step s.data.toList 1 k hk1 (by simpa using hlt)
        have e2 := ha.out
        rw [← getElem_toList s k hlt] at this
        show ((pv s.data.toList 1 (k + 1) : Nat) : Int) = _
        rw [this, e2]; omega
      have hbd : a * 10 + ((s[k].toNat : Int) - 48) ≤ 9223372036854775808 := by
        have := hst.out
        have h2 := pv_le s.data.toList 1 (k + 1)
        rw [hS.out.val] at h2
        have := hS.out.small
        omega
      clear hd
      go_wp2
      go_round
      case rel => exact ⟨k + 1, a * 10 + ((s[k].toNat : Int) - 48), by omega, by omega, by go_num, rfl, by omega, hst.out.symm⟩
      case measure => simp [intOf]; omega
    · have hks : k = s.size := by omega
      have hfin : a = (n : Int) := by
        rw [ha.out, hks, ← hS.out.val]
        have := pv_full s.data.toList 1 (by simp; omega)
        rw [show s.data.toList.length = s.size from by simp] at this
        rw [this]
      subst hfin
      clear hks
      go_wp2
      go_ret
      exact ⟨ret_bool (back n h0 h1), hb⟩
end Go.Proofs.Qxb6604555aDoor
