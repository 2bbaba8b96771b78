import Derived.Test.Qxb6603499aFmtOhms
import Derived.Lib.Hide
namespace Go.Proofs.Qxb6603499aFmt
open Go.RowKit

theorem step100 (v : Int) : 11 ≤ dr ((v + 1) * 390000) - dr (v * 390000) ∧ dr ((v + 1) * 390000) - dr (v * 390000) ≤ 12 := by
  unfold dr drN; omega
theorem step1000 (v : Int) : 119 ≤ dr ((v + 1) * 3900000) - dr (v * 3900000) ∧ dr ((v + 1) * 3900000) - dr (v * 3900000) ≤ 120 := by
  unfold dr drN; omega
theorem odd_dr (n : Int) : dr (-n) = - dr n := by
  unfold dr
  rcases Int.lt_trichotomy n 0 with h | rfl | h
  · rw [if_pos (by omega), if_neg (by omega)]; omega
  · rfl
  · rw [if_neg (by omega), if_pos (by omega), Int.neg_neg]
theorem dr_bound (n : Int) (h0 : -10000000000000000 ≤ n) (h1 : n ≤ 10000000000000000) : -10000000000000000 ≤ dr n ∧ dr n ≤ 10000000000000000 := by
  unfold dr drN; omega

theorem ret_bool {a b : Bool} (h : a = b) : Ending.returned (.bool a) = .returned (.bool b) := by rw [h]

set_option maxHeartbeats 400000 in
theorem law4_other (v : Int) (s : ByteArray) (w : World) (hs : s.size ≤ maxLen) (n1 : (s.toList == [112, 116, 49, 48, 48]) = false) (n2 : (s.toList == [112, 116, 49, 48, 48, 48]) = false) :
    Calls Tryf.prog 4 #[.int .i32 v, .string s] w fun e w' => e = .returned (.bool true) ∧ Below w.heap.size w w' := by
  unfold maxLen at hs
  go_enter Tryf.func4, Tryf.ntmps4
  go_wp2
  all_goals
    go_ret
    exact ⟨rfl, Below.refl _ _⟩

set_option maxHeartbeats 400000 in
theorem law4_edge (v : Int) (s : ByteArray) (w : World) (he : v = -2147483648 ∨ v = 2147483647) (hs : s.size ≤ 10) :
    Calls Tryf.prog 4 #[.int .i32 v, .string s] w fun e w' => e = .returned (.bool true) ∧ Below w.heap.size w w' := by
  rcases he with rfl | rfl
  all_goals
    go_enter Tryf.func4, Tryf.ntmps4
    go_wp2
    all_goals
      go_ret
      exact ⟨rfl, Below.refl _ _⟩

set_option maxHeartbeats 400000 in
theorem law4_100 (v : Int) (w : World) (h0 : -2147483648 < v) (h1 : v < 2147483647) :
    Calls Tryf.prog 4 #[.int .i32 v, .string pt100] w fun e w' => e = .returned (.bool true) ∧ Below w.heap.size w w' := by
  have e1 : (v == -2147483648) = false := beq_eq_false_iff_ne.2 (by omega)
  have e2 : (v == 2147483647) = false := beq_eq_false_iff_ne.2 (by omega)
  have HP : Hid (pt100 = ⟨#[112, 116, 49, 48, 48]⟩) := rfl
  rw [HP.out]
  go_enter Tryf.func4, Tryf.ntmps4
  go_wp2_with (first | (go_at_call 8; go_in))
  refine (ohms_100 v _ (by omega) (by omega)).mono ?_
  rintro e wa ⟨rfl, hba⟩
  go_wp2_with fail
  refine (ohms_100 (v + 1) _ (by omega) (by omega)).mono ?_
  rintro e wb ⟨rfl, hbb⟩
  go_wp2_with fail
  refine (ohms_100 (-v) _ (by omega) (by omega)).mono ?_
  rintro e wc ⟨rfl, hbc⟩
  have hst := step100 v
  have hod : dr (-v * 390000) = - dr (v * 390000) := by rw [← odd_dr]; congr 1; omega
  have hb1 := dr_bound (v * 390000) (by omega) (by omega)
  have hb2 := dr_bound ((v + 1) * 390000) (by omega) (by omega)
  generalize dr (v * 390000) = A at *
  generalize dr ((v + 1) * 390000) = B at *
  obtain ⟨s1, s2⟩ := hst
  obtain ⟨p1, p2⟩ := hb1
  obtain ⟨q1, q2⟩ := hb2
  go_wp2
  go_ret
  exact ⟨rfl, (hba.trans (hbb.mono hba.size)).trans (hbc.mono (Nat.le_trans hba.size hbb.size))⟩
set_option maxHeartbeats 400000 in
theorem law4_1000 (v : Int) (w : World) (h0 : -2147483648 < v) (h1 : v < 2147483647) :
    Calls Tryf.prog 4 #[.int .i32 v, .string pt1000] w fun e w' => e = .returned (.bool true) ∧ Below w.heap.size w w' := by
  have e1 : (v == -2147483648) = false := beq_eq_false_iff_ne.2 (by omega)
  have e2 : (v == 2147483647) = false := beq_eq_false_iff_ne.2 (by omega)
  have HP : Hid (pt1000 = ⟨#[112, 116, 49, 48, 48, 48]⟩) := rfl
  rw [HP.out]
  go_enter Tryf.func4, Tryf.ntmps4
  go_wp2_with (first | (go_at_call 8; go_in))
  refine (ohms_1000 v _ (by omega) (by omega)).mono ?_
  rintro e wa ⟨rfl, hba⟩
  go_wp2_with fail
  refine (ohms_1000 (v + 1) _ (by omega) (by omega)).mono ?_
  rintro e wb ⟨rfl, hbb⟩
  go_wp2_with fail
  refine (ohms_1000 (-v) _ (by omega) (by omega)).mono ?_
  rintro e wc ⟨rfl, hbc⟩
  have hst := step1000 v
  have hod : dr (-v * 3900000) = - dr (v * 3900000) := by rw [← odd_dr]; congr 1; omega
  have hb1 := dr_bound (v * 3900000) (by omega) (by omega)
  have hb2 := dr_bound ((v + 1) * 3900000) (by omega) (by omega)
  generalize dr (v * 3900000) = A at *
  generalize dr ((v + 1) * 3900000) = B at *
  obtain ⟨s1, s2⟩ := hst
  obtain ⟨p1, p2⟩ := hb1
  obtain ⟨q1, q2⟩ := hb2
  go_wp2
  go_ret
  exact ⟨rfl, (hba.trans (hbb.mono hba.size)).trans (hbc.mono (Nat.le_trans hba.size hbb.size))⟩

theorem list_ne (s : ByteArray) (l : List UInt8) (h : s ≠ ⟨l.toArray⟩) : (s.toList == l) = false := by
  refine beq_eq_false_iff_ne.2 fun e => h ?_
  rw [← e]
  cases s
  simp [ByteArray.toList_eq]

theorem law4 (v : Int) (s : ByteArray) (w : World) (h0 : -2147483648 ≤ v) (h1 : v ≤ 2147483647) (hs : s.size ≤ maxLen) :
    Calls Tryf.prog 4 #[.int .i32 v, .string s] w fun e w' => e = .returned (.bool true) ∧ Below w.heap.size w w' := by
  by_cases e1 : s = pt100
  · subst e1
    by_cases hv : v = -2147483648 ∨ v = 2147483647
    · exact law4_edge v _ w hv (by decide)
    · exact law4_100 v w (by omega) (by omega)
  · by_cases e2 : s = pt1000
    · subst e2
      by_cases hv : v = -2147483648 ∨ v = 2147483647
      · exact law4_edge v _ w hv (by decide)
      · exact law4_1000 v w (by omega) (by omega)
    · exact law4_other v s w hs (list_ne s _ e1) (list_ne s _ e2)
end Go.Proofs.Qxb6603499aFmt
