import Derived.Test.Qxb6603499aFmtRows
import Derived.WalkKit
import Derived.WalkSpells
import Derived.Deep.QuietTactic
import Derived.BigQuiet
namespace Go.Proofs.Qxb6603499aFmt
open Go.RowKit

/-- m / 32768 rounded half up, m not negative. -/
def drN (m : Int) : Int := if 32768 ≤ 2 * (m % 32768) then m / 32768 + 1 else m / 32768
/-- n / 32768 rounded half away from zero. -/
def dr (n : Int) : Int := if 0 ≤ n then drN n else -(drN (-n))

theorem ret_int {k : IntKind} {a b : Int} (h : a = b) : Ending.returned (.int k a) = .returned (.int k b) := by rw [h]

theorem below_drewN (w : World) (k : Nat) : Below w.heap.size w (w.drewN k) := ⟨rfl, rfl, rfl, Nat.le_refl _, fun _ _ => rfl⟩

set_option maxHeartbeats 400000 in
theorem div_pos (n : Int) (w : World) (h0 : 0 ≤ n) (h1 : n ≤ 10000000000000000) :
    Calls Tryf.prog 10 #[.int .i64 n, .int .i64 32768] w fun e w' => e = .returned (.int .i64 (dr n)) ∧ Below w.heap.size w w' := by
  go_enter Tryf.func10, Tryf.ntmps10
  go_wp2
  go_quiet (fail)
  go_wp2
  all_goals
    go_ret
    exact ⟨ret_int (by unfold dr drN; omega), below_drewN _ _⟩

set_option maxHeartbeats 400000 in
theorem div_neg (m : Int) (w : World) (h0 : 0 < m) (h1 : m ≤ 10000000000000000) :
    Calls Tryf.prog 10 #[.int .i64 (-m), .int .i64 32768] w fun e w' => e = .returned (.int .i64 (dr (-m))) ∧ Below w.heap.size w w' := by
  go_enter Tryf.func10, Tryf.ntmps10
  go_wp2
  go_quiet (fail)
  go_wp2
  all_goals
    go_ret
    exact ⟨ret_int (by rw [Int.tdiv_eq_ediv_of_nonneg (Int.le_of_lt h0)]; unfold dr drN wrap64; rw [Int.neg_neg]; omega), below_drewN _ _⟩

theorem div_any (n : Int) (w : World) (h0 : -10000000000000000 ≤ n) (h1 : n ≤ 10000000000000000) :
    Calls Tryf.prog 10 #[.int .i64 n, .int .i64 32768] w fun e w' => e = .returned (.int .i64 (dr n)) ∧ Below w.heap.size w w' := by
  by_cases h : 0 ≤ n
  · exact div_pos n w h h1
  · have := div_neg (-n) w (by omega) (by omega)
    rw [Int.neg_neg] at this
    exact this

/-- zzRoundHalfAway, as a plain function. -/
def rha (n d : Int) : Int := if 0 ≤ n then (2 * n + d) / (2 * d) else -((-2 * n + d) / (2 * d))

set_option maxHeartbeats 400000 in
theorem rha_2048 (n : Int) (w : World) (h0 : -1000000000000000 ≤ n) (h1 : n ≤ 1000000000000000) :
    Calls Tryf.prog 7 #[.int .i64 n, .int .i64 2048] w fun e w' => e = .returned (.int .i64 (rha n 2048)) ∧ w' = w := by
  go_enter Tryf.func7, Tryf.ntmps7
  go_wp2
  all_goals
    go_ret
    exact ⟨ret_int (by unfold rha; omega), rfl⟩

set_option maxHeartbeats 400000 in
theorem rha_1024 (n : Int) (w : World) (h0 : -1000000000000000 ≤ n) (h1 : n ≤ 1000000000000000) :
    Calls Tryf.prog 7 #[.int .i64 n, .int .i64 1024] w fun e w' => e = .returned (.int .i64 (rha n 1024)) ∧ w' = w := by
  go_enter Tryf.func7, Tryf.ntmps7
  go_wp2
  all_goals
    go_ret
    exact ⟨ret_int (by unfold rha; omega), rfl⟩

/-- "pt100", "pt1000". -/
def pt100 : ByteArray := ⟨#[112, 116, 49, 48, 48]⟩
def pt1000 : ByteArray := ⟨#[112, 116, 49, 48, 48, 48]⟩

set_option maxHeartbeats 400000 in
theorem ohms_100 (v : Int) (w : World) (h0 : -2147483648 ≤ v) (h1 : v ≤ 2147483647) :
    Calls Tryf.prog 6 #[.int .i32 v, .string pt100] w fun e w' => e = .returned (.tuple #[.int .i64 (dr (v * 390000)), .nilIface]) ∧ Below w.heap.size w w' := by
  have e : v * 390 * 1000 = v * 390000 := by omega
  unfold pt100
  go_enter Tryf.func6, Tryf.ntmps6
  go_wp2_with (first | (go_at_call 10; refine (div_any _ _ (by omega) (by omega)).mono ?_; rintro e w' ⟨rfl, hb⟩) | go_in)
  go_ret2
  exact ⟨rfl, hb⟩
set_option maxHeartbeats 400000 in
theorem ohms_1000 (v : Int) (w : World) (h0 : -2147483648 ≤ v) (h1 : v ≤ 2147483647) :
    Calls Tryf.prog 6 #[.int .i32 v, .string pt1000] w fun e w' => e = .returned (.tuple #[.int .i64 (dr (v * 3900000)), .nilIface]) ∧ Below w.heap.size w w' := by
  have e : v * 3900 * 1000 = v * 3900000 := by omega
  unfold pt1000
  go_enter Tryf.func6, Tryf.ntmps6
  go_wp2_with (first | (go_at_call 10; refine (div_any _ _ (by omega) (by omega)).mono ?_; rintro e w' ⟨rfl, hb⟩) | go_in)
  go_ret2
  exact ⟨rfl, hb⟩
end Go.Proofs.Qxb6603499aFmt
