import Derived.Test.Qxb6604517aDoorL4Dot
import Derived.Test.Qxb6604517aDoorL4Ip
import Derived.Test.Qxb6604517aDoorL4Col
import Derived.Test.Qxb6604517aDoorL4Cole
import Derived.Test.Qxb6604517aDoorL4Coln
import Derived.Test.Qxb6604517aDoorL4Dec
namespace Go.Proofs.Qxb6604517aDoor
open Go.RowKit

set_option maxHeartbeats 3200000 in
theorem law4_far (a a' : Option Addr) (n cap n' cap' : Nat) (A : Int) (w : World) (hn : n ≤ 9223372036854775807) (hn' : n' ≤ 9223372036854775807) (h : 524288 < n ∨ 524288 < n') :
    Calls Tryd.prog 4 #[.slice a n cap, .int .u8 A, .slice a' n' cap'] w fun e w' => e = .returned (.bool true) ∧ w' = w := by
  by_cases h1 : 1048576 < n
  · clear h
    go_enter Tryd.func4, Tryd.ntmps4
    go_wp2
    go_ret
    exact ⟨rfl, rfl⟩
  · by_cases h2 : 1048576 < n'
    · clear h
      go_enter Tryd.func4, Tryd.ntmps4
      go_wp2
      go_ret
      exact ⟨rfl, rfl⟩
    · by_cases h3 : 1048576 < n + n'
      · have h3i : 1048576 < (n : Int) + (n' : Int) := by omega
        clear h
        go_enter Tryd.func4, Tryd.ntmps4
        go_wp2
        go_ret
        exact ⟨rfl, rfl⟩
      · have h3i : (n : Int) + (n' : Int) ≤ 1048576 := by omega
        by_cases h4 : 524288 < n
        · clear h
          go_enter Tryd.func4, Tryd.ntmps4
          go_wp2
          go_ret
          exact ⟨rfl, rfl⟩
        · have h5 : 524288 < n' := by omega
          clear h
          go_enter Tryd.func4, Tryd.ntmps4
          go_wp2
          go_ret
          exact ⟨rfl, rfl⟩

theorem law4_near (v x : Value) (l t : List UInt8) (A : Int) (w : World) (a4 a6 : Addr) (hz : Zs w.heap.size w a4 a6) (hv : Rd w.heap.size w v l) (hx : Rd w.heap.size w x t) (hl : l.length ≤ 524288) (ht : t.length ≤ 524288)
    (htab : Lib.TabIs Tryd.prog w powName .u64 Lib.pow10Tab) :
    Calls Tryd.prog 4 #[v, .int .u8 A, x] w fun e w' => e = .returned (.bool true) ∧ Below w.heap.size w w' := by
  by_cases h8 : A = 8
  · subst h8
    by_cases t4 : t.length = 4
    · exact law4_dot8 v x l t w a4 a6 hz hv hx hl ht htab t4
    · by_cases t16 : t.length = 16
      · exact law4_ip8 v x l t w a4 a6 hz hv hx hl ht htab t16
      · exact law4_dec8 v x l t w a4 a6 hz hv hx hl ht htab ⟨t4, t16⟩
  · by_cases h9 : A = 9
    · subst h9
      by_cases t4 : t.length = 4
      · exact law4_dot9 v x l t w a4 a6 hz hv hx hl ht htab t4
      · by_cases t16 : t.length = 16
        · exact law4_ip9 v x l t w a4 a6 hz hv hx hl ht htab t16
        · exact law4_dec9 v x l t w a4 a6 hz hv hx hl ht htab ⟨t4, t16⟩
    · by_cases h4 : A = 4
      · subst h4
        rcases Nat.eq_zero_or_pos t.length with t0 | t1
        · rcases Nat.eq_zero_or_pos l.length with l0 | l1
          · exact law4_coln4 v x l t w a4 a6 hz hv hx hl ht htab t0 l0
          · exact law4_cole4 v x l t w a4 a6 hz hv hx hl ht htab t0 l1
        · exact law4_col4 v x l t w a4 a6 hz hv hx hl ht htab t1
      · by_cases h5 : A = 5
        · subst h5
          rcases Nat.eq_zero_or_pos t.length with t0 | t1
          · rcases Nat.eq_zero_or_pos l.length with l0 | l1
            · exact law4_coln5 v x l t w a4 a6 hz hv hx hl ht htab t0 l0
            · exact law4_cole5 v x l t w a4 a6 hz hv hx hl ht htab t0 l1
          · exact law4_col5 v x l t w a4 a6 hz hv hx hl ht htab t1
        · exact law4_dec v x l t A w a4 a6 hz hv hx hl ht htab ⟨h8, h9, h4, h5⟩

theorem law4 (a : Option Addr) (l : List UInt8) (cap : Nat) (A : Int) (a' : Option Addr) (t : List UInt8) (cap' : Nat) (w : World) (a4 a6 : Addr) (hz : Zs w.heap.size w a4 a6) (hv : Rd w.heap.size w (.slice a l.length cap) l) (hx : Rd w.heap.size w (.slice a' t.length cap') t) (hm : l.length ≤ maxLen) (hm' : t.length ≤ maxLen)
    (htab : Lib.TabIs Tryd.prog w powName .u64 Lib.pow10Tab) :
    Calls Tryd.prog 4 #[.slice a l.length cap, .int .u8 A, .slice a' t.length cap'] w fun e w' => e = .returned (.bool true) ∧ Below w.heap.size w w' := by
  unfold maxLen at hm hm'
  by_cases h : 524288 < l.length ∨ 524288 < t.length
  · refine (law4_far a a' l.length cap t.length cap' A w (by omega) (by omega) h).mono ?_
    rintro e w' ⟨rfl, rfl⟩
    exact ⟨rfl, Below.refl _ _⟩
  · exact law4_near _ _ l t A w a4 a6 hz hv hx (by omega) (by omega) htab
end Go.Proofs.Qxb6604517aDoor
