import Derived.Test.Qxb6603499aFmtSteps
import Derived.Stop.CallBack
import Derived.Stop.IfaceNil
import Derived.WalkSpells
import GoSem.ClaimData
namespace Go.Proofs.Qxb6603499aFmt
open Go.RowKit Go.Extern.Stop Go.Stop Go.Extern

theorem call13 (args : Array Value) (w : World) : (callFunc 13 args).run Tryf.prog w = ((FmtStop.errorf #[9, 34] #[25] args).run Tryf.prog w).andThen fun v w' => .ok (.value v) w' :=
  run_callFunc_extern Tryf.func13 (by kernel_rfl) (by kernel_rfl) (by kernel_rfl) (by kernel_rfl) args w
theorem fguard (name : String) (w : World) : (FmtStop.guard name).run Tryf.prog w = .ok () w := by kernel_rfl
theorem fmt0r (w : World) : (FmtDoors.printed ⟨#[117, 110, 107, 110, 111, 119, 110, 32, 115, 101, 110, 115, 111, 114, 32, 37, 113, 58, 32, 119, 97, 110, 116, 32, 37, 115, 32, 111, 114, 32, 37, 115]⟩ 3).run Tryf.prog w = .ok [(0, 113, false), (1, 115, false), (2, 115, false)] w := by kernel_rfl
theorem fmt0 : FmtStop.printed? ⟨#[117, 110, 107, 110, 111, 119, 110, 32, 115, 101, 110, 115, 111, 114, 32, 37, 113, 58, 32, 119, 97, 110, 116, 32, 37, 115, 32, 111, 114, 32, 37, 115]⟩ 3 = some [(0, 113, false), (1, 115, false), (2, 115, false)] := by kernel_rfl
def shape9 : List UInt8 := [12, 6, 0, 0, 0, 0, 0, 0, 0, 115, 116, 114, 105, 110, 103]
theorem op9_113w (name : String) (x : ByteArray) (w : World) : (FmtStop.operand name true 113 false (.iface 9 (.string x))).run Tryf.prog w = .ok (shape9, FmtStop.pack x.data.toList) w := by kernel_rfl
theorem op9_113 (name : String) (x : ByteArray) (w : World) : (FmtStop.operand name false 113 false (.iface 9 (.string x))).run Tryf.prog w = .ok (shape9, FmtStop.pack x.data.toList) w := by kernel_rfl
def shape29 : List UInt8 := 12 :: FmtStop.pack "steadyrtd.Sensor".toUTF8.data.toList
theorem op29_115 (name : String) (x : ByteArray) (w : World) : (FmtStop.operand name false 115 false (.iface 29 (.string x))).run Tryf.prog w = .ok (shape29, FmtStop.pack x.data.toList) w := by kernel_rfl
theorem op29_115w (name : String) (x : ByteArray) (w : World) : (FmtStop.operand name true 115 false (.iface 29 (.string x))).run Tryf.prog w = .ok (shape29, FmtStop.pack x.data.toList) w := by kernel_rfl
theorem ptr37 (w : World) : (FmtStop.ptrTo "errors.errorString").run Tryf.prog w = .ok 37 w := by kernel_rfl
theorem elem37 (w : World) : (elemOf 37).run Tryf.prog w = .ok 39 w := by kernel_rfl

set_option maxHeartbeats 400000 in
theorem check_bad (F : Interp) (s : ByteArray) (w : World) (hF : F.answers w.tape) (n1 : (s.toList == [112, 116, 49, 48, 48]) = false) (n2 : (s.toList == [112, 116, 49, 48, 48, 48]) = false) :
    Calls Tryf.prog 9 #[.string s] w fun e w' => (∃ a, e = .returned (.iface 37 (.pointer (some a)))) ∧ Below w.heap.size w w' := by
  have hF' := answers_open hF
  have f1 := call13
  have f2 := fguard
  have f3 := fmt0r
  have f4 := op9_113w
  have f5 := op29_115w
  have f6 := ptr37
  have f7 := elem37
  have f8 := op9_113
  have f9 := op29_115
  go_enter Tryf.func9, Tryf.ntmps9
  go_wp2
  go_ret
  exact ⟨⟨_, rfl⟩, by repeat (first | exact Below.refl _ _ | refine Below.drew ?_ | refine Below.alloc ?_ (by simp; try omega) _)⟩

set_option maxHeartbeats 400000 in
theorem ohms_bad (F : Interp) (v : Int) (s : ByteArray) (w : World) (hF : F.answers w.tape) (n1 : (s.toList == [112, 116, 49, 48, 48]) = false) (n2 : (s.toList == [112, 116, 49, 48, 48, 48]) = false) :
    Calls Tryf.prog 6 #[.int .i32 v, .string s] w fun e w' => (∃ a, e = .returned (.tuple #[.int .i64 0, .iface 37 (.pointer (some a))])) ∧ Below w.heap.size w w' := by
  go_enter Tryf.func6, Tryf.ntmps6
  go_wp2_with fail
  refine (check_bad F s _ hF n1 n2).mono ?_
  rintro e w1 ⟨⟨a, rfl⟩, hb⟩
  go_wp2
  go_ret2
  exact ⟨⟨a, rfl⟩, hb⟩

theorem frac100 (v : Int) : dr (v * 390000) = rha (v * 24375) 2048 := by unfold dr drN rha; omega
theorem frac1000 (v : Int) : dr (v * 3900000) = rha (v * 121875) 1024 := by unfold dr drN rha; omega

set_option maxHeartbeats 400000 in
theorem law3_other (F : Interp) (v : Int) (s : ByteArray) (w : World) (hF : F.answers w.tape) (hs : s.size ≤ maxLen) (n1 : (s.toList == [112, 116, 49, 48, 48]) = false) (n2 : (s.toList == [112, 116, 49, 48, 48, 48]) = false) :
    Calls Tryf.prog 3 #[.int .i32 v, .string s] w fun e w' => e = .returned (.bool true) ∧ Below w.heap.size w w' := by
  unfold maxLen at hs
  by_cases hb : (s.size : Int) ≤ 1048576
  · go_enter Tryf.func3, Tryf.ntmps3
    go_wp2_with (first | (go_at_call 5; go_in))
    refine (ohms_bad F v s _ hF n1 n2).mono ?_
    rintro e w1 ⟨⟨a, rfl⟩, hb⟩
    go_wp2
    go_ret
    exact ⟨rfl, hb⟩
  · have hb' : (1048576 : Int) < s.size := by omega
    go_enter Tryf.func3, Tryf.ntmps3
    go_wp2
    go_ret
    exact ⟨rfl, Below.refl _ _⟩

set_option maxHeartbeats 400000 in
theorem law3_100 (v : Int) (w : World) (h0 : -2147483648 ≤ v) (h1 : v ≤ 2147483647) :
    Calls Tryf.prog 3 #[.int .i32 v, .string pt100] w fun e w' => e = .returned (.bool true) ∧ Below w.heap.size w w' := by
  have HP : Hid (pt100 = ⟨#[112, 116, 49, 48, 48]⟩) := rfl
  rw [HP.out]
  go_enter Tryf.func3, Tryf.ntmps3
  go_wp2_with (first | (go_at_call 5; go_in))
  refine (ohms_100 v _ (by omega) (by omega)).mono ?_
  rintro e wa ⟨rfl, hba⟩
  rw [frac100]
  go_wp2_with fail
  refine (rha_2048 (v * 24375) _ (by omega) (by omega)).mono ?_
  rintro e wb ⟨rfl, rfl⟩
  go_wp2
  go_ret
  exact ⟨ret_bool (by simp), hba⟩

set_option maxHeartbeats 400000 in
theorem law3_1000 (v : Int) (w : World) (h0 : -2147483648 ≤ v) (h1 : v ≤ 2147483647) :
    Calls Tryf.prog 3 #[.int .i32 v, .string pt1000] w fun e w' => e = .returned (.bool true) ∧ Below w.heap.size w w' := by
  have HP : Hid (pt1000 = ⟨#[112, 116, 49, 48, 48, 48]⟩) := rfl
  rw [HP.out]
  go_enter Tryf.func3, Tryf.ntmps3
  go_wp2_with (first | (go_at_call 5; go_in))
  refine (ohms_1000 v _ (by omega) (by omega)).mono ?_
  rintro e wa ⟨rfl, hba⟩
  rw [frac1000]
  go_wp2_with fail
  refine (rha_1024 (v * 121875) _ (by omega) (by omega)).mono ?_
  rintro e wb ⟨rfl, rfl⟩
  go_wp2
  go_ret
  exact ⟨ret_bool (by simp), hba⟩

theorem law3 (F : Interp) (v : Int) (s : ByteArray) (w : World) (hF : F.answers w.tape) (h0 : -2147483648 ≤ v) (h1 : v ≤ 2147483647) (hs : s.size ≤ maxLen) :
    Calls Tryf.prog 3 #[.int .i32 v, .string s] w fun e w' => e = .returned (.bool true) ∧ Below w.heap.size w w' := by
  by_cases e1 : s = pt100
  · subst e1; exact law3_100 v w h0 h1
  · by_cases e2 : s = pt1000
    · subst e2; exact law3_1000 v w h0 h1
    · exact law3_other F v s w hF hs (list_ne s _ e1) (list_ne s _ e2)
end Go.Proofs.Qxb6603499aFmt
