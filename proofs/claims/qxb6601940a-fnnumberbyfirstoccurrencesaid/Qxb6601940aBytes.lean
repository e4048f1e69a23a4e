import Derived.Test.Qxb6601940aNumD
import Derived.Test.Qxb6601940aPlainB
namespace Go.Proofs.Qxb6601940a
open Go.RowKit
set_option linter.unusedVariables false

set_option maxHeartbeats 400000 in
theorem bytes34_yes (a0 a1 a2 a3 a4 : Option Addr) (n0 c0 n1 c1 n2 c2 n3 c3 n4 c4 : Nat) (v : Int) (w : World) (h : n0 + n1 + n2 + n3 + n4 ≤ 1048576) :
    Calls Try.prog 34 #[.slice a0 n0 c0, .slice a1 n1 c1, .slice a2 n2 c2, .slice a3 n3 c3, .slice a4 n4 c4, .int .i64 v] w fun e w' => e = .returned (.bool true) ∧ w' = w := by
  go_enter Try.func34, Try.ntmps34
  go_wp2
  go_ret
  exact ⟨rfl, rfl⟩
set_option maxHeartbeats 400000 in
theorem bytes34_no (a0 a1 a2 a3 a4 : Option Addr) (n0 c0 n1 c1 n2 c2 n3 c3 n4 c4 : Nat) (v : Int) (w : World) (h : 1048576 < n0 + n1 + n2 + n3 + n4) :
    Calls Try.prog 34 #[.slice a0 n0 c0, .slice a1 n1 c1, .slice a2 n2 c2, .slice a3 n3 c3, .slice a4 n4 c4, .int .i64 v] w fun e w' => e = .returned (.bool false) ∧ w' = w := by
  go_enter Try.func34, Try.ntmps34
  go_wp2
  all_goals
    go_ret
    exact ⟨rfl, rfl⟩
set_option maxHeartbeats 400000 in
theorem bytes30_yes (a0 a1 a2 a3 a4 : Option Addr) (n0 c0 n1 c1 n2 c2 n3 c3 n4 c4 : Nat) (v : Int) (w : World) (h : n0 + n1 + n2 + n3 + n4 ≤ 1048576) :
    Calls Try.prog 30 #[.slice a0 n0 c0, .slice a1 n1 c1, .slice a2 n2 c2, .slice a3 n3 c3, .slice a4 n4 c4, .int .i64 v] w fun e w' => e = .returned (.bool true) ∧ w' = w := by
  go_enter Try.func30, Try.ntmps30
  go_wp2
  go_ret
  exact ⟨rfl, rfl⟩
set_option maxHeartbeats 400000 in
theorem bytes30_no (a0 a1 a2 a3 a4 : Option Addr) (n0 c0 n1 c1 n2 c2 n3 c3 n4 c4 : Nat) (v : Int) (w : World) (h : 1048576 < n0 + n1 + n2 + n3 + n4) :
    Calls Try.prog 30 #[.slice a0 n0 c0, .slice a1 n1 c1, .slice a2 n2 c2, .slice a3 n3 c3, .slice a4 n4 c4, .int .i64 v] w fun e w' => e = .returned (.bool false) ∧ w' = w := by
  go_enter Try.func30, Try.ntmps30
  go_wp2
  all_goals
    go_ret
    exact ⟨rfl, rfl⟩
set_option maxHeartbeats 400000 in
theorem bytes35_yes (a0 a1 a2 a3 a4 a5 : Option Addr) (n0 c0 n1 c1 n2 c2 n3 c3 n4 c4 n5 c5 : Nat) (v v2 : Int) (w : World) (h : n0 + n1 + n2 + n3 + n4 + n5 ≤ 1048576) :
    Calls Try.prog 35 #[.slice a0 n0 c0, .slice a1 n1 c1, .slice a2 n2 c2, .slice a3 n3 c3, .slice a4 n4 c4, .int .i64 v, .slice a5 n5 c5, .int .i64 v2] w fun e w' => e = .returned (.bool true) ∧ w' = w := by
  go_enter Try.func35, Try.ntmps35
  go_wp2
  go_ret
  exact ⟨rfl, rfl⟩
set_option maxHeartbeats 400000 in
theorem bytes35_no (a0 a1 a2 a3 a4 a5 : Option Addr) (n0 c0 n1 c1 n2 c2 n3 c3 n4 c4 n5 c5 : Nat) (v v2 : Int) (w : World) (h : 1048576 < n0 + n1 + n2 + n3 + n4 + n5) :
    Calls Try.prog 35 #[.slice a0 n0 c0, .slice a1 n1 c1, .slice a2 n2 c2, .slice a3 n3 c3, .slice a4 n4 c4, .int .i64 v, .slice a5 n5 c5, .int .i64 v2] w fun e w' => e = .returned (.bool false) ∧ w' = w := by
  go_enter Try.func35, Try.ntmps35
  go_wp2
  all_goals
    go_ret
    exact ⟨rfl, rfl⟩

end Go.Proofs.Qxb6601940a
