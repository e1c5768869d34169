import Derived.Test.Qxb6613719aDoorMem
namespace Go.Proofs.Qxb6613719aDoor
open Go.RowKit
set_option maxHeartbeats 2000000 in
theorem bytes5_any (a0 a3 a4 a5 a6 a7 : Option Addr) (n0 n3 n4 n5 n6 n7 c0 c3 c4 c5 c6 c7 : Nat) (v1 v2 v8 v9 : Value) (w : World) :
    Calls Tryd.prog 5 #[.slice a0 n0 c0, v1, v2, .slice a3 n3 c3, .slice a4 n4 c4, .slice a5 n5 c5, .slice a6 n6 c6, .slice a7 n7 c7, v8, v9] w fun e w' => ∃ r, e = .returned (.bool r) ∧ w' = w := by
  go_enter Tryd.func5, Tryd.ntmps5
  go_wp2
  all_goals
    go_ret
    exact ⟨_, rfl, rfl⟩
set_option maxHeartbeats 2000000 in
theorem bytes14_any (a0 a3 a4 a5 a6 a7 : Option Addr) (n0 n3 n4 n5 n6 n7 c0 c3 c4 c5 c6 c7 : Nat) (v1 v2 v8 v9 v10 v11 : Value) (w : World) :
    Calls Tryd.prog 14 #[.slice a0 n0 c0, v1, v2, .slice a3 n3 c3, .slice a4 n4 c4, .slice a5 n5 c5, .slice a6 n6 c6, .slice a7 n7 c7, v8, v9, v10, v11] w fun e w' => ∃ r, e = .returned (.bool r) ∧ w' = w := by
  go_enter Tryd.func14, Tryd.ntmps14
  go_wp2
  all_goals
    go_ret
    exact ⟨_, rfl, rfl⟩
end Go.Proofs.Qxb6613719aDoor
