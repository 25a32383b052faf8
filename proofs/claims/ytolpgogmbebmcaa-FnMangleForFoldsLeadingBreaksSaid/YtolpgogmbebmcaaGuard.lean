/-
  The contracts of the size guards of this seat; conditions: none but the case that each names.
-/
import Derived.Test.YtolpgogmbebmcaaShim2
namespace Go.Proofs.Ytolpgogmbebmcaa
open Go.RowKit

set_option maxHeartbeats 400000 in
theorem zz7_small (a r : Int) (A : Option Addr) (n cap : Nat) (h : Bool) (w : World) (hn : n ≤ 1048576) : Calls Try.prog 7 #[.int .i8 a, .slice A n cap, .bool h, .int .i8 r] w fun e w' => e = .returned (.bool true) ∧ w = w' := by
  go_enter Try.func7, Try.ntmps7
  go_wp2
  go_ret
  exact ⟨rfl, rfl⟩
set_option maxHeartbeats 400000 in
theorem zz7_large (a r : Int) (A : Option Addr) (n cap : Nat) (h : Bool) (w : World) (hn : 1048576 < n) : Calls Try.prog 7 #[.int .i8 a, .slice A n cap, .bool h, .int .i8 r] w fun e w' => e = .returned (.bool false) ∧ w = w' := by
  go_enter Try.func7, Try.ntmps7
  go_wp2
  go_ret
  exact ⟨rfl, rfl⟩
set_option maxHeartbeats 400000 in
theorem zz14_small (A : Option Addr) (n cap : Nat) (w : World) (hn : n ≤ 1048576) : Calls Try.prog 14 #[.slice A n cap] w fun e w' => e = .returned (.bool true) ∧ w = w' := by
  go_enter Try.func14, Try.ntmps14
  go_wp2
  go_ret
  exact ⟨rfl, rfl⟩
set_option maxHeartbeats 400000 in
theorem zz14_large (A : Option Addr) (n cap : Nat) (w : World) (hn : 1048576 < n) : Calls Try.prog 14 #[.slice A n cap] w fun e w' => e = .returned (.bool false) ∧ w = w' := by
  go_enter Try.func14, Try.ntmps14
  go_wp2
  go_ret
  exact ⟨rfl, rfl⟩

end Go.Proofs.Ytolpgogmbebmcaa
