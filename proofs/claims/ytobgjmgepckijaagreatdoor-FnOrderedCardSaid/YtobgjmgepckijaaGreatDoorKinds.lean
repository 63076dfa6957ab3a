/- spec.IsALU, spec.IsJump, walked; and what FnWord asks of each code: plain, by reckoning. -/
import Derived.Test.YtobgjmgepckijaaGreatDoorSay
import Derived.Outline
namespace Go.Proofs.YtobgjmgepckijaaGreatDoor
open Go.RowKit
set_option linter.unusedVariables false
set_option linter.unusedSimpArgs false
def kALU (a : Int) : Bool := bits .and .i64 a 7 == 4 || bits .and .i64 a 7 == 7
set_option maxHeartbeats 4000000 in
set_option maxRecDepth 100000 in
theorem kALU_any (a : Int) (b : Bool) (h : kALU a = b) (w : World) : Calls Tryz.prog 52 #[.int .i64 a] w fun e w' => e = .returned (.bool b) ∧ w = w' := by
  subst h
  unfold kALU
  cases h1 : (bits .and .i64 a 7 == 4) <;> cases h2 : (bits .and .i64 a 7 == 7)
  all_goals
    go_enter Tryz.func52, Tryz.ntmps52
    go_wp2
    go_ret
    exact ⟨rfl, rfl⟩
def kJump (a : Int) : Bool := bits .and .i64 a 7 == 5 || bits .and .i64 a 7 == 6
set_option maxHeartbeats 4000000 in
set_option maxRecDepth 100000 in
theorem kJump_any (a : Int) (b : Bool) (h : kJump a = b) (w : World) : Calls Tryz.prog 51 #[.int .i64 a] w fun e w' => e = .returned (.bool b) ∧ w = w' := by
  subst h
  unfold kJump
  cases h1 : (bits .and .i64 a 7 == 5) <;> cases h2 : (bits .and .i64 a 7 == 6)
  all_goals
    go_enter Tryz.func51, Tryz.ntmps51
    go_wp2
    go_ret
    exact ⟨rfl, rfl⟩
end Go.Proofs.YtobgjmgepckijaaGreatDoor
