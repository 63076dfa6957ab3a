/- More small functions over codes and constants, each by a contract. -/
import Derived.Test.YtobgjmgepckijaaDoorOps
import Derived.Test.YtobgjmgepckijaaDoorBelow
import Derived.Outline
namespace Go.Proofs.YtobgjmgepckijaaDoor
open Go.RowKit
set_option linter.unusedVariables false
set_option linter.unusedSimpArgs false
set_option maxHeartbeats 4000000 in
set_option maxRecDepth 100000 in
theorem isALU_any (c : Int) (w : World) : Calls Tryd.prog 51 #[.int .u8 c] w fun e w' => e = .returned (.bool (cALU c)) ∧ w = w' := by
  by_cases h0 : c = 4
  · subst h0; go_enter Tryd.func51, Tryd.ntmps51; go_wp2; go_ret; exact ⟨rfl, rfl⟩
  by_cases h1 : c = 7
  · subst h1; go_enter Tryd.func51, Tryd.ntmps51; go_wp2; go_ret; exact ⟨rfl, rfl⟩
  have e0 : (c == 4) = false := by simpa using h0
  have e1 : (c == 7) = false := by simpa using h1
  have hh : cALU c = false := by simp [cALU, e0, e1]
  rw [hh]
  clear h0 h1 hh
  go_enter Tryd.func51, Tryd.ntmps51
  go_wp2
  go_ret
  exact ⟨rfl, rfl⟩
def oALU (a : Int) : Int := if cALU (oClass a) = true then bits .and .u32 a 16368 % 65536 else 65535
set_option maxHeartbeats 4000000 in
set_option maxRecDepth 100000 in
theorem ALUOp_any (a : Int) (w : World) : Calls Tryd.prog 52 #[.int .u32 a] w fun e w' => e = .returned (.int .u16 (oALU a)) ∧ w = w' := by
  unfold oALU
  cases h : cALU (oClass a)
  all_goals
    go_enter Tryd.func52, Tryd.ntmps52
    go_wp2_with (first | (go_at_call 44; refine (Class_any _ _).mono ?_; rintro e w' ⟨rfl, rfl⟩) | (go_at_call 51; refine (isALU_any _ _).mono ?_; rintro e w' ⟨rfl, rfl⟩))
    go_ret
    exact ⟨rfl, rfl⟩
set_option maxHeartbeats 4000000 in
set_option maxRecDepth 100000 in
theorem valid_alu (m : Int) (w : World) (hv : bits .and .u32 m 4294950927 = 0) : Calls Tryd.prog 91 #[.int .u32 m, .int .u32 16368] w fun e w' => e = .returned (.bool true) ∧ w = w' := by
  have hx : bits .xor .u32 IntKind.u32.max 16368 = 4294950927 := by decide
  go_enter Tryd.func91, Tryd.ntmps91
  go_wp2
  go_ret
  exact ⟨by simp [hx, hv], rfl⟩
def oSetALU (a m : Int) : Int := bits .or .u32 (bits .and .u32 a 4294950927) m
set_option maxHeartbeats 4000000 in
set_option maxRecDepth 100000 in
theorem SetALUOp_any (a m : Int) (w : World) (m0 : 0 ≤ m) (m1 : m < 65536) (hv : bits .and .u32 m 4294950927 = 0) (h : cALU (oClass a) = true) :
    Calls Tryd.prog 78 #[.int .u32 a, .int .u16 m] w fun e w' => e = .returned (.int .u32 (oSetALU a m)) ∧ w = w' := by
  have HV := Lib.hid hv
  clear hv
  go_enter Tryd.func78, Tryd.ntmps78
  go_wp2_with (first | (go_at_call 44; refine (Class_any _ _).mono ?_; rintro e w' ⟨rfl, rfl⟩) | (go_at_call 51; refine (isALU_any _ _).mono ?_; rintro e w' ⟨rfl, rfl⟩) | (go_at_call 91; refine (valid_alu _ _ HV.out).mono ?_; rintro e w' ⟨rfl, rfl⟩))
  go_ret
  exact ⟨rfl, rfl⟩
end Go.Proofs.YtobgjmgepckijaaDoor
