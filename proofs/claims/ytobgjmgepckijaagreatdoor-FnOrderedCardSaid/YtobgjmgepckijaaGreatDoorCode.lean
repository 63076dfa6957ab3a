/- More small functions over codes and constants, each by a contract. -/
import Derived.Test.YtobgjmgepckijaaGreatDoorOps
import Derived.Test.YtobgjmgepckijaaGreatDoorBelow
import Derived.Outline
namespace Go.Proofs.YtobgjmgepckijaaGreatDoor
open Go.RowKit
set_option linter.unusedVariables false
set_option linter.unusedSimpArgs false
set_option maxHeartbeats 4000000 in
set_option maxRecDepth 100000 in
theorem isALU_any (c : Int) (w : World) : Calls Tryz.prog 74 #[.int .u8 c] w fun e w' => e = .returned (.bool (cALU c)) ∧ w = w' := by
  by_cases h0 : c = 4
  · subst h0; go_enter Tryz.func74, Tryz.ntmps74; go_wp2; go_ret; exact ⟨rfl, rfl⟩
  by_cases h1 : c = 7
  · subst h1; go_enter Tryz.func74, Tryz.ntmps74; go_wp2; go_ret; exact ⟨rfl, rfl⟩
  have e0 : (c == 4) = false := by simpa using h0
  have e1 : (c == 7) = false := by simpa using h1
  have hh : cALU c = false := by simp [cALU, e0, e1]
  rw [hh]
  clear h0 h1 hh
  go_enter Tryz.func74, Tryz.ntmps74
  go_wp2
  go_ret
  exact ⟨rfl, rfl⟩
def oALU (a : Int) : Int := if cALU (oClass a) = true then bits .and .u32 a 16368 % 65536 else 65535
set_option maxHeartbeats 4000000 in
set_option maxRecDepth 100000 in
theorem ALUOp_any (a : Int) (w : World) : Calls Tryz.prog 75 #[.int .u32 a] w fun e w' => e = .returned (.int .u16 (oALU a)) ∧ w = w' := by
  unfold oALU
  cases h : cALU (oClass a)
  all_goals
    go_enter Tryz.func75, Tryz.ntmps75
    go_wp2_with (first | (go_at_call 63; refine (Class_any _ _).mono ?_; rintro e w' ⟨rfl, rfl⟩) | (go_at_call 74; refine (isALU_any _ _).mono ?_; rintro e w' ⟨rfl, rfl⟩))
    go_ret
    exact ⟨rfl, rfl⟩
set_option maxHeartbeats 4000000 in
set_option maxRecDepth 100000 in
theorem valid_alu (m : Int) (w : World) (hv : bits .and .u32 m 4294950927 = 0) : Calls Tryz.prog 125 #[.int .u32 m, .int .u32 16368] w fun e w' => e = .returned (.bool true) ∧ w = w' := by
  have hx : bits .xor .u32 IntKind.u32.max 16368 = 4294950927 := by decide
  go_enter Tryz.func125, Tryz.ntmps125
  go_wp2
  go_ret
  exact ⟨by simp [hx, hv], rfl⟩
def oSetALU (a m : Int) : Int := bits .or .u32 (bits .and .u32 a 4294950927) m
set_option maxHeartbeats 4000000 in
set_option maxRecDepth 100000 in
theorem SetALUOp_any (a m : Int) (w : World) (m0 : 0 ≤ m) (m1 : m < 65536) (hv : bits .and .u32 m 4294950927 = 0) (h : cALU (oClass a) = true) :
    Calls Tryz.prog 99 #[.int .u32 a, .int .u16 m] w fun e w' => e = .returned (.int .u32 (oSetALU a m)) ∧ w = w' := by
  have HV := Lib.hid hv
  clear hv
  go_enter Tryz.func99, Tryz.ntmps99
  go_wp2_with (first | (go_at_call 63; refine (Class_any _ _).mono ?_; rintro e w' ⟨rfl, rfl⟩) | (go_at_call 74; refine (isALU_any _ _).mono ?_; rintro e w' ⟨rfl, rfl⟩) | (go_at_call 125; refine (valid_alu _ _ HV.out).mono ?_; rintro e w' ⟨rfl, rfl⟩))
  go_ret
  exact ⟨rfl, rfl⟩
set_option maxHeartbeats 4000000 in
set_option maxRecDepth 100000 in
theorem valid_byte (m : Int) (w : World) (hv : bits .and .u32 m 4294967040 = 0) : Calls Tryz.prog 125 #[.int .u32 m, .int .u32 255] w fun e w' => e = .returned (.bool true) ∧ w = w' := by
  have hx : bits .xor .u32 IntKind.u32.max 255 = 4294967040 := by decide
  go_enter Tryz.func125, Tryz.ntmps125
  go_wp2
  go_ret
  exact ⟨by simp [hx, hv], rfl⟩
set_option maxHeartbeats 4000000 in
set_option maxRecDepth 100000 in
theorem bpfOpCode_any (a : Int) (w : World) (hv : bits .and .u32 a 4294967040 = 0) : Calls Tryz.prog 100 #[.int .u32 a] w fun e w' => e = .returned (.tuple #[.int .u8 (bits .and .u32 a 255 % 256), .nilIface]) ∧ w = w' := by
  have HV := Lib.hid hv
  clear hv
  go_enter Tryz.func100, Tryz.ntmps100
  go_wp2_with (go_at_call 125; refine (valid_byte _ _ HV.out).mono ?_; rintro e w' ⟨rfl, rfl⟩)
  go_ret2
  exact ⟨rfl, rfl⟩
set_option maxHeartbeats 4000000 in
set_option maxRecDepth 100000 in
theorem IsBuiltinCall_any (b : Nat) (op dst src : Int) (w : World) (c0 : w.cell? ⟨b, 0, none⟩ = some (.int .u32 op)) (c1 : w.cell? ⟨b, 1, none⟩ = some (.int .u8 dst)) (c2 : w.cell? ⟨b, 2, none⟩ = some (.int .u8 src)) :
    Calls Tryz.prog 97 #[.pointer (some ⟨b, 0, none⟩)] w fun e w' => e = .returned (.bool (oJump op == 128 && src == 0 && dst == 0)) ∧ w = w' := by
  cases h : (oJump op == 128)
  · go_enter Tryz.func97, Tryz.ntmps97
    go_wp2_with (go_at_call 79; refine (JumpOp_any _ _).mono ?_; rintro e w' ⟨rfl, rfl⟩)
    go_ret
    exact ⟨by simp, rfl⟩
  · cases hs : (src == 0)
    all_goals
      go_enter Tryz.func97, Tryz.ntmps97
      go_wp2_with (go_at_call 79; refine (JumpOp_any _ _).mono ?_; rintro e w' ⟨rfl, rfl⟩)
      go_ret
      exact ⟨by simp, rfl⟩
set_option maxHeartbeats 4000000 in
set_option maxRecDepth 100000 in
theorem platFor_any (c : Int) (w : World) (hc : bits .and .u32 c 1879048192 = 0) : Calls Tryz.prog 124 #[.int .u32 c] w fun e w' => e = .returned (.string ⟨#[108, 105, 110, 117, 120]⟩) ∧ w = w' := by
  have HC := Lib.hid hc
  clear hc
  have e : (bits .and .u32 c 1879048192 == 0) = true := by rw [HC.out]; rfl
  go_enter Tryz.func124, Tryz.ntmps124
  go_wp2
  go_ret
  exact ⟨rfl, rfl⟩
set_option maxHeartbeats 4000000 in
set_option maxRecDepth 100000 in
theorem decode_any (c : Int) (w : World) (hc : bits .and .u32 c 1879048192 = 0) (hd : bits .and .u32 c 2415919103 = c) :
    Calls Tryz.prog 98 #[.int .u32 c] w fun e w' => e = .returned (.tuple #[.string ⟨#[108, 105, 110, 117, 120]⟩, .int .u32 c]) ∧ w = w' := by
  have HC := Lib.hid hc
  have HD := Lib.hid hd
  clear hc hd
  go_enter Tryz.func98, Tryz.ntmps98
  go_wp2_with (go_at_call 124; refine (platFor_any _ _ HC.out).mono ?_; rintro e w' ⟨rfl, rfl⟩)
  go_ret2
  refine ⟨?_, rfl⟩
  show Ending.returned (.tuple #[.string ⟨#[108, 105, 110, 117, 120]⟩, .int .u32 (bits .and .u32 c 2415919103)]) = _
  rw [HD.out]
set_option maxHeartbeats 4000000 in
set_option maxRecDepth 100000 in
theorem tagFor_any (w : World) : Calls Tryz.prog 136 #[.string ⟨#[108, 105, 110, 117, 120]⟩] w fun e w' => e = .returned (.tuple #[.int .u32 0, .nilIface]) ∧ w = w' := by
  go_enter Tryz.func136, Tryz.ntmps136
  go_wp2
  go_ret2
  exact ⟨rfl, rfl⟩
set_option maxHeartbeats 4000000 in
set_option maxRecDepth 100000 in
theorem encode_any (c : Int) (w : World) (c0 : 0 ≤ c) (c1 : c < 268435456) :
    Calls Tryz.prog 127 #[.string ⟨#[108, 105, 110, 117, 120]⟩, .int .u32 c] w fun e w' => e = .returned (.tuple #[.int .u32 (bits .or .u32 0 c), .nilIface]) ∧ w = w' := by
  have e : decide (c / 268435456 > 0) = false := by simp; omega
  go_enter Tryz.func127, Tryz.ntmps127
  go_wp2_with (go_at_call 136; refine (tagFor_any _).mono ?_; rintro e w' ⟨rfl, rfl⟩)
  go_ret2
  exact ⟨rfl, rfl⟩
set_option maxHeartbeats 4000000 in
set_option maxRecDepth 100000 in
theorem builtinFor_any (c : Int) (w : World) (c0 : 0 ≤ c) (c1 : c < 268435456) :
    Calls Tryz.prog 102 #[.string ⟨#[108, 105, 110, 117, 120]⟩, .int .u32 c] w fun e w' => e = .returned (.tuple #[.int .u32 (bits .or .u32 0 c), .nilIface]) ∧ w = w' := by
  go_enter Tryz.func102, Tryz.ntmps102
  go_wp2_with (go_at_call 127; refine (encode_any _ _ c0 c1).mono ?_; rintro e w' ⟨rfl, rfl⟩)
  go_ret2
  exact ⟨rfl, rfl⟩
end Go.Proofs.YtobgjmgepckijaaGreatDoor
