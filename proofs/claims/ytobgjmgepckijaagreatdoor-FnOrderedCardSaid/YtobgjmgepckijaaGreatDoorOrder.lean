/- The two orders of bytes as interface values; the registers' byte. -/
import Derived.Test.YtobgjmgepckijaaGreatDoorBytes
import Derived.Outline
namespace Go.Proofs.YtobgjmgepckijaaGreatDoor
open Go.RowKit
set_option linter.unusedVariables false
set_option linter.unusedSimpArgs false
def ordV (big : Bool) : Value := if big then .iface 105 (.agg #[]) else .iface 106 (.agg #[])
theorem ordF : ordV false = .iface 106 (.agg #[]) := rfl
theorem ordT : ordV true = .iface 105 (.agg #[]) := rfl
set_option maxHeartbeats 4000000 in
set_option maxRecDepth 100000 in
theorem ZZOrder_any (big : Bool) (w : World) : Calls Tryz.prog 21 #[.bool big] w fun e w' => e = .returned (ordV big) ∧ w = w' := by
  cases big
  · go_enter Tryz.func21, Tryz.ntmps21
    go_wp2
    go_ret
    exact ⟨rfl, rfl⟩
  · go_enter Tryz.func21, Tryz.ntmps21
    go_wp2
    go_ret
    exact ⟨rfl, rfl⟩
theorem eqLL (w : World) : Sem.run Tryz.prog (binOp .eql 62 (.iface 106 (.agg #[])) (.iface 106 (.agg #[]))) w = .ok (.bool true) w := by kernel_rfl
theorem eqBB (w : World) : Sem.run Tryz.prog (binOp .eql 62 (.iface 105 (.agg #[])) (.iface 105 (.agg #[]))) w = .ok (.bool true) w := by kernel_rfl
theorem eqBL (w : World) : Sem.run Tryz.prog (binOp .eql 62 (.iface 105 (.agg #[])) (.iface 106 (.agg #[]))) w = .ok (.bool false) w := by kernel_rfl
def regsOf (big : Bool) (d s : Int) : Int := if big then d * 16 + s else s * 16 + d
theorem regs_plain : ∀ d : Fin 11, ∀ s : Fin 11, bits .or .u8 ((s.val : Int) * 16) ((d.val : Int) % 16) = (s.val : Int) * 16 + d.val := by decide +kernel
theorem regs_plain' {d s : Int} (d0 : 0 ≤ d) (d1 : d ≤ 10) (s0 : 0 ≤ s) (s1 : s ≤ 10) : bits .or .u8 (s * 16) (d % 16) = s * 16 + d := by
  have := regs_plain ⟨d.toNat, by omega⟩ ⟨s.toNat, by omega⟩
  simpa [Int.toNat_of_nonneg d0, Int.toNat_of_nonneg s0] using this
set_option maxHeartbeats 4000000 in
set_option maxRecDepth 100000 in
theorem regs_any (big : Bool) (d s : Int) (w : World) (d0 : 0 ≤ d) (d1 : d ≤ 10) (s0 : 0 ≤ s) (s1 : s ≤ 10) :
    Calls Tryz.prog 96 #[.int .u8 d, .int .u8 s, ordV big] w fun e w' => e = .returned (.tuple #[.int .u8 (regsOf big d s), .nilIface]) ∧ w = w' := by
  have e1 := eqLL w
  have e2 := eqBB w
  have e3 := eqBL w
  have h1 := Lib.hid (regs_plain' d0 d1 s0 s1)
  have h2 := Lib.hid (regs_plain' s0 s1 d0 d1)
  cases big
  · rw [ordF]
    go_enter Tryz.func96, Tryz.ntmps96
    go_wp2
    go_ret2
    refine ⟨?_, rfl⟩
    rw [show regsOf false d s = s * 16 + d from rfl, ← h1.out]
    rfl
  · rw [ordT]
    go_enter Tryz.func96, Tryz.ntmps96
    go_wp2
    go_ret2
    refine ⟨?_, rfl⟩
    rw [show regsOf true d s = d * 16 + s from rfl, ← h2.out]
    rfl
end Go.Proofs.YtobgjmgepckijaaGreatDoor
