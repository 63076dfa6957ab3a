/- errors.Is at a sentinel of errors.New's make: the sentinel itself, nil (after the worked SentryIs). -/
import Derived.Test.YtobgjmgepckijaaGreatDoorProg
import Derived.WalkKit
import Derived.LaidEql
import Derived.Stop.Asserts
import Derived.RowKitTokens
namespace Go.Proofs.YtobgjmgepckijaaGreatDoor
open Go.RowKit Go.Extern.Stop Go.Stop Go.Extern
set_option linter.unusedVariables false
set_option linter.unusedSimpArgs false
theorem isTypeOf (v : Value) (w : World) : (Extern.ReflectliteType.typeOf #[.iface 180 v]).run Tryz.prog w = .ok (.iface 188 (.agg #[.pointer (some ⟨9, 180, none⟩)])) w := by kernel_rfl
def cmpM : Array Value → Sem Value := Extern.ReflectliteType.method fun t => do Go.Extern.Rtype.noPackHeld "Comparable" t; pure (.bool (← typeInfo t).comparable)
theorem isComparable (w : World) : (cmpM #[.agg #[.pointer (some ⟨9, 180, none⟩)]]).run Tryz.prog w = .ok (.bool true) w := by kernel_rfl
theorem isMethodComparable (v : Value) (w : World) : (Go.method 348 188 v "Comparable").run Tryz.prog w = .ok (187, v) w := by kernel_rfl
theorem isComp : (Tryz.prog.info? 180).map (·.comparable) = some true := by kernel_rfl
theorem isSize : (Tryz.prog.info? 182).map (·.size) = some 1 := by kernel_rfl
set_option maxHeartbeats 4000000 in
set_option maxRecDepth 100000 in
theorem is_same (a : Addr) (w : World) :
    Calls Tryz.prog 58 #[.iface 180 (.pointer (some a)), .iface 180 (.pointer (some a))] w fun e w' => e = .returned (.bool true) ∧ w = w' := by
  obtain ⟨i, hi, hcmp⟩ := Option.map_eq_some_iff.1 isComp
  obtain ⟨j, hj, hjs⟩ := Option.map_eq_some_iff.1 isSize
  have h8 := @run_callFunc_extern Tryz.prog 103 _ Extern.ReflectliteType.typeOf Tryz.func103 (by kernel_rfl) (by kernel_rfl) (by kernel_rfl) (by kernel_rfl)
  have h32 := @run_callFunc_extern Tryz.prog 187 _ cmpM Tryz.func187 (by kernel_rfl) (by kernel_rfl) (by kernel_rfl) (by kernel_rfl)
  have tT := isTypeOf
  have cT := isComparable
  have mR := isMethodComparable
  have heq := run_eql_iface_ptr_same (P := Tryz.prog) w a Tryz.underlying59 Tryz.underlying180 hi hcmp hj
  go_enter Tryz.func58, Tryz.ntmps58
  go_wp2
  refine wp_loop_rounds 1 ?_
  rw [rounds_succ]
  go_wp2
  go_ret
  exact ⟨rfl, rfl⟩
set_option maxHeartbeats 4000000 in
set_option maxRecDepth 100000 in
theorem is_nil (b : Addr) (w : World) :
    Calls Tryz.prog 58 #[.nilIface, .iface 180 (.pointer (some b))] w fun e w' => e = .returned (.bool false) ∧ w = w' := by
  have hn := run_eql_iface_nil_left (P := Tryz.prog) w 180 (.pointer (some b)) Tryz.underlying59
  go_enter Tryz.func58, Tryz.ntmps58
  go_wp2
  go_ret
  exact ⟨rfl, rfl⟩
end Go.Proofs.YtobgjmgepckijaaGreatDoor
