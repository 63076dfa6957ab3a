/- The thin package's conversions, walked: fits, insOf, told, at instructions without symbols and references. -/
import Derived.Test.YtobgjmgepckijaaDoorOps
import Derived.Test.YtobgjmgepckijaaDoorBelow
import Derived.Deep.RegionHeld3
import Derived.Outline
import Derived.Laws.StructEq
namespace Go.Proofs.YtobgjmgepckijaaDoor
open Go.RowKit
set_option linter.unusedVariables false
set_option linter.unusedSimpArgs false

/-- an instruction as the thin package has it -/
abbrev insV (op dst src off c : Int) : Value := .agg #[.int .i64 op, .int .i64 dst, .int .i64 src, .int .i64 off, .int .i64 c, .string ⟨#[]⟩, .string ⟨#[]⟩]
/-- an instruction as the package has it, without a symbol or a reference -/
abbrev asmV (op dst src off c : Int) : Value := .agg #[.int .u32 op, .int .u8 dst, .int .u8 src, .int .i16 off, .int .i64 c, .pointer none]

set_option maxHeartbeats 4000000 in
set_option maxRecDepth 100000 in
theorem eqlIns (a b c d e : Int) (W : World) : (binOp .eql 24 (insV a b c d e) (insV a b c d e)).run Tryd.prog W = .ok (.bool true) W := by
  go_simp
set_option maxHeartbeats 4000000 in
set_option maxRecDepth 100000 in
theorem neqIns (a b c d e : Int) (W : World) : (binOp .neq 24 (insV a b c d e) (insV a b c d e)).run Tryd.prog W = .ok (.bool false) W := by
  go_simp
set_option maxHeartbeats 4000000 in
set_option maxRecDepth 100000 in
theorem fits_any (op dst src off c : Int) (s r : ByteArray) (w : World) (h0 : 0 ≤ op) (h1 : op < 131072) (d0 : 0 ≤ dst) (d1 : dst ≤ 10) (s0 : 0 ≤ src) (s1 : src ≤ 10) (o0 : -32768 ≤ off) (o1 : off ≤ 32767) :
    Calls Tryd.prog 36 #[.agg #[.int .i64 op, .int .i64 dst, .int .i64 src, .int .i64 off, .int .i64 c, .string s, .string r]] w fun e w' => e = .returned (.bool true) ∧
      w.alloc (.cells #[.int .i64 op, .int .i64 dst, .int .i64 src, .int .i64 off, .int .i64 c, .string s, .string r] 24) = w' := by
  go_enter Tryd.func36, Tryd.ntmps36
  go_wp2
  go_ret
  exact ⟨rfl, rfl⟩

set_option maxHeartbeats 4000000 in
set_option maxRecDepth 100000 in
theorem implInsOf_any (op dst src off c : Int) (w : World) (h0 : 0 ≤ op) (h1 : op < 131072) (d0 : 0 ≤ dst) (d1 : dst ≤ 10) (s0 : 0 ≤ src) (s1 : src ≤ 10) (o0 : -32768 ≤ off) (o1 : off ≤ 32767) :
    Calls Tryd.prog 37 #[insV op dst src off c] w fun e w' => e = .returned (asmV op dst src off c) ∧
      ((w.alloc (.cells #[.int .i64 op, .int .i64 dst, .int .i64 src, .int .i64 off, .int .i64 c, .string ⟨#[]⟩, .string ⟨#[]⟩] 24)).alloc (.cells #[.int .u32 op, .int .u8 dst, .int .u8 src, .int .i16 off, .int .i64 c, .pointer none] 60)).alloc
        (.cells #[.int .u32 op, .int .u8 dst, .int .u8 src, .int .i16 off, .int .i64 c, .pointer none] 60) = w' := by
  go_enter Tryd.func37, Tryd.ntmps37
  go_wp2
  exact bodyPost_ret (v := asmV op dst src off c) (by simp [results, Tryd.results37, go_sem]) rfl ⟨rfl, rfl⟩

/-! ## An instruction without metadata: no symbol, no reference -/
set_option maxHeartbeats 4000000 in
set_option maxRecDepth 100000 in
theorem find_nil (a : Addr) (k : Value) (w : World) (hc : w.cell? a = some (.pointer none)) : Calls Tryd.prog 87 #[.pointer (some a), k] w fun e w' => e = .returned (.pointer none) ∧ w = w' := by
  go_enter Tryd.func87, Tryd.ntmps87
  go_wp2
  refine wp_loop_rounds 1 ?_
  rw [rounds_succ]
  go_wp2
  go_ret
  exact ⟨rfl, rfl⟩
set_option maxHeartbeats 4000000 in
set_option maxRecDepth 100000 in
theorem Get_nil (a : Addr) (k : Value) (w : World) (hc : w.cell? a = some (.pointer none)) : Calls Tryd.prog 80 #[.pointer (some a), k] w fun e w' => e = .returned .nilIface ∧ w = w' := by
  go_enter Tryd.func80, Tryd.ntmps80
  go_wp2_with (go_at_call 87; refine (find_nil _ _ _ hc).mono ?_; rintro e w' ⟨rfl, rfl⟩)
  go_ret
  exact ⟨rfl, rfl⟩
set_option maxHeartbeats 4000000 in
set_option maxRecDepth 100000 in
theorem Reference_nil (op dst src off c : Int) (w : World) : Calls Tryd.prog 67 #[asmV op dst src off c] w fun e w' => e = .returned (.string ⟨#[]⟩) ∧
    w.alloc (.cells #[.int .u32 op, .int .u8 dst, .int .u8 src, .int .i16 off, .int .i64 c, .pointer none] 60) = w' := by
  have hta : ∀ W : World, (Instr.typeAssert Value.nilIface 20 9 true).run Tryd.prog W = .ok (.tuple #[.string ⟨#[]⟩, .bool false]) W := fun _ => by kernel_rfl
  go_enter Tryd.func67, Tryd.ntmps67
  go_wp2_with (go_at_call 80; refine (Get_nil _ _ _ (by go_simp)).mono ?_; rintro e w' ⟨rfl, rfl⟩)
  go_ret
  exact ⟨rfl, rfl⟩

end Go.Proofs.YtobgjmgepckijaaDoor
