/- The thin package's conversions, walked: fits, insOf, told, at instructions without symbols and references. -/
import Derived.Test.YtobgjmgepckijaaGreatDoorOps
import Derived.Test.YtobgjmgepckijaaGreatDoorBelow
import Derived.Deep.RegionHeld3
import Derived.Outline
import Derived.Laws.StructEq
namespace Go.Proofs.YtobgjmgepckijaaGreatDoor
open Go.RowKit
set_option linter.unusedVariables false
set_option linter.unusedSimpArgs false

/-- an instruction as the thin package has it -/
abbrev insV (op dst src off c : Int) : Value := .agg #[.int .i64 op, .int .i64 dst, .int .i64 src, .int .i64 off, .int .i64 c, .string ⟨#[]⟩, .string ⟨#[]⟩]
/-- an instruction as the package has it, without a symbol or a reference -/
abbrev asmV (op dst src off c : Int) : Value := .agg #[.int .u32 op, .int .u8 dst, .int .u8 src, .int .i16 off, .int .i64 c, .pointer none]

set_option maxHeartbeats 4000000 in
set_option maxRecDepth 100000 in
theorem eqlIns (a b c d e : Int) (W : World) : (binOp .eql 26 (insV a b c d e) (insV a b c d e)).run Tryz.prog W = .ok (.bool true) W := by
  go_simp
set_option maxHeartbeats 4000000 in
set_option maxRecDepth 100000 in
theorem neqIns (a b c d e : Int) (W : World) : (binOp .neq 26 (insV a b c d e) (insV a b c d e)).run Tryz.prog W = .ok (.bool false) W := by
  go_simp
set_option maxHeartbeats 4000000 in
set_option maxRecDepth 100000 in
theorem fits_any (op dst src off c : Int) (s r : ByteArray) (w : World) (h0 : 0 ≤ op) (h1 : op < 131072) (d0 : 0 ≤ dst) (d1 : dst ≤ 10) (s0 : 0 ≤ src) (s1 : src ≤ 10) (o0 : -32768 ≤ off) (o1 : off ≤ 32767) :
    Calls Tryz.prog 46 #[.agg #[.int .i64 op, .int .i64 dst, .int .i64 src, .int .i64 off, .int .i64 c, .string s, .string r]] w fun e w' => e = .returned (.bool true) ∧
      w.alloc (.cells #[.int .i64 op, .int .i64 dst, .int .i64 src, .int .i64 off, .int .i64 c, .string s, .string r] 26) = w' := by
  go_enter Tryz.func46, Tryz.ntmps46
  go_wp2
  go_ret
  exact ⟨rfl, rfl⟩

set_option maxHeartbeats 4000000 in
set_option maxRecDepth 100000 in
theorem implInsOf_any (op dst src off c : Int) (w : World) (h0 : 0 ≤ op) (h1 : op < 131072) (d0 : 0 ≤ dst) (d1 : dst ≤ 10) (s0 : 0 ≤ src) (s1 : src ≤ 10) (o0 : -32768 ≤ off) (o1 : off ≤ 32767) :
    Calls Tryz.prog 47 #[insV op dst src off c] w fun e w' => e = .returned (asmV op dst src off c) ∧
      ((w.alloc (.cells #[.int .i64 op, .int .i64 dst, .int .i64 src, .int .i64 off, .int .i64 c, .string ⟨#[]⟩, .string ⟨#[]⟩] 26)).alloc (.cells #[.int .u32 op, .int .u8 dst, .int .u8 src, .int .i16 off, .int .i64 c, .pointer none] 79)).alloc
        (.cells #[.int .u32 op, .int .u8 dst, .int .u8 src, .int .i16 off, .int .i64 c, .pointer none] 79) = w' := by
  go_enter Tryz.func47, Tryz.ntmps47
  go_wp2
  exact bodyPost_ret (v := asmV op dst src off c) (by simp [results, Tryz.results47, go_sem]) rfl ⟨rfl, rfl⟩

/-! ## An instruction without metadata: no symbol, no reference -/
set_option maxHeartbeats 4000000 in
set_option maxRecDepth 100000 in
theorem find_nil (a : Addr) (k : Value) (w : World) (hc : w.cell? a = some (.pointer none)) : Calls Tryz.prog 128 #[.pointer (some a), k] w fun e w' => e = .returned (.pointer none) ∧ w = w' := by
  go_enter Tryz.func128, Tryz.ntmps128
  go_wp2
  refine wp_loop_rounds 1 ?_
  rw [rounds_succ]
  go_wp2
  go_ret
  exact ⟨rfl, rfl⟩
set_option maxHeartbeats 4000000 in
set_option maxRecDepth 100000 in
theorem Get_nil (a : Addr) (k : Value) (w : World) (hc : w.cell? a = some (.pointer none)) : Calls Tryz.prog 106 #[.pointer (some a), k] w fun e w' => e = .returned .nilIface ∧ w = w' := by
  go_enter Tryz.func106, Tryz.ntmps106
  go_wp2_with (go_at_call 128; refine (find_nil _ _ _ hc).mono ?_; rintro e w' ⟨rfl, rfl⟩)
  go_ret
  exact ⟨rfl, rfl⟩
set_option maxHeartbeats 4000000 in
set_option maxRecDepth 100000 in
theorem Symbol_nil (op dst src off c : Int) (w : World) : Calls Tryz.prog 60 #[asmV op dst src off c] w fun e w' => e = .returned (.string ⟨#[]⟩) ∧
    w.alloc (.cells #[.int .u32 op, .int .u8 dst, .int .u8 src, .int .i16 off, .int .i64 c, .pointer none] 79) = w' := by
  have hta : ∀ W : World, (Instr.typeAssert Value.nilIface 20 9 true).run Tryz.prog W = .ok (.tuple #[.string ⟨#[]⟩, .bool false]) W := fun _ => by kernel_rfl
  go_enter Tryz.func60, Tryz.ntmps60
  go_wp2_with (go_at_call 106; refine (Get_nil _ _ _ (by go_simp)).mono ?_; rintro e w' ⟨rfl, rfl⟩)
  go_ret
  exact ⟨rfl, rfl⟩
set_option maxHeartbeats 4000000 in
set_option maxRecDepth 100000 in
theorem Reference_nil (op dst src off c : Int) (w : World) : Calls Tryz.prog 61 #[asmV op dst src off c] w fun e w' => e = .returned (.string ⟨#[]⟩) ∧
    w.alloc (.cells #[.int .u32 op, .int .u8 dst, .int .u8 src, .int .i16 off, .int .i64 c, .pointer none] 79) = w' := by
  have hta : ∀ W : World, (Instr.typeAssert Value.nilIface 20 9 true).run Tryz.prog W = .ok (.tuple #[.string ⟨#[]⟩, .bool false]) W := fun _ => by kernel_rfl
  go_enter Tryz.func61, Tryz.ntmps61
  go_wp2_with (go_at_call 106; refine (Get_nil _ _ _ (by go_simp)).mono ?_; rintro e w' ⟨rfl, rfl⟩)
  go_ret
  exact ⟨rfl, rfl⟩

/-! told: the instruction as data -/
/-- the world that told leaves: four new blocks, one draw -/
def toldW (op dst src off c : Int) (w : World) : World :=
  ((((w.alloc (.cells #[.int .u32 op, .int .u8 dst, .int .u8 src, .int .i16 off, .int .i64 c, .pointer none] 79)).alloc
    (.cells #[.int .i64 op, .int .i64 dst, .int .i64 src, .int .i64 off, .int .i64 c, .string ⟨#[]⟩, .string ⟨#[]⟩] 26)).alloc
    (.cells #[.int .u32 op, .int .u8 dst, .int .u8 src, .int .i16 off, .int .i64 c, .pointer none] 79)).alloc
    (.cells #[.int .u32 op, .int .u8 dst, .int .u8 src, .int .i16 off, .int .i64 c, .pointer none] 79)).drew
set_option maxHeartbeats 4000000 in
set_option maxRecDepth 100000 in
theorem told_any (op dst src off c : Int) (w : World) (h0 : 0 ≤ op) (h1 : op < 4294967296) (d0 : 0 ≤ dst) (d1 : dst ≤ 255) (s0 : 0 ≤ src) (s1 : src ≤ 255) (o0 : -32768 ≤ off) (o1 : off ≤ 32767) :
    Calls Tryz.prog 25 #[asmV op dst src off c] w fun e w' => e = .returned (insV op dst src off c) ∧ toldW op dst src off c w = w' := by
  have q1 : IntKind.i64.wrap op = op := by rw [IntKind.wrap_i64]; omega
  have q2 : IntKind.i64.wrap dst = dst := by rw [IntKind.wrap_i64]; omega
  have q3 : IntKind.i64.wrap src = src := by rw [IntKind.wrap_i64]; omega
  have q4 : IntKind.i64.wrap off = off := by rw [IntKind.wrap_i64]; omega
  go_enter Tryz.func25, Tryz.ntmps25
  go_wp2_with fail
  go_region_held3 (fun w' => w'.cell? ⟨w.heap.size, 0, none⟩ = some (.int .u32 op) ∧ w'.cell? ⟨w.heap.size, 1, none⟩ = some (.int .u8 dst) ∧ w'.cell? ⟨w.heap.size, 2, none⟩ = some (.int .u8 src) ∧
      w'.cell? ⟨w.heap.size, 3, none⟩ = some (.int .i16 off) ∧ w'.cell? ⟨w.heap.size, 4, none⟩ = some (.int .i64 c) ∧ w'.cell? ⟨w.heap.size, 5, none⟩ = some (.pointer none))
    (go_keep)
    (first | (go_at_call 60; refine (Symbol_nil _ _ _ _ _ _).mono ?_; rintro e w' ⟨rfl, rfl⟩) | (go_at_call 61; refine (Reference_nil _ _ _ _ _ _).mono ?_; rintro e w' ⟨rfl, rfl⟩))
  go_wp2
  exact bodyPost_ret (v := insV op dst src off c) (by simp [results, Tryz.results25, go_sem]) rfl ⟨rfl, rfl⟩
end Go.Proofs.YtobgjmgepckijaaGreatDoor
