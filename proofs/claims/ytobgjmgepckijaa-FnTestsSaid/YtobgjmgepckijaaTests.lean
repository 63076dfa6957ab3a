/- What is told of an instruction: the package's tests and the reference's, walked. -/
import Derived.Test.YtobgjmgepckijaaImpl
import Derived.Outline
namespace Go.Proofs.Ytobgjmgepckijaa
open Go.RowKit
set_option linter.unusedVariables false
set_option linter.unusedSimpArgs false

/-! ## The tests of package asm, each at a pointer to an instruction -/
set_option maxHeartbeats 4000000 in
set_option maxRecDepth 100000 in
theorem IsFunctionCall_any (b : Nat) (op src : Int) (w : World) (c0 : w.cell? ⟨b, 0, none⟩ = some (.int .u32 op)) (c2 : w.cell? ⟨b, 2, none⟩ = some (.int .u8 src)) :
    Calls Try.prog 30 #[.pointer (some ⟨b, 0, none⟩)] w fun e w' => e = .returned (.bool (oJump op == 128 && src == 1)) ∧ w = w' := by
  cases h : (oJump op == 128)
  all_goals
    go_enter Try.func30, Try.ntmps30
    go_wp2_with (go_at_call 46; refine (JumpOp_any _ _).mono ?_; rintro e w' ⟨rfl, rfl⟩)
    go_ret
    exact ⟨by simp, rfl⟩
set_option maxHeartbeats 4000000 in
set_option maxRecDepth 100000 in
theorem IsKfuncCall_any (b : Nat) (op src : Int) (w : World) (c0 : w.cell? ⟨b, 0, none⟩ = some (.int .u32 op)) (c2 : w.cell? ⟨b, 2, none⟩ = some (.int .u8 src)) :
    Calls Try.prog 32 #[.pointer (some ⟨b, 0, none⟩)] w fun e w' => e = .returned (.bool (oJump op == 128 && src == 2)) ∧ w = w' := by
  cases h : (oJump op == 128)
  all_goals
    go_enter Try.func32, Try.ntmps32
    go_wp2_with (go_at_call 46; refine (JumpOp_any _ _).mono ?_; rintro e w' ⟨rfl, rfl⟩)
    go_ret
    exact ⟨by simp, rfl⟩
set_option maxHeartbeats 4000000 in
set_option maxRecDepth 100000 in
theorem IsBuiltinCall_any (b : Nat) (op dst src : Int) (w : World) (c0 : w.cell? ⟨b, 0, none⟩ = some (.int .u32 op)) (c1 : w.cell? ⟨b, 1, none⟩ = some (.int .u8 dst)) (c2 : w.cell? ⟨b, 2, none⟩ = some (.int .u8 src)) :
    Calls Try.prog 28 #[.pointer (some ⟨b, 0, none⟩)] w fun e w' => e = .returned (.bool (oJump op == 128 && src == 0 && dst == 0)) ∧ w = w' := by
  cases h : (oJump op == 128)
  · go_enter Try.func28, Try.ntmps28
    go_wp2_with (go_at_call 46; refine (JumpOp_any _ _).mono ?_; rintro e w' ⟨rfl, rfl⟩)
    go_ret
    exact ⟨by simp, rfl⟩
  · cases hs : (src == 0)
    all_goals
      go_enter Try.func28, Try.ntmps28
      go_wp2_with (go_at_call 46; refine (JumpOp_any _ _).mono ?_; rintro e w' ⟨rfl, rfl⟩)
      go_ret
      exact ⟨by simp, rfl⟩
set_option maxHeartbeats 4000000 in
set_option maxRecDepth 100000 in
theorem IsLoadOfFP_any (b : Nat) (op src : Int) (w : World) (c0 : w.cell? ⟨b, 0, none⟩ = some (.int .u32 op)) (c2 : w.cell? ⟨b, 2, none⟩ = some (.int .u8 src)) :
    Calls Try.prog 34 #[.pointer (some ⟨b, 0, none⟩)] w fun e w' => e = .returned (.bool (op == 24 && src == 4)) ∧ w = w' := by
  cases h : (op == 24)
  all_goals
    go_enter Try.func34, Try.ntmps34
    go_wp2_with (go_at_call 42; refine (IsDW_any _ _).mono ?_; rintro e w' ⟨rfl, rfl⟩)
    go_ret
    exact ⟨by simp, rfl⟩
set_option maxHeartbeats 4000000 in
set_option maxRecDepth 100000 in
theorem IsFunctionRef_any (b : Nat) (op src : Int) (w : World) (c0 : w.cell? ⟨b, 0, none⟩ = some (.int .u32 op)) (c2 : w.cell? ⟨b, 2, none⟩ = some (.int .u8 src)) :
    Calls Try.prog 31 #[.pointer (some ⟨b, 0, none⟩)] w fun e w' => e = .returned (.bool ((oJump op == 128 && src == 1) || (op == 24 && src == 4))) ∧ w = w' := by
  cases h : (oJump op == 128 && src == 1)
  all_goals
    go_enter Try.func31, Try.ntmps31
    go_wp2_with (first | (go_at_call 30; refine (IsFunctionCall_any _ _ _ _ c0 c2).mono ?_; rintro e w' ⟨rfl, rfl⟩) | (go_at_call 34; refine (IsLoadOfFP_any _ _ _ _ c0 c2).mono ?_; rintro e w' ⟨rfl, rfl⟩))
    go_ret
    exact ⟨by simp, rfl⟩
set_option maxHeartbeats 4000000 in
set_option maxRecDepth 100000 in
theorem IsConstantLoad_any (b : Nat) (op src off : Int) (w : World) (c0 : w.cell? ⟨b, 0, none⟩ = some (.int .u32 op)) (c2 : w.cell? ⟨b, 2, none⟩ = some (.int .u8 src)) (c3 : w.cell? ⟨b, 3, none⟩ = some (.int .i16 off)) :
    Calls Try.prog 29 #[.pointer (some ⟨b, 0, none⟩), .int .u8 24] w fun e w' => e = .returned (.bool (op == 24 && src == 0 && off == 0)) ∧ ∃ n, w' = w.drewN n := by
  cases h : (op == 24)
  · go_enter Try.func29, Try.ntmps29
    go_wp2_with fail
    go_quiet ((go_at_call 47; exact quiet_left (LoadImmOp24 _)))
    go_wp2
    go_ret
    exact ⟨by simp, nq, rfl⟩
  · cases hs : (src == 0)
    all_goals
      go_enter Try.func29, Try.ntmps29
      go_wp2_with fail
      go_quiet ((go_at_call 47; exact quiet_left (LoadImmOp24 _)))
      go_wp2
      go_ret
      exact ⟨by simp, nq, rfl⟩
set_option maxHeartbeats 4000000 in
set_option maxRecDepth 100000 in
theorem IsLoadFromMap_any (b : Nat) (op src : Int) (w : World) (c0 : w.cell? ⟨b, 0, none⟩ = some (.int .u32 op)) (c2 : w.cell? ⟨b, 2, none⟩ = some (.int .u8 src)) :
    Calls Try.prog 33 #[.pointer (some ⟨b, 0, none⟩)] w fun e w' => e = .returned (.bool (op == 24 && (src == 1 || src == 2))) ∧ ∃ n, w' = w.drewN n := by
  cases h : (op == 24)
  · go_enter Try.func33, Try.ntmps33
    go_wp2_with fail
    go_quiet ((go_at_call 47; exact quiet_left (LoadImmOp24 _)))
    go_wp2
    go_ret
    exact ⟨by simp, nq, rfl⟩
  · cases hs : (src == 1)
    all_goals
      go_enter Try.func33, Try.ntmps33
      go_wp2_with fail
      go_quiet ((go_at_call 47; exact quiet_left (LoadImmOp24 _)))
      go_wp2
      go_ret
      exact ⟨by simp, nq, rfl⟩

/-! ## The thin package's list of seven, the reference's list of seven -/
def TestsPost (w : World) (t0 t1 t2 t3 t4 t5 t6 : Bool) (e : Ending) (w' : World) : Prop :=
  ∃ b, e = .returned (.slice (some ⟨b, 0, none⟩) 7 7) ∧ w'.heap[b]? = some (.cells #[.bool t0, .bool t1, .bool t2, .bool t3, .bool t4, .bool t5, .bool t6] 4 (0, 0)) ∧ Below w.heap.size w w' ∧ w.heap.size ≤ b
set_option maxHeartbeats 4000000 in
set_option maxRecDepth 100000 in
theorem implTests_any (op dst src off c : Int) (w : World) (h0 : 0 ≤ op) (h1 : op < 131072) (d0 : 0 ≤ dst) (d1 : dst ≤ 10) (s0 : 0 ≤ src) (s1 : src ≤ 10) (o0 : -32768 ≤ off) (o1 : off ≤ 32767) :
    Calls Try.prog 15 #[insV op dst src off c] w (TestsPost w (oJump op == 128 && src == 0 && dst == 0) (op == 24 && src == 0 && off == 0) (oJump op == 128 && src == 1) ((oJump op == 128 && src == 1) || (op == 24 && src == 4))
      (oJump op == 128 && src == 2) (op == 24 && (src == 1 || src == 2)) (op == 24 && src == 4)) := by
  obtain ⟨t0, e0⟩ : ∃ t, (oJump op == 128 && src == 0 && dst == 0) = t := ⟨_, rfl⟩
  obtain ⟨t1, e1⟩ : ∃ t, (op == 24 && src == 0 && off == 0) = t := ⟨_, rfl⟩
  obtain ⟨t2, e2⟩ : ∃ t, (oJump op == 128 && src == 1) = t := ⟨_, rfl⟩
  obtain ⟨t6, e6⟩ : ∃ t, (op == 24 && src == 4) = t := ⟨_, rfl⟩
  obtain ⟨t4, e4⟩ : ∃ t, (oJump op == 128 && src == 2) = t := ⟨_, rfl⟩
  obtain ⟨t5, e5⟩ : ∃ t, (op == 24 && (src == 1 || src == 2)) = t := ⟨_, rfl⟩
  rw [e0, e1, e2, e6, e4, e5]
  have E0 := Lib.hid e0
  have E1 := Lib.hid e1
  have E2 := Lib.hid e2
  have E4 := Lib.hid e4
  have E5 := Lib.hid e5
  have E6 := Lib.hid e6
  clear e0 e1 e2 e4 e5 e6
  go_enter Try.func15, Try.ntmps15
  go_wp2_with (first
    | (go_at_call 24; refine (fits_any _ _ _ _ _ _ _ _ h0 h1 d0 d1 s0 s1 o0 o1).mono ?_; rintro e w' ⟨rfl, rfl⟩)
    | (go_at_call 25; refine (implInsOf_any _ _ _ _ _ _ h0 h1 d0 d1 s0 s1 o0 o1).mono ?_; rintro e w' ⟨rfl, rfl⟩)
    | fail)
  refine (IsBuiltinCall_any _ op dst src _ (by go_simp) (by go_simp) (by go_simp)).mono ?_
  rintro e w' ⟨rfl, rfl⟩
  rw [E0.out]
  go_wp2_with fail
  refine (IsConstantLoad_any _ op src off _ (by go_simp) (by go_simp) (by go_simp)).mono ?_
  rintro e w' ⟨rfl, n1, rfl⟩
  rw [E1.out]
  go_wp2_with fail
  refine (IsFunctionCall_any _ op src _ (by go_simp) (by go_simp)).mono ?_
  rintro e w' ⟨rfl, rfl⟩
  rw [E2.out]
  go_wp2_with fail
  refine (IsFunctionRef_any _ op src _ (by go_simp) (by go_simp)).mono ?_
  rintro e w' ⟨rfl, rfl⟩
  rw [E2.out, E6.out]
  go_wp2_with fail
  refine (IsKfuncCall_any _ op src _ (by go_simp) (by go_simp)).mono ?_
  rintro e w' ⟨rfl, rfl⟩
  rw [E4.out]
  go_wp2_with fail
  refine (IsLoadFromMap_any _ op src _ (by go_simp) (by go_simp)).mono ?_
  rintro e w' ⟨rfl, n2, rfl⟩
  rw [E5.out]
  go_wp2_with fail
  refine (IsLoadOfFP_any _ op src _ (by go_simp) (by go_simp)).mono ?_
  rintro e w' ⟨rfl, rfl⟩
  rw [E6.out]
  go_wp2_with fail
  go_ret
  refine ⟨_, rfl, heap_at (by simp), ?_, by omega⟩
  repeat (first | exact Below.refl _ _ | refine below_up (by simp <;> omega) ?_ _ | refine below_drewN ?_ _)

def sIsJump (a : Int) : Bool := bits .and .i64 a 7 == 5 || bits .and .i64 a 7 == 6
set_option maxHeartbeats 4000000 in
set_option maxRecDepth 100000 in
theorem sIsJump_any (a : Int) (w : World) : Calls Try.prog 35 #[.int .i64 a] w fun e w' => e = .returned (.bool (sIsJump a)) ∧ w = w' := by
  unfold sIsJump
  cases h : (bits .and .i64 a 7 == 5)
  all_goals
    go_enter Try.func35, Try.ntmps35
    go_wp2
    go_ret
    exact ⟨by simp, rfl⟩
def sCall (a : Int) : Bool := sIsJump a && bits .and .i64 a 240 == 128
set_option maxHeartbeats 4000000 in
set_option maxRecDepth 100000 in
theorem specTests_any (op dst src off c : Int) (w : World) :
    Calls Try.prog 16 #[insV op dst src off c] w (TestsPost w (sCall op && src == 0) (op == 24 && src == 0) (sCall op && src == 1) ((sCall op && src == 1) || (op == 24 && src == 4))
      (sCall op && src == 2) (op == 24 && (src == 1 || src == 2)) (op == 24 && src == 4)) := by
  unfold sCall
  cases hj : sIsJump op <;> cases hb : (bits .and .i64 op 240 == 128) <;> cases hl : (op == 24)
  all_goals
    go_enter Try.func16, Try.ntmps16
    go_wp2_with (go_at_call 35; refine (sIsJump_any _ _).mono ?_; rintro e w' ⟨rfl, rfl⟩)
  all_goals
    go_ret
    refine ⟨_, rfl, (heap_at (by simp)).trans ?_, ?_, by omega⟩
    case refine_2 => repeat (first | exact Below.refl _ _ | refine below_up (by simp <;> omega) ?_ _)
  all_goals simp [*]
end Go.Proofs.Ytobgjmgepckijaa
