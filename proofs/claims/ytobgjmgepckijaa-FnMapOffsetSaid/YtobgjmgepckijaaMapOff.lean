/- RewriteMapOffset and impl.MapOffset, walked. -/
import Derived.Test.YtobgjmgepckijaaImpl
import Derived.Outline
namespace Go.Proofs.Ytobgjmgepckijaa
open Go.RowKit
set_option linter.unusedVariables false
set_option linter.unusedSimpArgs false

set_option maxHeartbeats 4000000 in
set_option maxRecDepth 100000 in
theorem LoadImmOp24 (w : World) : Calls Try.prog 47 #[.int .u8 24] w fun e w' => e = .returned (.int .u32 24) ∧ w = w' := by
  go_enter Try.func47, Try.ntmps47
  go_wp2
  go_ret
  exact ⟨rfl, rfl⟩
set_option maxHeartbeats 4000000 in
set_option maxRecDepth 100000 in
theorem IsDW_any (a : Int) (w : World) : Calls Try.prog 42 #[.int .u32 a] w fun e w' => e = .returned (.bool (a == 24)) ∧ w = w' := by
  go_enter Try.func42, Try.ntmps42
  go_wp2_with (go_at_call 47; refine (LoadImmOp24 _).mono ?_; rintro e w' ⟨rfl, rfl⟩)
  go_ret
  exact ⟨rfl, rfl⟩
set_option maxHeartbeats 4000000 in
set_option maxRecDepth 100000 in
theorem New_any (s : ByteArray) (w : World) : Calls Try.prog 43 #[.string s] w fun e w' => e = .returned (.iface 97 (.pointer (some ⟨w.heap.size, 0, none⟩))) ∧ w.alloc (.cells #[.string s] 99) = w' := by
  go_enter Try.func43, Try.ntmps43
  go_wp2
  go_ret
  exact ⟨rfl, rfl⟩
theorem u64_mask32 (c : Int) : bits .and .u64 (IntKind.u64.wrap c) 4294967295 = c % 4294967296 := by
  have hw : IntKind.u64.wrap c = c % 18446744073709551616 := by simp [IntKind.wrap, IntKind.bits, IntKind.signed]
  rw [hw]
  show IntKind.u64.wrap ((BitVec.ofInt 64 (c % 18446744073709551616) &&& BitVec.ofInt 64 4294967295).toNat : Int) = _
  rw [BitVec.toNat_and, show (BitVec.ofInt 64 4294967295).toNat = 2 ^ 32 - 1 from rfl, Nat.and_two_pow_sub_one_eq_mod, BitVec.toNat_ofInt]
  simp [IntKind.wrap, IntKind.bits, IntKind.signed]
  omega
/-- what the constant becomes -/
def offsetC (o c : Int) : Int := wrap64 (bits .or .u64 (o * 4294967296) (c % 4294967296))
set_option maxHeartbeats 4000000 in
set_option maxRecDepth 100000 in
theorem Rewrite_ok (b : Nat) (c o : Int) (w : World) (o0 : 0 ≤ o) (o1 : o < 4294967296) (c0 : w.cell? ⟨b, 0, none⟩ = some (.int .u32 24)) (c2 : w.cell? ⟨b, 2, none⟩ = some (.int .u8 2)) (c4 : w.cell? ⟨b, 4, none⟩ = some (.int .i64 c))
    (hf : w.frozen? ⟨b, 4, none⟩ = false) : Calls Try.prog 26 #[.pointer (some ⟨b, 0, none⟩), .int .u32 o] w fun e w' => e = .returned .nilIface ∧ w.setCell ⟨b, 4, none⟩ (.int .i64 (offsetC o c)) = w' := by
  have hm := u64_mask32 c
  unfold offsetC
  go_enter Try.func26, Try.ntmps26
  go_wp2_with (go_at_call 42; refine (IsDW_any _ _).mono ?_; rintro e w' ⟨rfl, rfl⟩)
  go_ret
  exact ⟨rfl, rfl⟩
/-- what a refusal leaves: an error, one new block -/
def ErrPost (w : World) (e : Ending) (w' : World) : Prop := ∃ s : ByteArray, e = .returned (.iface 97 (.pointer (some ⟨w.heap.size, 0, none⟩))) ∧ w' = w.alloc (.cells #[.string s] 99)
set_option maxHeartbeats 4000000 in
set_option maxRecDepth 100000 in
theorem Rewrite_op (b : Nat) (op o : Int) (w : World) (hop : (op == 24) = false) (c0 : w.cell? ⟨b, 0, none⟩ = some (.int .u32 op)) :
    Calls Try.prog 26 #[.pointer (some ⟨b, 0, none⟩), .int .u32 o] w (ErrPost w) := by
  go_enter Try.func26, Try.ntmps26
  go_wp2_with (first | (go_at_call 42; refine (IsDW_any _ _).mono ?_; rintro e w' ⟨rfl, rfl⟩) | (go_at_call 43; refine (New_any _ _).mono ?_; rintro e w' ⟨rfl, rfl⟩))
  go_ret
  exact ⟨_, rfl, rfl⟩
set_option maxHeartbeats 4000000 in
set_option maxRecDepth 100000 in
theorem Rewrite_src (b : Nat) (src o : Int) (w : World) (hs : (src != 2) = true) (c0 : w.cell? ⟨b, 0, none⟩ = some (.int .u32 24)) (c2 : w.cell? ⟨b, 2, none⟩ = some (.int .u8 src)) :
    Calls Try.prog 26 #[.pointer (some ⟨b, 0, none⟩), .int .u32 o] w (ErrPost w) := by
  go_enter Try.func26, Try.ntmps26
  go_wp2_with (first | (go_at_call 42; refine (IsDW_any _ _).mono ?_; rintro e w' ⟨rfl, rfl⟩) | (go_at_call 43; refine (New_any _ _).mono ?_; rintro e w' ⟨rfl, rfl⟩))
  go_ret
  exact ⟨_, rfl, rfl⟩

theorem infoIns : (Try.prog.info? 24).map (·.size) = some 7 := by kernel_rfl
set_option maxHeartbeats 4000000 in
set_option maxRecDepth 100000 in
theorem MapOffset_ok (dst off c o : Int) (w : World) (d0 : 0 ≤ dst) (d1 : dst ≤ 10) (o0 : -32768 ≤ off) (o1 : off ≤ 32767) (p0 : 0 ≤ o) (p1 : o < 4294967296) :
    Calls Try.prog 14 #[insV 24 dst 2 off c, .int .i64 o] w fun e w' => e = .returned (.tuple #[insV 24 dst 2 off (offsetC o c), .bool true]) ∧ Below w.heap.size w w' := by
  go_enter Try.func14, Try.ntmps14
  go_wp2_with (first
    | (go_at_call 24; refine (fits_any _ _ _ _ _ _ _ _ (by omega) (by omega) d0 d1 (by omega) (by omega) o0 o1).mono ?_; rintro e w' ⟨rfl, rfl⟩)
    | (go_at_call 25; refine (implInsOf_any _ _ _ _ _ _ (by omega) (by omega) d0 d1 (by omega) (by omega) o0 o1).mono ?_; rintro e w' ⟨rfl, rfl⟩)
    | (go_at_call 26; refine (Rewrite_ok _ c o _ p0 p1 (by go_simp) (by go_simp) (by go_simp) (by go_simp)).mono ?_; rintro e w' ⟨rfl, rfl⟩)
    | fail)
  refine calls_gen (fun W => W.heap[w.heap.size + 1]? = some (.cells #[.int .i64 0, .int .i64 0, .int .i64 0, .int .i64 0, .int .i64 0, .string ⟨#[]⟩, .string ⟨#[]⟩] 24 (0, 0)) ∧ Below w.heap.size w W) ⟨?_, ?_⟩ ?_
  · repeat (first | exact heap_at (by simp) | refine heap_up ?_ | refine (heap_setCell_other _ _ _ _ (by simp)).trans ?_)
  · repeat (first | exact Below.refl _ _ | refine below_up (by simp <;> omega) ?_ _ | refine Below.setCell ?_ (by simp <;> omega) _)
  rintro W ⟨hk, hb⟩
  have hk' := fun cs => setRow_heap (toldW 24 dst 2 off (offsetC o c) W) (w.heap.size + 1) _ cs _ _ (heap_dr (heap_up (heap_up (heap_up (heap_up hk)))))
  refine (told_any _ _ _ _ _ _ (by omega) (by omega) d0 (by omega) (by omega) (by omega) o0 o1).mono ?_
  rintro e w' ⟨rfl, rfl⟩
  go_wp2_with (refine wpList_store_row rfl _ _ _ rfl _ _ rfl rfl _ _ (heap_dr (heap_up (heap_up (heap_up (heap_up hk))))) infoIns rfl (by simp [Value.oneCell']) ?_)
  have hk2 := hk' #[.int .i64 24, .int .i64 dst, .int .i64 2, .int .i64 off, .int .i64 (offsetC o c), .string ⟨#[]⟩, .string ⟨#[]⟩]
  refine bodyPost_ret (results_row_tmp rfl _ _ _ _ _ _ _ rfl hk2 Try.underlying24 rfl infoIns) rfl ⟨rfl, ?_⟩
  refine below_setRow ?_ (by omega) _
  refine Below.drew ?_
  repeat (first | exact hb | refine below_up (by have := hb.size; simp <;> omega) ?_ _)

/-! Where it is no direct load from a map: an error -/
set_option maxHeartbeats 4000000 in
set_option maxRecDepth 100000 in
theorem MapOffset_err (op dst src off c o : Int) (w : World) (h0 : 0 ≤ op) (h1 : op < 131072) (d0 : 0 ≤ dst) (d1 : dst ≤ 10) (s0 : 0 ≤ src) (s1 : src ≤ 10) (o0 : -32768 ≤ off) (o1 : off ≤ 32767) (p0 : 0 ≤ o) (p1 : o < 4294967296)
    (hx : (op == 24) = false ∨ op = 24 ∧ (src != 2) = true) :
    Calls Try.prog 14 #[insV op dst src off c, .int .i64 o] w fun e w' => e = .returned (.tuple #[insV 0 0 0 0 0, .bool false]) ∧ Below w.heap.size w w' := by
  rcases hx with hx | ⟨rfl, hx⟩
  all_goals
    go_enter Try.func14, Try.ntmps14
    go_wp2_with (first
      | (go_at_call 24; refine (fits_any _ _ _ _ _ _ _ _ (by omega) (by omega) d0 d1 (by omega) (by omega) o0 o1).mono ?_; rintro e w' ⟨rfl, rfl⟩)
      | (go_at_call 25; refine (implInsOf_any _ _ _ _ _ _ (by omega) (by omega) d0 d1 (by omega) (by omega) o0 o1).mono ?_; rintro e w' ⟨rfl, rfl⟩)
      | (go_at_call 26; refine (Rewrite_op _ _ _ _ hx (by go_simp)).mono ?_; rintro e w' ⟨_, rfl, rfl⟩)
      | (go_at_call 26; refine (Rewrite_src _ _ _ _ hx (by go_simp) (by go_simp)).mono ?_; rintro e w' ⟨_, rfl, rfl⟩))
    refine bodyPost_ret (v := .tuple #[insV 0 0 0 0 0, .bool false]) (by simp [results, Try.results14, go_sem]) rfl ⟨rfl, ?_⟩
    repeat (first | exact Below.refl _ _ | refine below_up (by simp <;> omega) ?_ _ | refine Below.setCell ?_ (by simp <;> omega) _)
end Go.Proofs.Ytobgjmgepckijaa
