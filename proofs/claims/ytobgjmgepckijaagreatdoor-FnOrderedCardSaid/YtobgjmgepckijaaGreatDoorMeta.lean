/- An instruction that refers to something: WithReference and Reference, walked; impl.insOf with a reference. -/
import Derived.Test.YtobgjmgepckijaaGreatDoorImpl
import Derived.Test.YtobgjmgepckijaaGreatDoorKinds
import Derived.Lib.LaidTab
import Derived.BigQuiet
import Derived.Deep.QuietTactic
import Derived.Outline
namespace Go.Proofs.YtobgjmgepckijaaGreatDoor
open Go.RowKit
set_option linter.unusedVariables false
set_option linter.unusedSimpArgs false
/-- the one element of a list of metadata: a reference -/
abbrev refKey : Value := .iface 175 (.agg #[])
def refObj (r : ByteArray) : Obj := .cells #[.pointer none, refKey, .iface 9 (.string r)] 200
/-- what an instruction refers to -/
def RefOf (p : Option Addr) (r : ByteArray) (w : World) : Prop := (p = none ∧ r = ⟨#[]⟩) ∨ ∃ b, p = some ⟨b, 0, none⟩ ∧ w.heap[b]? = some (refObj r)
theorem RefOf.below {p : Option Addr} {r : ByteArray} {w w' : World} (h : RefOf p r w) (hb : Below w.heap.size w w') : RefOf p r w' := by
  rcases h with h | ⟨b, rfl, h⟩
  · exact .inl h
  · exact .inr ⟨b, rfl, (hb.block b (Array.getElem?_eq_some_iff.1 h).1).trans h⟩
abbrev asmP (op dst src off c : Int) (p : Option Addr) : Value := .agg #[.int .u32 op, .int .u8 dst, .int .u8 src, .int .i16 off, .int .i64 c, .pointer p]
set_option maxHeartbeats 4000000 in
set_option maxRecDepth 100000 in
theorem find_one (a : Addr) (b : Nat) (r : ByteArray) (w : World) (hc : w.cell? a = some (.pointer (some ⟨b, 0, none⟩))) (hb : w.heap[b]? = some (refObj r)) : Calls Tryz.prog 128 #[.pointer (some a), refKey] w fun e w' => e = .returned (.pointer (some ⟨b, 0, none⟩)) ∧ w = w' := by
  have hk : ∀ W : World, (binOp .eql 20 refKey refKey).run Tryz.prog W = .ok (.bool true) W := fun _ => by kernel_rfl
  have c1 : w.cell? ⟨b, 1, none⟩ = some refKey := cell_of_row _ _ 1 _ _ _ hb
  go_enter Tryz.func128, Tryz.ntmps128
  go_wp2
  refine wp_loop_rounds 1 ?_
  rw [rounds_succ]
  go_wp2
  go_ret
  exact ⟨rfl, rfl⟩
set_option maxHeartbeats 4000000 in
set_option maxRecDepth 100000 in
theorem Get_one (a : Addr) (b : Nat) (r : ByteArray) (w : World) (hc : w.cell? a = some (.pointer (some ⟨b, 0, none⟩))) (hb : w.heap[b]? = some (refObj r)) : Calls Tryz.prog 106 #[.pointer (some a), refKey] w fun e w' => e = .returned (.iface 9 (.string r)) ∧ w = w' := by
  have c2 : w.cell? ⟨b, 2, none⟩ = some (.iface 9 (.string r)) := cell_of_row _ _ 2 _ _ _ hb
  have HF := Lib.hid (find_one a b r w hc hb)
  clear hc hb
  go_enter Tryz.func106, Tryz.ntmps106
  go_wp2_with (go_at_call 128; refine HF.out.mono ?_; rintro e w' ⟨rfl, rfl⟩)
  go_ret
  exact ⟨rfl, rfl⟩
set_option maxHeartbeats 4000000 in
set_option maxRecDepth 100000 in
theorem Reference_any (op dst src off c : Int) (p : Option Addr) (r : ByteArray) (w : World) (h : RefOf p r w) : Calls Tryz.prog 61 #[asmP op dst src off c p] w fun e w' => e = .returned (.string r) ∧ Below w.heap.size w w' := by
  rcases h with ⟨rfl, rfl⟩ | ⟨b, rfl, hb⟩
  · exact (Reference_nil op dst src off c w).mono fun _ _ ⟨he, hw⟩ => ⟨he, by subst hw; exact (Below.refl _ _).alloc (Nat.le_refl _) _⟩
  · have hta : ∀ W : World, (Instr.typeAssert (.iface 9 (.string r)) 20 9 true).run Tryz.prog W = .ok (.tuple #[.string r, .bool true]) W := fun _ => by kernel_rfl
    have HG := Lib.hid (fun a W (hc : World.cell? W a = some (.pointer (some ⟨b, 0, none⟩))) (hb : W.heap[b]? = some (refObj r)) => Get_one a b r W hc hb)
    have HB := Lib.hid hb
    clear hb
    go_enter Tryz.func61, Tryz.ntmps61
    go_wp2_with (go_at_call 106; refine (HG.out _ _ (by go_simp) (heap_up HB.out)).mono ?_; rintro e w' ⟨rfl, rfl⟩)
    go_ret
    exact ⟨rfl, (Below.refl _ _).alloc (Nat.le_refl _) _⟩
/-! ## Numbers -/
theorem itoa_dec (n : Int) : (⟨(Lib.itoa n).toArray⟩ : ByteArray) = decS n := by
  unfold Lib.itoa decS natS
  by_cases h : n < 0
  · rw [if_pos h, if_pos h]
    apply ByteArray.ext
    simp [ByteArray.data_append]
  · rw [if_neg h, if_neg h]
abbrev PowTab (w : World) : Prop := Lib.TabIs Tryz.prog w "internal/strconv.uint64pow10" .u64 Lib.pow10Tab
theorem powAt : Tryz.prog.globalNamed "internal/strconv.uint64pow10" = some 6 := by kernel_rfl
theorem below_drewN' {w : World} (n : Nat) : Below w.heap.size w (w.drewN n) := ⟨rfl, rfl, rfl, Nat.le_refl _, fun _ _ => rfl⟩
theorem below_grow {w : World} {B : Nat} (hB : B ≤ w.heap.size) (os : Array Obj) : Below B w (Go.Sort.grow w os) :=
  ⟨rfl, rfl, rfl, by simp [Go.Sort.grow], fun k hk => by simp [Go.Sort.grow, Array.getElem?_append, Nat.lt_of_lt_of_le hk hB]⟩
theorem Dec_any (n : Int) (w : World) (h0 : -9223372036854775808 ≤ n) (h1 : n ≤ 9223372036854775807) (ht : PowTab w) : Calls Tryz.prog 65 #[.int .i64 n, .int .i64 10] w fun e w' => e = .returned (.string (decS n)) ∧ Below w.heap.size w w' :=
  (Tryz.strconv_FormatInt_10 n h0 h1 w ht).mono fun e w' ⟨he, k, os, hw⟩ => ⟨by rw [he, itoa_dec], by subst hw; exact (below_drewN' k).trans (below_grow (w := w.drewN k) (B := w.heap.size) (Nat.le_refl w.heap.size) os)⟩
theorem ItoaDec_any (n : Int) (w : World) (h0 : -9223372036854775808 ≤ n) (h1 : n ≤ 9223372036854775807) (ht : PowTab w) : Calls Tryz.prog 68 #[.int .i64 n] w fun e w' => e = .returned (.string (decS n)) ∧ Below w.heap.size w w' :=
  (Tryz.strconv_Itoa n h0 h1 w ht).mono fun e w' ⟨he, k, os, hw⟩ => ⟨by rw [he, itoa_dec], by subst hw; exact (below_drewN' k).trans (below_grow (w := w.drewN k) (B := w.heap.size) (Nat.le_refl w.heap.size) os)⟩
theorem pow_lt {w : World} (h : PowTab w) : 6 < w.heap.size := World.block_lt_of_cell? w _ (h.cell powAt 0 (by decide))
theorem pow_below {w w' : World} (h : PowTab w) (hb : Below w.heap.size w w') : PowTab w' := by
  have := var?_below hb powAt (pow_lt h) h
  exact this
/-! ## What the package asks of an instruction -/
set_option maxHeartbeats 4000000 in
set_option maxRecDepth 100000 in
theorem LoadFromMap_any (b : Nat) (op src : Int) (w : World) (c0 : w.cell? ⟨b, 0, none⟩ = some (.int .u32 op)) (c2 : w.cell? ⟨b, 2, none⟩ = some (.int .u8 src)) :
    Calls Tryz.prog 85 #[.pointer (some ⟨b, 0, none⟩)] w fun e w' => e = .returned (.bool (op == 24 && (src == 1 || src == 2))) ∧ ∃ n, w' = w.drewN n := by
  cases h : (op == 24)
  · go_enter Tryz.func85, Tryz.ntmps85
    go_wp2_with fail
    go_quiet ((go_at_call 119; exact quiet_left (LoadImmOp24 _)))
    go_wp2
    go_ret
    exact ⟨by simp, nq, rfl⟩
  · cases hs : (src == 1)
    all_goals
      go_enter Tryz.func85, Tryz.ntmps85
      go_wp2_with fail
      go_quiet ((go_at_call 119; exact quiet_left (LoadImmOp24 _)))
      go_wp2
      go_ret
      exact ⟨by simp, nq, rfl⟩
set_option maxHeartbeats 4000000 in
set_option maxRecDepth 100000 in
theorem mapFd_any (b : Nat) (c : Int) (w : World) (c4 : w.cell? ⟨b, 4, none⟩ = some (.int .i64 c)) : Calls Tryz.prog 86 #[.pointer (some ⟨b, 0, none⟩)] w fun e w' => e = .returned (.int .i64 (IntKind.i32.wrap c)) ∧ w = w' := by
  have hw : IntKind.i64.wrap (IntKind.i32.wrap c) = IntKind.i32.wrap c := by simp only [IntKind.wrap_i64, IntKind.wrap_i32]; omega
  go_enter Tryz.func86, Tryz.ntmps86
  go_wp2_with fail
  go_ret
  exact ⟨congrArg (fun n => Ending.returned (Value.int IntKind.i64 n)) (by first | exact hw | (simp only [wrap64, wrap32, IntKind.wrap_i32]; omega)), rfl⟩
set_option maxHeartbeats 4000000 in
set_option maxRecDepth 100000 in
theorem mapOffset_any (b : Nat) (c : Int) (w : World) (c4 : w.cell? ⟨b, 4, none⟩ = some (.int .i64 c)) : Calls Tryz.prog 87 #[.pointer (some ⟨b, 0, none⟩)] w fun e w' => e = .returned (.int .u32 (IntKind.u32.wrap (IntKind.u64.wrap c / 4294967296))) ∧ w = w' := by
  go_enter Tryz.func87, Tryz.ntmps87
  go_wp2_with fail
  go_ret
  exact ⟨rfl, rfl⟩
end Go.Proofs.YtobgjmgepckijaaGreatDoor
