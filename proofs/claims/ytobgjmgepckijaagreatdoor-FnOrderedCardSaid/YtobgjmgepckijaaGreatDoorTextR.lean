/- An instruction's text: plain parts that both sides share; laws.nameOf, walked. -/
import Derived.Test.YtobgjmgepckijaaGreatDoorKinds
import Derived.Outline
namespace Go.Proofs.YtobgjmgepckijaaGreatDoor
open Go.RowKit
set_option linter.unusedVariables false
set_option linter.unusedSimpArgs false
def bnS (c : Int) : ByteArray := ⟨#[66, 117, 105, 108, 116, 105, 110, 70, 117, 110, 99, 40]⟩ ++ decS c ++ ⟨#[41]⟩
set_option maxHeartbeats 4000000 in
set_option maxRecDepth 100000 in
theorem nameOf_any (c : Int) (w : World) (h0 : 0 ≤ c) (h1 : c < 268435456) : Calls Tryz.prog 18 #[.int .i64 c] w fun e w' => e = .returned (.string (bnS c)) ∧ w = w' := by
  have HD := Lib.hid (Decimal_any c w (by omega) (by omega))
  have hz := decS_size (n := c) (by omega) (by omega)
  unfold bnS
  obtain ⟨S, hS⟩ : ∃ S, decS c = S := ⟨_, rfl⟩
  rw [hS] at HD hz ⊢
  clear hS
  go_enter Tryz.func18, Tryz.ntmps18
  go_wp2_with (go_at_call 49; refine HD.out.mono ?_; rintro e w' ⟨rfl, rfl⟩)
  go_ret
  exact ⟨rfl, rfl⟩
abbrev insR (op dst src off c : Int) (r : ByteArray) : Value := .agg #[.int .i64 op, .int .i64 dst, .int .i64 src, .int .i64 off, .int .i64 c, .string ⟨#[]⟩, .string r]
abbrev insRow7 (op dst src off c : Int) (r : ByteArray) : Obj := .cells #[.int .i64 op, .int .i64 dst, .int .i64 src, .int .i64 off, .int .i64 c, .string ⟨#[]⟩, .string r] 26 (0, 0)
theorem bnS_size {c : Int} (c0 : 0 ≤ c) (c1 : c < 268435456) : (bnS c).size ≤ 100 := by
  have h := decS_size (n := c) (by omega) (by omega)
  unfold bnS
  rw [ByteArray.size_append, ByteArray.size_append]
  have h1 : (⟨#[66, 117, 105, 108, 116, 105, 110, 70, 117, 110, 99, 40]⟩ : ByteArray).size = 12 := rfl
  have h2 : (⟨#[41]⟩ : ByteArray).size = 1 := rfl
  omega
/-- what the walk of an instruction's text knows of it -/
structure SGood (op dst src off c : Int) (r : ByteArray) : Prop where
  mem : op ∈ wordOps
  d0 : 0 ≤ dst
  d1 : dst ≤ 10
  s0 : 0 ≤ src
  s1 : src ≤ 10
  o0 : -32768 ≤ off
  o1 : off ≤ 32767
  c0 : -9223372036854775808 ≤ c
  c1 : c ≤ 9223372036854775807
  rs : r.size ≤ 100
theorem sCode_size : ∀ op ∈ wordOps, (sCode op).size ≤ 100 := by decide +kernel
theorem sReg_size {d : Int} (d0 : 0 ≤ d) (d1 : d ≤ 10) : (sRegS d).size ≤ 100 := by
  have h := decS_size (n := d) (by omega) (by omega)
  unfold sRegS
  split
  · decide
  · rw [ByteArray.size_append]
    have : (⟨#[114]⟩ : ByteArray).size = 1 := rfl
    omega
abbrev fnName : Value := .func (.func 18) #[] #[]
def STPost (T : ByteArray) (w : World) (e : Ending) (w' : World) : Prop := e = .returned (.string T) ∧ Below w.heap.size w w'
/-- what an instruction refers to stands behind its text, in angle brackets -/
def refC (T r : ByteArray) : ByteArray := if r = ⟨#[]⟩ then T else T ++ (⟨#[32, 60]⟩ ++ r ++ ⟨#[62]⟩)
theorem ref_kinds (r : ByteArray) : r = ⟨#[]⟩ ∨ ((r.toList == []) = false ∧ (r == ⟨#[]⟩) = false ∧ ∀ T, refC T r = T ++ (⟨#[32, 60]⟩ ++ r ++ ⟨#[62]⟩)) := by
  by_cases hr : r = ⟨#[]⟩
  · exact .inl hr
  · have hl : (r.toList == []) = false := by
      have h : r.toList ≠ [] := fun h => hr ((toList_nil_iff_emptyBytes r).1 h)
      simpa using h
    have hb : (r == ⟨#[]⟩) = false := by rw [beq_toListBytes, ByteArray.toList_eq ⟨#[]⟩]; exact hl
    exact .inr ⟨hl, hb, fun T => by unfold refC; rw [if_neg hr]⟩
/-- the instruction's box, and what is as it was -/
def SBox (w : World) (op dst src off c : Int) (r : ByteArray) (W : World) : Prop := W.heap[w.heap.size]? = some (insRow7 op dst src off c r) ∧ Below w.heap.size w W
section
variable {w W W' : World} {op dst src off c : Int} {r : ByteArray}
theorem SBox.start : SBox w op dst src off c r (w.alloc (insRow7 op dst src off c r)) := ⟨heap_at rfl, (Below.refl _ _).alloc (Nat.le_refl _) _⟩
theorem SBox.below (h : SBox w op dst src off c r W) (hb : Below W.heap.size W W') : SBox w op dst src off c r W' := ⟨(hb.block _ (heap_lt h.1)).trans h.1, bel_tr h.2 hb⟩
theorem SBox.drew (h : SBox w op dst src off c r W) : SBox w op dst src off c r W.drew := ⟨h.1, h.2.drew⟩
theorem SBox.alloc (h : SBox w op dst src off c r W) (o : Obj) : SBox w op dst src off c r (W.alloc o) := h.below ((Below.refl _ _).alloc (Nat.le_refl _) _)
theorem SBox.cells (h : SBox w op dst src off c r W) : W.cell? ⟨w.heap.size, 0, none⟩ = some (.int .i64 op) ∧ W.cell? ⟨w.heap.size, 1, none⟩ = some (.int .i64 dst) ∧ W.cell? ⟨w.heap.size, 2, none⟩ = some (.int .i64 src) ∧
    W.cell? ⟨w.heap.size, 3, none⟩ = some (.int .i64 off) ∧ W.cell? ⟨w.heap.size, 4, none⟩ = some (.int .i64 c) ∧ W.cell? ⟨w.heap.size, 6, none⟩ = some (.string r) :=
  ⟨cell_of_row _ _ 0 _ _ _ h.1, cell_of_row _ _ 1 _ _ _ h.1, cell_of_row _ _ 2 _ _ _ h.1, cell_of_row _ _ 3 _ _ _ h.1, cell_of_row _ _ 4 _ _ _ h.1, cell_of_row _ _ 6 _ _ _ h.1⟩
end
end Go.Proofs.YtobgjmgepckijaaGreatDoor
