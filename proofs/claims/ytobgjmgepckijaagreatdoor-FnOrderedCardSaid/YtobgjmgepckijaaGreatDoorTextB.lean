/- The state between a builder's writes in Instruction.String; what the texts are. -/
import Derived.Test.YtobgjmgepckijaaGreatDoorTextA
import Derived.Outline
namespace Go.Proofs.YtobgjmgepckijaaGreatDoor
open Go.RowKit
set_option linter.unusedVariables false
set_option linter.unusedSimpArgs false
abbrev boxOf (op dst src off c : Int) (p : Option Addr) : Obj := .cells #[.int .u32 op, .int .u8 dst, .int .u8 src, .int .i16 off, .int .i64 c, .pointer p] 79
/-- an instruction's box, then a builder that holds pieces -/
def St (w : World) (b1 : Nat) (op dst src off c : Int) (p : Option Addr) (ss : List ByteArray) (k : Nat) (W : World) : Prop :=
  b1 = (w.alloc (boxOf op dst src off c p)).heap.size ∧ Bld (w.alloc (boxOf op dst src off c p)) ss k W
section
variable {w : World} {b1 : Nat} {op dst src off c : Int} {p : Option Addr} {ss : List ByteArray} {k : Nat} {W : World}
theorem St.start : St w (w.heap.size + 1) op dst src off c p [] 0 ((w.alloc (boxOf op dst src off c p)).alloc (.cells #[.pointer none, .slice none 0 0] 126)) := ⟨by simp, Bld.start _⟩
theorem St.box (h : St w b1 op dst src off c p ss k W) : W.heap[w.heap.size]? = some (boxOf op dst src off c p) := (h.2.2.1.block _ (by simp)).trans (heap_at rfl)
theorem St.cells (h : St w b1 op dst src off c p ss k W) : W.cell? ⟨w.heap.size, 0, none⟩ = some (.int .u32 op) ∧ W.cell? ⟨w.heap.size, 1, none⟩ = some (.int .u8 dst) ∧ W.cell? ⟨w.heap.size, 2, none⟩ = some (.int .u8 src) ∧
    W.cell? ⟨w.heap.size, 3, none⟩ = some (.int .i16 off) ∧ W.cell? ⟨w.heap.size, 4, none⟩ = some (.int .i64 c) ∧ W.cell? ⟨w.heap.size, 5, none⟩ = some (.pointer p) :=
  ⟨cell_of_row _ _ 0 _ _ _ h.box, cell_of_row _ _ 1 _ _ _ h.box, cell_of_row _ _ 2 _ _ _ h.box, cell_of_row _ _ 3 _ _ _ h.box, cell_of_row _ _ 4 _ _ _ h.box, cell_of_row _ _ 5 _ _ _ h.box⟩
theorem St.world (h : St w b1 op dst src off c p ss k W) : Below w.heap.size w W := ((Below.refl _ _).alloc (Nat.le_refl _) _).trans (h.2.2.1.mono (by simp))
theorem St.below {W' : World} (h : St w b1 op dst src off c p ss k W) (hb : Below W.heap.size W W') : St w b1 op dst src off c p ss k W' := ⟨h.1, h.2.below hb⟩
theorem St.drewN (h : St w b1 op dst src off c p ss k W) (n : Nat) : St w b1 op dst src off c p ss k (W.drewN n) := h.below (below_drewN' n)
theorem St.drew (h : St w b1 op dst src off c p ss k W) : St w b1 op dst src off c p ss k W.drew := h.below (Below.refl _ _).drew
theorem St.write (h : St w b1 op dst src off c p ss k W) (s : ByteArray) (hs : s.size ≤ 1000) (hk : k ≤ 1000) :
    Calls Tryz.prog 71 #[.pointer (some ⟨b1, 0, none⟩), .string s] W fun e W' => e = .returned (.tuple #[.int .i64 s.size, .nilIface]) ∧ St w b1 op dst src off c p (ss ++ [s]) (k + 1) W' := by
  obtain ⟨rfl, h⟩ := h
  exact (h.write s hs hk).mono fun _ _ ⟨h1, h2⟩ => ⟨h1, rfl, h2⟩
theorem St.string (h : St w b1 op dst src off c p ss k W) : Calls Tryz.prog 80 #[.pointer (some ⟨b1, 0, none⟩)] W fun e W' => e = .returned (.string (catS ss)) ∧ Below w.heap.size w W' := by
  obtain ⟨rfl, h⟩ := h
  exact h.string.mono fun _ _ ⟨h1, h2⟩ => ⟨h1, ((Below.refl _ _).alloc (Nat.le_refl _) _).trans (h2.mono (by simp))⟩
theorem St.pow (h : St w b1 op dst src off c p ss k W) (ht : PowTab w) : PowTab W := pow_below ht h.world
theorem St.ref {r : ByteArray} (h : St w b1 op dst src off c p ss k W) (hr : RefOf p r w) : RefOf p r W := hr.below h.world
end
/-! ## The texts -/
theorem catS_cons (s : ByteArray) (ss : List ByteArray) : catS (s :: ss) = s ++ catS ss := by
  have h : ∀ (l : List ByteArray) (a : List UInt8), l.foldl (fun x y => x ++ y.data.toList) a = a ++ cat l := by
    intro l
    induction l with
    | nil => intro a; simp [cat]
    | cons x l ih => intro a; rw [List.foldl_cons, ih, show cat (x :: l) = x.data.toList ++ cat l by unfold cat; rw [List.foldl_cons, ih]; simp [cat], List.append_assoc]
  apply ByteArray.ext
  apply Array.ext'
  simp only [catS, ByteArray.data_append, Array.toList_append]
  show cat (s :: ss) = _
  unfold cat
  rw [List.foldl_cons, h]
  simp [cat]
theorem catS_nil : catS [] = ⟨#[]⟩ := rfl
theorem op_ne65 {op : Int} (h : op ∈ wordOps) : (op == 65535) = false := by
  have := (show ∀ q ∈ wordOps, (q == 65535) = false by decide +kernel)
  exact this op h
theorem szS (a : Array UInt8) : (⟨a⟩ : ByteArray).size = a.size := rfl
theorem catS_snoc (ss : List ByteArray) (s : ByteArray) : catS (ss ++ [s]) = catS ss ++ s := by
  apply ByteArray.ext
  apply Array.ext'
  simp only [catS, ByteArray.data_append, Array.toList_append, cat_snoc]
end Go.Proofs.YtobgjmgepckijaaGreatDoor
