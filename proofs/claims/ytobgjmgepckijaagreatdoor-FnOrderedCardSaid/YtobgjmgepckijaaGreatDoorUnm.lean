/- Instruction.Unmarshal: what its walks share. -/
import Derived.Test.YtobgjmgepckijaaGreatDoorSrc
import Derived.Test.YtobgjmgepckijaaGreatDoorOrder
import Derived.Test.YtobgjmgepckijaaGreatDoorCode
import Derived.Test.YtobgjmgepckijaaGreatDoorMar
namespace Go.Proofs.YtobgjmgepckijaaGreatDoor
open Go.RowKit
set_option linter.unusedVariables false
set_option linter.unusedSimpArgs false
def num2 (big : Bool) (b2 b3 : Int) : Int := if big then b3 + b2 * 256 else b2 + b3 * 256
def num4 (big : Bool) (b4 b5 b6 b7 : Int) : Int := if big then b7 + b6 * 256 + b5 * 65536 + b4 * 16777216 else b4 + b5 * 256 + b6 * 65536 + b7 * 16777216
def dstOf (big : Bool) (r : Int) : Int := if big then r / 16 else r % 16
def srcOf (big : Bool) (r : Int) : Int := if big then r % 16 else r / 16
def c32 (x : Int) : Int := IntKind.i64.wrap (IntKind.i32.wrap x)
/-- an instruction in a block of its own, without metadata -/
def InsAt (w : World) (ib : Nat) (op d s off c : Int) : Prop := w.heap[ib]? = some (.cells #[.int .u32 op, .int .u8 d, .int .u8 s, .int .i16 off, .int .i64 c, .pointer none] 79 (0, 0))
/-- what may have turned: the source's block, the instruction's, new ones -/
def Kept2 (w wx : World) (so ib : Nat) : Prop := Below so w wx ∧ ∀ k, k < w.heap.size → k ≠ so → k ≠ ib → wx.heap[k]? = w.heap[k]?
theorem Kept2.refl (w : World) (so ib : Nat) : Kept2 w w so ib := ⟨Below.refl _ _, fun _ _ _ _ => rfl⟩
theorem Kept2.trans {a b c : World} {so ib : Nat} (h : Kept2 a b so ib) (k : Kept2 b c so ib) : Kept2 a c so ib :=
  ⟨h.1.trans k.1, fun i hi hs hb => (k.2 i (Nat.lt_of_lt_of_le hi h.1.size) hs hb).trans (h.2 i hi hs hb)⟩
theorem Kept2.grown {a b c : World} {so ib : Nat} (h : Kept2 a b so ib) (g : b.grownBy c none) (hso : so < a.heap.size) : Kept2 a c so ib :=
  ⟨h.1.grown g (Nat.le_trans (Nat.le_of_lt hso) h.1.size) (by simp), fun i hi hs hb => (g.block i (Nat.lt_of_lt_of_le hi h.1.size) (by simp)).trans (h.2 i hi hs hb)⟩
theorem Kept2.setIb {a b : World} {so ib : Nat} (h : Kept2 a b so ib) (hib : so < ib) (i : Nat) (v : Value) : Kept2 a (b.setCell ⟨ib, i, none⟩ v) so ib :=
  ⟨h.1.setCell (p := ⟨ib, i, none⟩) (Nat.le_of_lt hib) v, fun k hk hs hb => (heap_setCell_other b ⟨ib, i, none⟩ k v (by simpa using hb)).trans (h.2 k hk hs hb)⟩
theorem Kept2.alloc {a b : World} {so ib : Nat} (h : Kept2 a b so ib) (hso : so < a.heap.size) (o : Obj) : Kept2 a (b.alloc o) so ib := h.grown (World.grownBy_alloc b o none) hso
theorem Kept2.drew {a b : World} {so ib : Nat} (h : Kept2 a b so ib) : Kept2 a b.drew so ib := ⟨h.1.drew, h.2⟩
/-- where the walk stands: the instruction, the bytes that were read, the source, all else -/
def UState (w wx : World) (ib so D : Nat) (op d s off c b0 b1 b2 b3 b4 b5 b6 b7 : Int) (rest : List Int) : Prop :=
  InsAt wx ib op d s off c ∧ Eight wx D b0 b1 b2 b3 b4 b5 b6 b7 ∧ SrcAt wx so rest ∧ Kept2 w wx so ib
def UnmPost (w : World) (ib so : Nat) (op d s off c : Int) (rest : List Int) (e : Ending) (w' : World) : Prop :=
  e = .returned .nilIface ∧ InsAt w' ib op d s off c ∧ SrcAt w' so rest ∧ Kept2 w w' so ib
theorem insAt_set0 {w : World} {ib : Nat} {op d s off c : Int} (h : InsAt w ib op d s off c) (x : Int) : InsAt (w.setCell ⟨ib, 0, none⟩ (.int .u32 x)) ib x d s off c := heap_setCell_same w ib 0 _ _ _ h
theorem insAt_set1 {w : World} {ib : Nat} {op d s off c : Int} (h : InsAt w ib op d s off c) (x : Int) : InsAt (w.setCell ⟨ib, 1, none⟩ (.int .u8 x)) ib op x s off c := heap_setCell_same w ib 1 _ _ _ h
theorem insAt_set2 {w : World} {ib : Nat} {op d s off c : Int} (h : InsAt w ib op d s off c) (x : Int) : InsAt (w.setCell ⟨ib, 2, none⟩ (.int .u8 x)) ib op d x off c := heap_setCell_same w ib 2 _ _ _ h
theorem insAt_set3 {w : World} {ib : Nat} {op d s off c : Int} (h : InsAt w ib op d s off c) (x : Int) : InsAt (w.setCell ⟨ib, 3, none⟩ (.int .i16 x)) ib op d s x c := heap_setCell_same w ib 3 _ _ _ h
theorem insAt_set4 {w : World} {ib : Nat} {op d s off c : Int} (h : InsAt w ib op d s off c) (x : Int) : InsAt (w.setCell ⟨ib, 4, none⟩ (.int .i64 x)) ib op d s off x := heap_setCell_same w ib 4 _ _ _ h
theorem src_set {w : World} {so ib : Nat} {bs : List Int} (h : SrcAt w so bs) (hib : so < ib) (i : Nat) (v : Value) : SrcAt (w.setCell ⟨ib, i, none⟩ v) so bs :=
  h.kept ((Below.refl so w).setCell (p := ⟨ib, i, none⟩) (Nat.le_of_lt hib) v) (heap_setCell_other w ⟨ib, i, none⟩ so v (by simp; omega))
theorem src_lt {w : World} {so : Nat} {bs : List Int} (h : SrcAt w so bs) : so < w.heap.size := by
  obtain ⟨A, c, h1, _⟩ := h
  exact heap_lt h1
theorem src_grown {w w' : World} {so : Nat} {bs : List Int} (h : SrcAt w so bs) (g : w.grownBy w' none) : SrcAt w' so bs :=
  h.kept ((Below.refl so w).grown g (Nat.le_of_lt (src_lt h)) (by simp)) (g.block so (src_lt h) (by simp))
theorem insAt_grown {w w' : World} {ib : Nat} {op d s off c : Int} (h : InsAt w ib op d s off c) (g : w.grownBy w' none) : InsAt w' ib op d s off c := (g.block ib (heap_lt h) (by simp)).trans h
theorem eight_grown {w w' : World} {D : Nat} {b0 b1 b2 b3 b4 b5 b6 b7 : Int} (h : Eight w D b0 b1 b2 b3 b4 b5 b6 b7) (g : w.grownBy w' none) : Eight w' D b0 b1 b2 b3 b4 b5 b6 b7 := (g.block D (heap_lt h) (by simp)).trans h
theorem eight_set {w : World} {D ib : Nat} {b0 b1 b2 b3 b4 b5 b6 b7 : Int} (h : Eight w D b0 b1 b2 b3 b4 b5 b6 b7) (hne : D ≠ ib) (i : Nat) (v : Value) : Eight (w.setCell ⟨ib, i, none⟩ v) D b0 b1 b2 b3 b4 b5 b6 b7 :=
  (heap_setCell_other w ⟨ib, i, none⟩ D v (by simpa using hne)).trans h
theorem na_le_Uint16 (w : World) : Sem.run Tryz.prog (nilAhead 348 106 (.agg #[]) "Uint16") w = .ok (some false) w := by kernel_rfl
theorem me_le_Uint16 (w : World) : Sem.run Tryz.prog (method 348 106 (.agg #[]) "Uint16") w = .ok (177, .agg #[]) w := by kernel_rfl
theorem na_le_Uint32 (w : World) : Sem.run Tryz.prog (nilAhead 348 106 (.agg #[]) "Uint32") w = .ok (some false) w := by kernel_rfl
theorem me_le_Uint32 (w : World) : Sem.run Tryz.prog (method 348 106 (.agg #[]) "Uint32") w = .ok (178, .agg #[]) w := by kernel_rfl
theorem na_be_Uint16 (w : World) : Sem.run Tryz.prog (nilAhead 348 105 (.agg #[]) "Uint16") w = .ok (some false) w := by kernel_rfl
theorem me_be_Uint16 (w : World) : Sem.run Tryz.prog (method 348 105 (.agg #[]) "Uint16") w = .ok (169, .agg #[]) w := by kernel_rfl
theorem na_be_Uint32 (w : World) : Sem.run Tryz.prog (nilAhead 348 105 (.agg #[]) "Uint32") w = .ok (some false) w := by kernel_rfl
theorem me_be_Uint32 (w : World) : Sem.run Tryz.prog (method 348 105 (.agg #[]) "Uint32") w = .ok (170, .agg #[]) w := by kernel_rfl
end Go.Proofs.YtobgjmgepckijaaGreatDoor
