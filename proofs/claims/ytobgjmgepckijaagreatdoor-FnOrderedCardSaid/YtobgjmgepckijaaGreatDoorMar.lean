/- Instruction.Marshal: what its walks share. -/
import Derived.Test.YtobgjmgepckijaaGreatDoorOrder
import Derived.Test.YtobgjmgepckijaaGreatDoorSink
import Derived.Test.YtobgjmgepckijaaGreatDoorCode
import Derived.Deep.RegionHeld3
import Derived.Deep.RegionWith
import Derived.StillTailTactics
import Derived.Outline
namespace Go.Proofs.YtobgjmgepckijaaGreatDoor
open Go.RowKit
set_option linter.unusedVariables false
set_option linter.unusedSimpArgs false
def MarPost (w : World) (sk : Nat) (bs out : List Int) (e : Ending) (w' : World) : Prop :=
  ∃ n, e = .returned (.tuple #[.int .u64 n, .nilIface]) ∧ (∃ v, SinkAt w' sk v (bs ++ out)) ∧ Below sk w w'
theorem make8 (w : World) : Sem.run Tryz.prog (Instr.makeSlice 28 (.int .i64 8) (.int .i64 8)) w = .ok (.slice (some ⟨w.heap.size, 0, none⟩) 8 8) (w.alloc (.cells #[.int .u8 0, .int .u8 0, .int .u8 0, .int .u8 0, .int .u8 0, .int .u8 0, .int .u8 0, .int .u8 0] 5)) := by
  obtain ⟨i0, hi, hz0, hz1, hz2⟩ := info_parts infoByte
  have h := run_makeSlice (P := Tryz.prog) w 28 5 i0 (.int .u8 0) Tryz.underlying28 hi hz0 .i64 .i64 8 8 (by omega) (by omega) (by rw [hz1]; decide) (by rw [hz2]; decide) (by omega)
  rw [h, hz1, show madeCells (Value.int IntKind.u8 0).cells (Int.toNat 8 * 1) = #[.int .u8 0, .int .u8 0, .int .u8 0, .int .u8 0, .int .u8 0, .int .u8 0, .int .u8 0, .int .u8 0] by kernel_rfl]
  rfl
theorem na_le_PutUint16 (w : World) : Sem.run Tryz.prog (nilAhead 348 106 (.agg #[]) "PutUint16") w = .ok (some false) w := by kernel_rfl
theorem me_le_PutUint16 (w : World) : Sem.run Tryz.prog (method 348 106 (.agg #[]) "PutUint16") w = .ok (173, .agg #[]) w := by kernel_rfl
theorem na_le_PutUint32 (w : World) : Sem.run Tryz.prog (nilAhead 348 106 (.agg #[]) "PutUint32") w = .ok (some false) w := by kernel_rfl
theorem me_le_PutUint32 (w : World) : Sem.run Tryz.prog (method 348 106 (.agg #[]) "PutUint32") w = .ok (174, .agg #[]) w := by kernel_rfl
theorem na_be_PutUint16 (w : World) : Sem.run Tryz.prog (nilAhead 348 105 (.agg #[]) "PutUint16") w = .ok (some false) w := by kernel_rfl
theorem me_be_PutUint16 (w : World) : Sem.run Tryz.prog (method 348 105 (.agg #[]) "PutUint16") w = .ok (165, .agg #[]) w := by kernel_rfl
theorem na_be_PutUint32 (w : World) : Sem.run Tryz.prog (nilAhead 348 105 (.agg #[]) "PutUint32") w = .ok (some false) w := by kernel_rfl
theorem me_be_PutUint32 (w : World) : Sem.run Tryz.prog (method 348 105 (.agg #[]) "PutUint32") w = .ok (166, .agg #[]) w := by kernel_rfl
theorem me_Write (a : Addr) (w : World) : Sem.run Tryz.prog (method 348 55 (.pointer (some a)) "Write") w = .ok (161, .pointer (some a)) w := by kernel_rfl
theorem eight_drew {w : World} {D : Nat} {b0 b1 b2 b3 b4 b5 b6 b7 : Int} (h : Eight w D b0 b1 b2 b3 b4 b5 b6 b7) : Eight w.drew D b0 b1 b2 b3 b4 b5 b6 b7 := h
theorem sink_up {w : World} {sk : Nat} {v : Value} {bs : List Int} (h : SinkAt w sk v bs) (o : Obj) : SinkAt (w.alloc o) sk v bs := ⟨h.1.alloc _, heap_up h.2⟩
theorem sink_kept {w w' : World} {sk D : Nat} {v : Value} {bs : List Int} (h : SinkAt w sk v bs) (hg : w.grownBy w' (some D)) (hne : sk ≠ D) (hv : v.ownBlock ≠ some D) : SinkAt w' sk v bs :=
  ⟨h.1.kept hg (.inr hv), (hg.block sk (heap_lt h.2) (fun e => hne (by simpa using e))).trans h.2⟩
def rawB (big : Bool) (o r f k : Int) : List Int :=
  if big then eight o r (byteAt 1 f) (byteAt 0 f) (byteAt 3 k) (byteAt 2 k) (byteAt 1 k) (byteAt 0 k) else eight o r (byteAt 0 f) (byteAt 1 f) (byteAt 0 k) (byteAt 1 k) (byteAt 2 k) (byteAt 3 k)
theorem rawF (o r f k : Int) : rawB false o r f k = eight o r (byteAt 0 f) (byteAt 1 f) (byteAt 0 k) (byteAt 1 k) (byteAt 2 k) (byteAt 3 k) := rfl
theorem rawT (o r f k : Int) : rawB true o r f k = eight o r (byteAt 1 f) (byteAt 0 f) (byteAt 3 k) (byteAt 2 k) (byteAt 1 k) (byteAt 0 k) := rfl
end Go.Proofs.YtobgjmgepckijaaGreatDoor
