/- encoding/binary's orders of bytes over eight bytes in a block, walked. (Printed by wip/genbytes.py.) -/
import Derived.Test.YtobgjmgepckijaaGreatDoorOps
import Derived.Test.YtobgjmgepckijaaGreatDoorLists
import Derived.BigQuiet
import Derived.Deep.QuietTactic
import Derived.Outline
import Derived.Lib.EndianBits
namespace Go.Proofs.YtobgjmgepckijaaGreatDoor
open Go.RowKit
set_option linter.unusedVariables false
set_option linter.unusedSimpArgs false
/-- eight bytes in a block -/
def Eight (w : World) (D : Nat) (b0 b1 b2 b3 b4 b5 b6 b7 : Int) : Prop :=
  w.heap[D]? = some (.cells #[.int .u8 b0, .int .u8 b1, .int .u8 b2, .int .u8 b3, .int .u8 b4, .int .u8 b5, .int .u8 b6, .int .u8 b7] 5 (0, 0))
def byteAt (k : Nat) (x : Int) : Int := x / 256 ^ k % 256
theorem or32 {a b c d : Int} (a0 : 0 ≤ a) (a1 : a < 256) (b0 : 0 ≤ b) (b1 : b < 256) (c0 : 0 ≤ c) (c1 : c < 256) (d0 : 0 ≤ d) (d1 : d < 256) :
    bits .or .u32 (bits .or .u32 (bits .or .u32 a (b * 256)) (c * 65536)) (d * 16777216) = a + b * 256 + c * 65536 + d * 16777216 := by
  rw [u32_or8 (y := a) (x := b * 256) a0 a1 (by omega) (by omega) (by omega), u32_or16 (y := a + b * 256) (x := c * 65536) (by omega) (by omega) (by omega) (by omega) (by omega),
    u32_or24 (y := a + b * 256 + c * 65536) (x := d * 16777216) (by omega) (by omega) (by omega) (by omega) (by omega)]
theorem or16 {a b : Int} (a0 : 0 ≤ a) (a1 : a < 256) (b0 : 0 ≤ b) (b1 : b < 256) : bits .or .u16 a (b * 256) = a + b * 256 := u16_or8 (y := a) (x := b * 256) a0 a1 (by omega) (by omega) (by omega)
theorem grownBy_drewN {w w' : World} {r : Option Nat} (h : w.grownBy w' r) (n : Nat) : w.grownBy (w'.drewN n) r := ⟨h.os, h.tape, h.output, h.size, h.block⟩
theorem grownBy_up {w w' : World} {r : Option Nat} (h : w.grownBy w' r) (o : Obj) : w.grownBy (w'.alloc o) r := grownBy_trans h (World.grownBy_alloc w' o r)

set_option maxHeartbeats 4000000 in
set_option maxRecDepth 100000 in
theorem le_put16_2 (D : Nat) (b0 b1 b2 b3 b4 b5 b6 b7 x : Int) (w : World) (hD : Eight w D b0 b1 b2 b3 b4 b5 b6 b7) :
    Calls Tryz.prog 173 #[.agg #[], .slice (some ⟨D, 2, none⟩) 2 6, .int .u16 x] w fun e w' => e = .returned (.tuple #[]) ∧ Eight w' D b0 b1 (byteAt 0 x) (byteAt 1 x) b4 b5 b6 b7 ∧ w.grownBy w' (some D) := by
  have c2 : w.cell? ⟨D, 2, none⟩ = some (.int .u8 b2) := cell_of_row _ _ 2 _ _ _ hD
  have c3 : w.cell? ⟨D, 3, none⟩ = some (.int .u8 b3) := cell_of_row _ _ 3 _ _ _ hD
  have f2 := frozen_of_row _ _ 2 _ _ hD
  have f3 := frozen_of_row _ _ 3 _ _ hD
  have hlt := heap_lt hD
  have HD := Lib.hid hD
  clear hD
  go_enter Tryz.func173, Tryz.ntmps173
  go_wp2
  refine bodyPost_end (results_none rfl _ _ _) rfl ?_
  refine ⟨rfl, ?_, grownBy_up (grownBy_set (grownBy_set (World.grownBy.refl w _) 2 _) 3 _) _⟩
  simp only [byteAt, Int.pow_zero, Int.pow_one, Int.ediv_one, show (256 : Int) ^ 0 = 1 from rfl, show (256 : Int) ^ 1 = 256 from rfl, show (256 : Int) ^ 2 = 65536 from rfl, show (256 : Int) ^ 3 = 16777216 from rfl]
  exact heap_up (heap_setCell_same _ D 3 _ _ _ (heap_setCell_same _ D 2 _ _ _ (HD.out)))
set_option maxHeartbeats 4000000 in
set_option maxRecDepth 100000 in
theorem le_put32_0 (D : Nat) (b0 b1 b2 b3 b4 b5 b6 b7 x : Int) (w : World) (hD : Eight w D b0 b1 b2 b3 b4 b5 b6 b7) :
    Calls Tryz.prog 174 #[.agg #[], .slice (some ⟨D, 0, none⟩) 4 8, .int .u32 x] w fun e w' => e = .returned (.tuple #[]) ∧ Eight w' D (byteAt 0 x) (byteAt 1 x) (byteAt 2 x) (byteAt 3 x) b4 b5 b6 b7 ∧ w.grownBy w' (some D) := by
  have c0 : w.cell? ⟨D, 0, none⟩ = some (.int .u8 b0) := cell_of_row _ _ 0 _ _ _ hD
  have c1 : w.cell? ⟨D, 1, none⟩ = some (.int .u8 b1) := cell_of_row _ _ 1 _ _ _ hD
  have c2 : w.cell? ⟨D, 2, none⟩ = some (.int .u8 b2) := cell_of_row _ _ 2 _ _ _ hD
  have c3 : w.cell? ⟨D, 3, none⟩ = some (.int .u8 b3) := cell_of_row _ _ 3 _ _ _ hD
  have f0 := frozen_of_row _ _ 0 _ _ hD
  have f1 := frozen_of_row _ _ 1 _ _ hD
  have f2 := frozen_of_row _ _ 2 _ _ hD
  have f3 := frozen_of_row _ _ 3 _ _ hD
  have hlt := heap_lt hD
  have HD := Lib.hid hD
  clear hD
  go_enter Tryz.func174, Tryz.ntmps174
  go_wp2
  refine bodyPost_end (results_none rfl _ _ _) rfl ?_
  refine ⟨rfl, ?_, grownBy_up (grownBy_set (grownBy_set (grownBy_set (grownBy_set (World.grownBy.refl w _) 0 _) 1 _) 2 _) 3 _) _⟩
  simp only [byteAt, Int.pow_zero, Int.pow_one, Int.ediv_one, show (256 : Int) ^ 0 = 1 from rfl, show (256 : Int) ^ 1 = 256 from rfl, show (256 : Int) ^ 2 = 65536 from rfl, show (256 : Int) ^ 3 = 16777216 from rfl]
  exact heap_up (heap_setCell_same _ D 3 _ _ _ (heap_setCell_same _ D 2 _ _ _ (heap_setCell_same _ D 1 _ _ _ (heap_setCell_same _ D 0 _ _ _ (HD.out)))))
set_option maxHeartbeats 4000000 in
set_option maxRecDepth 100000 in
theorem le_put32_4 (D : Nat) (b0 b1 b2 b3 b4 b5 b6 b7 x : Int) (w : World) (hD : Eight w D b0 b1 b2 b3 b4 b5 b6 b7) :
    Calls Tryz.prog 174 #[.agg #[], .slice (some ⟨D, 4, none⟩) 4 4, .int .u32 x] w fun e w' => e = .returned (.tuple #[]) ∧ Eight w' D b0 b1 b2 b3 (byteAt 0 x) (byteAt 1 x) (byteAt 2 x) (byteAt 3 x) ∧ w.grownBy w' (some D) := by
  have c4 : w.cell? ⟨D, 4, none⟩ = some (.int .u8 b4) := cell_of_row _ _ 4 _ _ _ hD
  have c5 : w.cell? ⟨D, 5, none⟩ = some (.int .u8 b5) := cell_of_row _ _ 5 _ _ _ hD
  have c6 : w.cell? ⟨D, 6, none⟩ = some (.int .u8 b6) := cell_of_row _ _ 6 _ _ _ hD
  have c7 : w.cell? ⟨D, 7, none⟩ = some (.int .u8 b7) := cell_of_row _ _ 7 _ _ _ hD
  have f4 := frozen_of_row _ _ 4 _ _ hD
  have f5 := frozen_of_row _ _ 5 _ _ hD
  have f6 := frozen_of_row _ _ 6 _ _ hD
  have f7 := frozen_of_row _ _ 7 _ _ hD
  have hlt := heap_lt hD
  have HD := Lib.hid hD
  clear hD
  go_enter Tryz.func174, Tryz.ntmps174
  go_wp2
  refine bodyPost_end (results_none rfl _ _ _) rfl ?_
  refine ⟨rfl, ?_, grownBy_up (grownBy_set (grownBy_set (grownBy_set (grownBy_set (World.grownBy.refl w _) 4 _) 5 _) 6 _) 7 _) _⟩
  simp only [byteAt, Int.pow_zero, Int.pow_one, Int.ediv_one, show (256 : Int) ^ 0 = 1 from rfl, show (256 : Int) ^ 1 = 256 from rfl, show (256 : Int) ^ 2 = 65536 from rfl, show (256 : Int) ^ 3 = 16777216 from rfl]
  exact heap_up (heap_setCell_same _ D 7 _ _ _ (heap_setCell_same _ D 6 _ _ _ (heap_setCell_same _ D 5 _ _ _ (heap_setCell_same _ D 4 _ _ _ (HD.out)))))
set_option maxHeartbeats 4000000 in
set_option maxRecDepth 100000 in
theorem le_get16_2 (D : Nat) (b0 b1 b2 b3 b4 b5 b6 b7 : Int) (w : World) (hD : Eight w D b0 b1 b2 b3 b4 b5 b6 b7) (p2 : 0 ≤ b2) (q2 : b2 < 256) (p3 : 0 ≤ b3) (q3 : b3 < 256) :
    Calls Tryz.prog 177 #[.agg #[], .slice (some ⟨D, 2, none⟩) 2 6] w fun e w' => e = .returned (.int .u16 (b2 + b3 * 256)) ∧ w.grownBy w' none := by
  have c2 : w.cell? ⟨D, 2, none⟩ = some (.int .u8 b2) := cell_of_row _ _ 2 _ _ _ hD
  have c3 : w.cell? ⟨D, 3, none⟩ = some (.int .u8 b3) := cell_of_row _ _ 3 _ _ _ hD
  have f2 := frozen_of_row _ _ 2 _ _ hD
  have f3 := frozen_of_row _ _ 3 _ _ hD
  have hlt := heap_lt hD
  have HD := Lib.hid hD
  clear hD
  have e : bits .or .u16 (b2) (b3 * 256) = b2 + b3 * 256 := or16 p2 q2 p3 q3
  have HE := Lib.hid e
  clear e
  go_enter Tryz.func177, Tryz.ntmps177
  go_wp2_with fail
  go_quiet (fail)
  go_wp2_with fail
  go_ret
  exact ⟨by rw [← HE.out]; rfl, grownBy_drewN (World.grownBy_alloc w _ _) _⟩
set_option maxHeartbeats 4000000 in
set_option maxRecDepth 100000 in
theorem le_get32_0 (D : Nat) (b0 b1 b2 b3 b4 b5 b6 b7 : Int) (w : World) (hD : Eight w D b0 b1 b2 b3 b4 b5 b6 b7) (p0 : 0 ≤ b0) (q0 : b0 < 256) (p1 : 0 ≤ b1) (q1 : b1 < 256) (p2 : 0 ≤ b2) (q2 : b2 < 256) (p3 : 0 ≤ b3) (q3 : b3 < 256) :
    Calls Tryz.prog 178 #[.agg #[], .slice (some ⟨D, 0, none⟩) 4 8] w fun e w' => e = .returned (.int .u32 (b0 + b1 * 256 + b2 * 65536 + b3 * 16777216)) ∧ w.grownBy w' none := by
  have c0 : w.cell? ⟨D, 0, none⟩ = some (.int .u8 b0) := cell_of_row _ _ 0 _ _ _ hD
  have c1 : w.cell? ⟨D, 1, none⟩ = some (.int .u8 b1) := cell_of_row _ _ 1 _ _ _ hD
  have c2 : w.cell? ⟨D, 2, none⟩ = some (.int .u8 b2) := cell_of_row _ _ 2 _ _ _ hD
  have c3 : w.cell? ⟨D, 3, none⟩ = some (.int .u8 b3) := cell_of_row _ _ 3 _ _ _ hD
  have f0 := frozen_of_row _ _ 0 _ _ hD
  have f1 := frozen_of_row _ _ 1 _ _ hD
  have f2 := frozen_of_row _ _ 2 _ _ hD
  have f3 := frozen_of_row _ _ 3 _ _ hD
  have hlt := heap_lt hD
  have HD := Lib.hid hD
  clear hD
  have e : bits .or .u32 (bits .or .u32 (bits .or .u32 (b0) (b1 * 256)) (b2 * 65536)) (b3 * 16777216) = b0 + b1 * 256 + b2 * 65536 + b3 * 16777216 := or32 p0 q0 p1 q1 p2 q2 p3 q3
  have HE := Lib.hid e
  clear e
  go_enter Tryz.func178, Tryz.ntmps178
  go_wp2_with fail
  go_quiet (fail)
  go_wp2_with fail
  go_ret
  exact ⟨by rw [← HE.out]; rfl, grownBy_drewN (World.grownBy_alloc w _ _) _⟩
set_option maxHeartbeats 4000000 in
set_option maxRecDepth 100000 in
theorem le_get32_4 (D : Nat) (b0 b1 b2 b3 b4 b5 b6 b7 : Int) (w : World) (hD : Eight w D b0 b1 b2 b3 b4 b5 b6 b7) (p4 : 0 ≤ b4) (q4 : b4 < 256) (p5 : 0 ≤ b5) (q5 : b5 < 256) (p6 : 0 ≤ b6) (q6 : b6 < 256) (p7 : 0 ≤ b7) (q7 : b7 < 256) :
    Calls Tryz.prog 178 #[.agg #[], .slice (some ⟨D, 4, none⟩) 4 4] w fun e w' => e = .returned (.int .u32 (b4 + b5 * 256 + b6 * 65536 + b7 * 16777216)) ∧ w.grownBy w' none := by
  have c4 : w.cell? ⟨D, 4, none⟩ = some (.int .u8 b4) := cell_of_row _ _ 4 _ _ _ hD
  have c5 : w.cell? ⟨D, 5, none⟩ = some (.int .u8 b5) := cell_of_row _ _ 5 _ _ _ hD
  have c6 : w.cell? ⟨D, 6, none⟩ = some (.int .u8 b6) := cell_of_row _ _ 6 _ _ _ hD
  have c7 : w.cell? ⟨D, 7, none⟩ = some (.int .u8 b7) := cell_of_row _ _ 7 _ _ _ hD
  have f4 := frozen_of_row _ _ 4 _ _ hD
  have f5 := frozen_of_row _ _ 5 _ _ hD
  have f6 := frozen_of_row _ _ 6 _ _ hD
  have f7 := frozen_of_row _ _ 7 _ _ hD
  have hlt := heap_lt hD
  have HD := Lib.hid hD
  clear hD
  have e : bits .or .u32 (bits .or .u32 (bits .or .u32 (b4) (b5 * 256)) (b6 * 65536)) (b7 * 16777216) = b4 + b5 * 256 + b6 * 65536 + b7 * 16777216 := or32 p4 q4 p5 q5 p6 q6 p7 q7
  have HE := Lib.hid e
  clear e
  go_enter Tryz.func178, Tryz.ntmps178
  go_wp2_with fail
  go_quiet (fail)
  go_wp2_with fail
  go_ret
  exact ⟨by rw [← HE.out]; rfl, grownBy_drewN (World.grownBy_alloc w _ _) _⟩
set_option maxHeartbeats 4000000 in
set_option maxRecDepth 100000 in
theorem be_put16_2 (D : Nat) (b0 b1 b2 b3 b4 b5 b6 b7 x : Int) (w : World) (hD : Eight w D b0 b1 b2 b3 b4 b5 b6 b7) :
    Calls Tryz.prog 165 #[.agg #[], .slice (some ⟨D, 2, none⟩) 2 6, .int .u16 x] w fun e w' => e = .returned (.tuple #[]) ∧ Eight w' D b0 b1 (byteAt 1 x) (byteAt 0 x) b4 b5 b6 b7 ∧ w.grownBy w' (some D) := by
  have c2 : w.cell? ⟨D, 2, none⟩ = some (.int .u8 b2) := cell_of_row _ _ 2 _ _ _ hD
  have c3 : w.cell? ⟨D, 3, none⟩ = some (.int .u8 b3) := cell_of_row _ _ 3 _ _ _ hD
  have f2 := frozen_of_row _ _ 2 _ _ hD
  have f3 := frozen_of_row _ _ 3 _ _ hD
  have hlt := heap_lt hD
  have HD := Lib.hid hD
  clear hD
  go_enter Tryz.func165, Tryz.ntmps165
  go_wp2
  refine bodyPost_end (results_none rfl _ _ _) rfl ?_
  refine ⟨rfl, ?_, grownBy_up (grownBy_set (grownBy_set (World.grownBy.refl w _) 2 _) 3 _) _⟩
  simp only [byteAt, Int.pow_zero, Int.pow_one, Int.ediv_one, show (256 : Int) ^ 0 = 1 from rfl, show (256 : Int) ^ 1 = 256 from rfl, show (256 : Int) ^ 2 = 65536 from rfl, show (256 : Int) ^ 3 = 16777216 from rfl]
  exact heap_up (heap_setCell_same _ D 3 _ _ _ (heap_setCell_same _ D 2 _ _ _ (HD.out)))
set_option maxHeartbeats 4000000 in
set_option maxRecDepth 100000 in
theorem be_put32_0 (D : Nat) (b0 b1 b2 b3 b4 b5 b6 b7 x : Int) (w : World) (hD : Eight w D b0 b1 b2 b3 b4 b5 b6 b7) :
    Calls Tryz.prog 166 #[.agg #[], .slice (some ⟨D, 0, none⟩) 4 8, .int .u32 x] w fun e w' => e = .returned (.tuple #[]) ∧ Eight w' D (byteAt 3 x) (byteAt 2 x) (byteAt 1 x) (byteAt 0 x) b4 b5 b6 b7 ∧ w.grownBy w' (some D) := by
  have c0 : w.cell? ⟨D, 0, none⟩ = some (.int .u8 b0) := cell_of_row _ _ 0 _ _ _ hD
  have c1 : w.cell? ⟨D, 1, none⟩ = some (.int .u8 b1) := cell_of_row _ _ 1 _ _ _ hD
  have c2 : w.cell? ⟨D, 2, none⟩ = some (.int .u8 b2) := cell_of_row _ _ 2 _ _ _ hD
  have c3 : w.cell? ⟨D, 3, none⟩ = some (.int .u8 b3) := cell_of_row _ _ 3 _ _ _ hD
  have f0 := frozen_of_row _ _ 0 _ _ hD
  have f1 := frozen_of_row _ _ 1 _ _ hD
  have f2 := frozen_of_row _ _ 2 _ _ hD
  have f3 := frozen_of_row _ _ 3 _ _ hD
  have hlt := heap_lt hD
  have HD := Lib.hid hD
  clear hD
  go_enter Tryz.func166, Tryz.ntmps166
  go_wp2
  refine bodyPost_end (results_none rfl _ _ _) rfl ?_
  refine ⟨rfl, ?_, grownBy_up (grownBy_set (grownBy_set (grownBy_set (grownBy_set (World.grownBy.refl w _) 0 _) 1 _) 2 _) 3 _) _⟩
  simp only [byteAt, Int.pow_zero, Int.pow_one, Int.ediv_one, show (256 : Int) ^ 0 = 1 from rfl, show (256 : Int) ^ 1 = 256 from rfl, show (256 : Int) ^ 2 = 65536 from rfl, show (256 : Int) ^ 3 = 16777216 from rfl]
  exact heap_up (heap_setCell_same _ D 3 _ _ _ (heap_setCell_same _ D 2 _ _ _ (heap_setCell_same _ D 1 _ _ _ (heap_setCell_same _ D 0 _ _ _ (HD.out)))))
set_option maxHeartbeats 4000000 in
set_option maxRecDepth 100000 in
theorem be_put32_4 (D : Nat) (b0 b1 b2 b3 b4 b5 b6 b7 x : Int) (w : World) (hD : Eight w D b0 b1 b2 b3 b4 b5 b6 b7) :
    Calls Tryz.prog 166 #[.agg #[], .slice (some ⟨D, 4, none⟩) 4 4, .int .u32 x] w fun e w' => e = .returned (.tuple #[]) ∧ Eight w' D b0 b1 b2 b3 (byteAt 3 x) (byteAt 2 x) (byteAt 1 x) (byteAt 0 x) ∧ w.grownBy w' (some D) := by
  have c4 : w.cell? ⟨D, 4, none⟩ = some (.int .u8 b4) := cell_of_row _ _ 4 _ _ _ hD
  have c5 : w.cell? ⟨D, 5, none⟩ = some (.int .u8 b5) := cell_of_row _ _ 5 _ _ _ hD
  have c6 : w.cell? ⟨D, 6, none⟩ = some (.int .u8 b6) := cell_of_row _ _ 6 _ _ _ hD
  have c7 : w.cell? ⟨D, 7, none⟩ = some (.int .u8 b7) := cell_of_row _ _ 7 _ _ _ hD
  have f4 := frozen_of_row _ _ 4 _ _ hD
  have f5 := frozen_of_row _ _ 5 _ _ hD
  have f6 := frozen_of_row _ _ 6 _ _ hD
  have f7 := frozen_of_row _ _ 7 _ _ hD
  have hlt := heap_lt hD
  have HD := Lib.hid hD
  clear hD
  go_enter Tryz.func166, Tryz.ntmps166
  go_wp2
  refine bodyPost_end (results_none rfl _ _ _) rfl ?_
  refine ⟨rfl, ?_, grownBy_up (grownBy_set (grownBy_set (grownBy_set (grownBy_set (World.grownBy.refl w _) 4 _) 5 _) 6 _) 7 _) _⟩
  simp only [byteAt, Int.pow_zero, Int.pow_one, Int.ediv_one, show (256 : Int) ^ 0 = 1 from rfl, show (256 : Int) ^ 1 = 256 from rfl, show (256 : Int) ^ 2 = 65536 from rfl, show (256 : Int) ^ 3 = 16777216 from rfl]
  exact heap_up (heap_setCell_same _ D 7 _ _ _ (heap_setCell_same _ D 6 _ _ _ (heap_setCell_same _ D 5 _ _ _ (heap_setCell_same _ D 4 _ _ _ (HD.out)))))
set_option maxHeartbeats 4000000 in
set_option maxRecDepth 100000 in
theorem be_get16_2 (D : Nat) (b0 b1 b2 b3 b4 b5 b6 b7 : Int) (w : World) (hD : Eight w D b0 b1 b2 b3 b4 b5 b6 b7) (p2 : 0 ≤ b2) (q2 : b2 < 256) (p3 : 0 ≤ b3) (q3 : b3 < 256) :
    Calls Tryz.prog 169 #[.agg #[], .slice (some ⟨D, 2, none⟩) 2 6] w fun e w' => e = .returned (.int .u16 (b3 + b2 * 256)) ∧ w.grownBy w' none := by
  have c2 : w.cell? ⟨D, 2, none⟩ = some (.int .u8 b2) := cell_of_row _ _ 2 _ _ _ hD
  have c3 : w.cell? ⟨D, 3, none⟩ = some (.int .u8 b3) := cell_of_row _ _ 3 _ _ _ hD
  have f2 := frozen_of_row _ _ 2 _ _ hD
  have f3 := frozen_of_row _ _ 3 _ _ hD
  have hlt := heap_lt hD
  have HD := Lib.hid hD
  clear hD
  have e : bits .or .u16 (b3) (b2 * 256) = b3 + b2 * 256 := or16 p3 q3 p2 q2
  have HE := Lib.hid e
  clear e
  go_enter Tryz.func169, Tryz.ntmps169
  go_wp2_with fail
  go_quiet (fail)
  go_wp2_with fail
  go_ret
  exact ⟨by rw [← HE.out]; rfl, grownBy_drewN (World.grownBy_alloc w _ _) _⟩
set_option maxHeartbeats 4000000 in
set_option maxRecDepth 100000 in
theorem be_get32_0 (D : Nat) (b0 b1 b2 b3 b4 b5 b6 b7 : Int) (w : World) (hD : Eight w D b0 b1 b2 b3 b4 b5 b6 b7) (p0 : 0 ≤ b0) (q0 : b0 < 256) (p1 : 0 ≤ b1) (q1 : b1 < 256) (p2 : 0 ≤ b2) (q2 : b2 < 256) (p3 : 0 ≤ b3) (q3 : b3 < 256) :
    Calls Tryz.prog 170 #[.agg #[], .slice (some ⟨D, 0, none⟩) 4 8] w fun e w' => e = .returned (.int .u32 (b3 + b2 * 256 + b1 * 65536 + b0 * 16777216)) ∧ w.grownBy w' none := by
  have c0 : w.cell? ⟨D, 0, none⟩ = some (.int .u8 b0) := cell_of_row _ _ 0 _ _ _ hD
  have c1 : w.cell? ⟨D, 1, none⟩ = some (.int .u8 b1) := cell_of_row _ _ 1 _ _ _ hD
  have c2 : w.cell? ⟨D, 2, none⟩ = some (.int .u8 b2) := cell_of_row _ _ 2 _ _ _ hD
  have c3 : w.cell? ⟨D, 3, none⟩ = some (.int .u8 b3) := cell_of_row _ _ 3 _ _ _ hD
  have f0 := frozen_of_row _ _ 0 _ _ hD
  have f1 := frozen_of_row _ _ 1 _ _ hD
  have f2 := frozen_of_row _ _ 2 _ _ hD
  have f3 := frozen_of_row _ _ 3 _ _ hD
  have hlt := heap_lt hD
  have HD := Lib.hid hD
  clear hD
  have e : bits .or .u32 (bits .or .u32 (bits .or .u32 (b3) (b2 * 256)) (b1 * 65536)) (b0 * 16777216) = b3 + b2 * 256 + b1 * 65536 + b0 * 16777216 := or32 p3 q3 p2 q2 p1 q1 p0 q0
  have HE := Lib.hid e
  clear e
  go_enter Tryz.func170, Tryz.ntmps170
  go_wp2_with fail
  go_quiet (fail)
  go_wp2_with fail
  go_ret
  exact ⟨by rw [← HE.out]; rfl, grownBy_drewN (World.grownBy_alloc w _ _) _⟩
set_option maxHeartbeats 4000000 in
set_option maxRecDepth 100000 in
theorem be_get32_4 (D : Nat) (b0 b1 b2 b3 b4 b5 b6 b7 : Int) (w : World) (hD : Eight w D b0 b1 b2 b3 b4 b5 b6 b7) (p4 : 0 ≤ b4) (q4 : b4 < 256) (p5 : 0 ≤ b5) (q5 : b5 < 256) (p6 : 0 ≤ b6) (q6 : b6 < 256) (p7 : 0 ≤ b7) (q7 : b7 < 256) :
    Calls Tryz.prog 170 #[.agg #[], .slice (some ⟨D, 4, none⟩) 4 4] w fun e w' => e = .returned (.int .u32 (b7 + b6 * 256 + b5 * 65536 + b4 * 16777216)) ∧ w.grownBy w' none := by
  have c4 : w.cell? ⟨D, 4, none⟩ = some (.int .u8 b4) := cell_of_row _ _ 4 _ _ _ hD
  have c5 : w.cell? ⟨D, 5, none⟩ = some (.int .u8 b5) := cell_of_row _ _ 5 _ _ _ hD
  have c6 : w.cell? ⟨D, 6, none⟩ = some (.int .u8 b6) := cell_of_row _ _ 6 _ _ _ hD
  have c7 : w.cell? ⟨D, 7, none⟩ = some (.int .u8 b7) := cell_of_row _ _ 7 _ _ _ hD
  have f4 := frozen_of_row _ _ 4 _ _ hD
  have f5 := frozen_of_row _ _ 5 _ _ hD
  have f6 := frozen_of_row _ _ 6 _ _ hD
  have f7 := frozen_of_row _ _ 7 _ _ hD
  have hlt := heap_lt hD
  have HD := Lib.hid hD
  clear hD
  have e : bits .or .u32 (bits .or .u32 (bits .or .u32 (b7) (b6 * 256)) (b5 * 65536)) (b4 * 16777216) = b7 + b6 * 256 + b5 * 65536 + b4 * 16777216 := or32 p7 q7 p6 q6 p5 q5 p4 q4
  have HE := Lib.hid e
  clear e
  go_enter Tryz.func170, Tryz.ntmps170
  go_wp2_with fail
  go_quiet (fail)
  go_wp2_with fail
  go_ret
  exact ⟨by rw [← HE.out]; rfl, grownBy_drewN (World.grownBy_alloc w _ _) _⟩
end Go.Proofs.YtobgjmgepckijaaGreatDoor
