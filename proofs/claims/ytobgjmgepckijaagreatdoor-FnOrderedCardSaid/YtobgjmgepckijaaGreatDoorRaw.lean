/- laws.raw, laws.atomicOf, walked. -/
import Derived.Test.YtobgjmgepckijaaGreatDoorEnc
import Derived.Outline
namespace Go.Proofs.YtobgjmgepckijaaGreatDoor
open Go.RowKit
set_option linter.unusedVariables false
set_option linter.unusedSimpArgs false
theorem b0 (x : Int) : byteAt 0 x = x % 256 := by simp [byteAt]
theorem b1 (x : Int) : byteAt 1 x = x / 256 % 256 := by simp [byteAt]
theorem b2 (x : Int) : byteAt 2 x = x / 65536 % 256 := by simp only [byteAt, show (256 : Int) ^ 2 = 65536 from rfl]
theorem b3 (x : Int) : byteAt 3 x = x / 16777216 % 256 := by simp only [byteAt, show (256 : Int) ^ 3 = 16777216 from rfl]
theorem or_plain : ∀ d : Fin 11, ∀ s : Fin 11, bits .or .i64 ((s.val : Int) * 16) (d.val : Int) % 256 = (s.val : Int) * 16 + d.val := by decide +kernel
theorem or_plain' {d s : Int} (d0 : 0 ≤ d) (d1 : d ≤ 10) (s0 : 0 ≤ s) (s1 : s ≤ 10) : bits .or .i64 (s * 16) d % 256 = s * 16 + d := by
  have := or_plain ⟨d.toNat, by omega⟩ ⟨s.toNat, by omega⟩
  simpa [Int.toNat_of_nonneg d0, Int.toNat_of_nonneg s0] using this
set_option maxHeartbeats 4000000 in
set_option maxRecDepth 100000 in
theorem raw_any' (big : Bool) (op d s o c : Int) (w : World) (p0 : 0 ≤ op) (p1 : op < 256) (d0 : 0 ≤ d) (d1 : d ≤ 10) (s0 : 0 ≤ s) (s1 : s ≤ 10) (o0 : -32768 ≤ o) (o1 : o ≤ 32767) (c0 : 0 ≤ c) (c1 : c < 4294967296) :
    Calls Tryz.prog 12 #[.int .i64 op, .int .i64 d, .int .i64 s, .int .i64 o, .int .u32 c, .bool big] w fun e w' => e = .returned (.slice (some ⟨w.heap.size, 0, none⟩) 8 8) ∧ w.alloc (.cells (byteRow (rawB big op (regsOf big d s) (o % 65536) c)).toArray 5) = w' := by
  cases big
  · go_enter Tryz.func12, Tryz.ntmps12
    go_wp2
    go_ret
    refine ⟨rfl, ?_⟩
    rw [rawF]
    simp only [byteRow, eight, List.map_cons, List.map_nil, b0, b1, b2, b3, u16w, regsOf, or_plain' d0 d1 s0 s1, show c / 16777216 % 256 = c / 16777216 by omega, Bool.false_eq_true, if_false]
  · go_enter Tryz.func12, Tryz.ntmps12
    go_wp2
    go_ret
    refine ⟨rfl, ?_⟩
    rw [rawT]
    simp only [byteRow, eight, List.map_cons, List.map_nil, b0, b1, b2, b3, u16w, regsOf, or_plain' s0 s1 d0 d1, show c / 16777216 % 256 = c / 16777216 by omega, if_true]
end Go.Proofs.YtobgjmgepckijaaGreatDoor
