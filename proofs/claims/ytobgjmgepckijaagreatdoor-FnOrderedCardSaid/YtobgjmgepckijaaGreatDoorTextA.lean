/- Small parts of Instruction.String: a call's name, the swap's code. -/
import Derived.Test.YtobgjmgepckijaaGreatDoorMeta
import Derived.Test.YtobgjmgepckijaaGreatDoorTextR
import Derived.Outline
namespace Go.Proofs.YtobgjmgepckijaaGreatDoor
open Go.RowKit
set_option linter.unusedVariables false
set_option linter.unusedSimpArgs false
set_option maxHeartbeats 4000000 in
set_option maxRecDepth 100000 in
theorem Builtin_any (c : Int) (w : World) (h0 : 400 ≤ c) (h1 : c < 268435456) (ht : PowTab w) : Calls Tryz.prog 41 #[.int .u32 c] w fun e w' => e = .returned (.string (bnS c)) ∧ Below w.heap.size w w' := by
  have HD := Lib.hid (Dec_any c w (by omega) (by omega) ht)
  have hz := decS_size (n := c) (by omega) (by omega)
  unfold bnS
  obtain ⟨S, hS⟩ : ∃ S, decS c = S := ⟨_, rfl⟩
  rw [hS] at HD hz ⊢
  have l1 : ¬ c ≤ 211 := by omega
  have l2 : ¬ 268435457 ≤ c := by omega
  have l3 : 0 ≤ c := by omega
  clear hS ht h0 h1
  go_enter Tryz.func41, Tryz.ntmps41
  go_wp2_with (go_at_call 65; refine HD.out.mono ?_; rintro e w' ⟨rfl, hb⟩)
  go_ret
  exact ⟨rfl, hb⟩
set_option maxHeartbeats 4000000 in
set_option maxRecDepth 100000 in
theorem SwapOp (w : World) : Calls Tryz.prog 88 #[.int .u16 208, .int .u16 0] w fun e w' => e = .returned (.int .u32 215) ∧ w = w' := by
  go_enter Tryz.func88, Tryz.ntmps88
  go_wp2
  go_ret
  exact ⟨rfl, rfl⟩
end Go.Proofs.YtobgjmgepckijaaGreatDoor
