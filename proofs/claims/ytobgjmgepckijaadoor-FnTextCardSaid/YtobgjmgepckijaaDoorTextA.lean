/- Small parts of Instruction.String: a call's name, the swap's code. -/
import Derived.Test.YtobgjmgepckijaaDoorMetaB
import Derived.Test.YtobgjmgepckijaaDoorTextR
import Derived.Outline
namespace Go.Proofs.YtobgjmgepckijaaDoor
open Go.RowKit
set_option linter.unusedVariables false
set_option linter.unusedSimpArgs false
set_option maxHeartbeats 4000000 in
set_option maxRecDepth 100000 in
theorem Builtin_any (c : Int) (w : World) (h0 : 400 ≤ c) (h1 : c < 268435456) (ht : PowTab w) : Calls Tryd.prog 33 #[.int .u32 c] w fun e w' => e = .returned (.string (bnS c)) ∧ Below w.heap.size w w' := by
  have HD := Lib.hid (Dec_any c w (by omega) (by omega) ht)
  have hz := decS_size (n := c) (by omega) (by omega)
  unfold bnS
  obtain ⟨S, hS⟩ : ∃ S, decS c = S := ⟨_, rfl⟩
  rw [hS] at HD hz ⊢
  have l1 : ¬ c ≤ 211 := by omega
  have l2 : ¬ 268435457 ≤ c := by omega
  have l3 : 0 ≤ c := by omega
  clear hS ht h0 h1
  go_enter Tryd.func33, Tryd.ntmps33
  go_wp2_with (go_at_call 39; refine HD.out.mono ?_; rintro e w' ⟨rfl, hb⟩)
  go_ret
  exact ⟨rfl, hb⟩
set_option maxHeartbeats 4000000 in
set_option maxRecDepth 100000 in
theorem SwapOp (w : World) : Calls Tryd.prog 66 #[.int .u16 208, .int .u16 0] w fun e w' => e = .returned (.int .u32 215) ∧ w = w' := by
  go_enter Tryd.func66, Tryd.ntmps66
  go_wp2
  go_ret
  exact ⟨rfl, rfl⟩
end Go.Proofs.YtobgjmgepckijaaDoor
