/- What the listed variables give: io.EOF's cell, the program's own sentinel's reading; the heap that the door's run leaves meets the condition. -/
import Derived.Test.YtobgjmgepckijaaGreatDoorRows
import Derived.Test.YtobgjmgepckijaaGreatDoorBelow
import Derived.ProofKit
import Derived.OpenShut
import Derived.LaidMore
import Derived.LaidLaws
import Derived.LaidHandle
import Derived.RowKitTokens
import Derived.WalkSmall
import Derived.Stop.Joined
import Derived.Stop.LaidErr
namespace Go.Proofs.YtobgjmgepckijaaGreatDoor
open Go.ChangeShapes Go.WideShapes Go.ChangeAt Go.RowKit
set_option linter.unusedVariables false
set_option linter.unusedSimpArgs false
theorem own : ownKnob Tryz.prog.godebug = none := by kernel_rfl
theorem laidOut : laidOutB Tryz.prog = true := by kernel_rfl
theorem gEOF : Tryz.prog.globalNamed "io.EOF" = some 2 := by kernel_rfl
theorem gEOFType : (Tryz.prog.globals[2]?).map (·.type) = some 59 := by kernel_rfl
theorem gErr : Tryz.prog.globalNamed "loop.example/pub-g03459/pub/ebpfasm.ErrUnsatisfiedProgramReference" = some 3 := by kernel_rfl
theorem gErrType : (Tryz.prog.globals[3]?).map (·.type) = some 59 := by kernel_rfl
theorem starE : "*" ++ "errors.errorString" = "*errors.errorString" := by decide
theorem rowE (u : TypeId) (h : Tryz.prog.typeName? 3 u = some "*errors.errorString") : u = 180 :=
  typeName_ptr_named (nm := "errors.errorString") (by rw [starE]; kernel_rfl) (by kernel_rfl) (by decide) u (by rw [starE]; exact h)
theorem cellsE : Tryz.prog.cellsOf 182 = 1 := by kernel_rfl
theorem cellsS : Tryz.prog.cellsOf 9 = 1 := by kernel_rfl
theorem eof_met {r : List (String × DataW Unit)} {text : List UInt8} {W : World} (h : laidMet Tryz.prog (("io.EOF", .iface "*errors.errorString" (.ptr (.agg [.lit (.string text)]))) :: r) W) :
    ∃ a, W.cell? ⟨2, 0, none⟩ = some (.iface 180 (.pointer (some a))) := by
  obtain ⟨a, s, hv, _⟩ := laid_sentinel h gEOF gEOFType Tryz.underlying59 rowE Tryz.underlying180 Tryz.underlying182 rfl rfl Tryz.underlying9 cellsE cellsS
  exact ⟨a, by simpa using World.var?_cell gEOF hv 0⟩
theorem err_met {r : List (String × DataW Unit)} {text : List UInt8} {W : World} (h : laidMet Tryz.prog (("loop.example/pub-g03459/pub/ebpfasm.ErrUnsatisfiedProgramReference", .iface "*errors.errorString" (.ptr (.agg [.lit (.string text)]))) :: r) W) :
    ∃ a, W.var? Tryz.prog "loop.example/pub-g03459/pub/ebpfasm.ErrUnsatisfiedProgramReference" = some #[.iface 180 (.pointer (some a))] := by
  obtain ⟨a, s, hv, _⟩ := laid_sentinel h gErr gErrType Tryz.underlying59 rowE Tryz.underlying180 Tryz.underlying182 rfl rfl Tryz.underlying9 cellsE cellsS
  exact ⟨a, hv⟩
theorem err_read {H : Type} (enc : TypeId × Value → H) {X : World} {a : Addr} (h : X.var? Tryz.prog "loop.example/pub-g03459/pub/ebpfasm.ErrUnsatisfiedProgramReference" = some #[.iface 180 (.pointer (some a))]) (sp : Nat → Bool) :
    DataW.TrodVars enc Tryz.prog X sp ["loop.example/pub-g03459/pub/ebpfasm.ErrUnsatisfiedProgramReference"] [tok enc (.iface 180 (.pointer (some a)))] [.cell 3 0] :=
  vars_read1 enc gErr gErrType Tryz.underlying59 h trivial sp
theorem lt_of_cell {W : World} {g o : Nat} {x : Value} (h : W.cell? ⟨g, o, none⟩ = some x) : g < W.heap.size := block_lt_of_cell h
theorem lt_of_var {W : World} {n : String} {g : Nat} {x : Value} (hg : Tryz.prog.globalNamed n = some g) (h : W.var? Tryz.prog n = some #[x]) : g < W.heap.size := by
  have := World.var?_cell hg h 0
  exact block_lt_of_cell (by simpa using this)
end Go.Proofs.YtobgjmgepckijaaGreatDoor
