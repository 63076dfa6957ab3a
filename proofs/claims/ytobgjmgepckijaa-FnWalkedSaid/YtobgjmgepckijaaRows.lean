/-
  No cell of these rows narrows 'for every input' (looked for: loops, veiled, ifaces, maps, wideKeys, modest, calm, conditions, laid).
  DERIVED. THE GIVEN ROWS OF THIS SEAT. 4 by the template 'for every input the law returns true; each argument reads behind the call as it read before'; 0 by the template 'total and deterministic' (their statements: YtobgjmgepckijaaTotals.lean).
  GIVEN WITH THE SEED: the statements are not yours to turn. If you find one false, say at which input.
  Laid BY PROGRAM, IN A SANDBOX (cutbox-rows.mjs): the forced cells as the released guide's own fill.sh prints them over the translation 40d9686df4db1d36… (all of the seat's roots in one cut). By AI agents, Wed Nov 11 2026. No macro, syntax, notation, axiom, sorry.
-/
import Derived.Test.YtobgjmgepckijaaChecked
import GoSem.Claim
import GoSem.ClaimJoined
import GoSem.ClaimMapViews
import Derived.JoinedTies
import Derived.KernelRfl
namespace Go.Proofs.Ytobgjmgepckijaa
/- THE CELL 'sum', in the pinned program and in every row, IS THE sha256 OF THE DUMP (.gsa) THAT YtobgjmgepckijaaProg.lean LOADS. Nothing in Lean hashes anything: it is a label: what it is worth is what the hold of that sum in a sandbox is worth. -/
noncomputable def Try.pinned : Pinned := { name := "ytobgjmgepckijaa", sum := "40d9686df4db1d36461bb83f593878f22ecb100ce4520cafcf8cdfdd083f16de", checked := Try.checked }
namespace Rows
def none {H : Type} : Left H := { results := [], args := [] }

/-- 'laws.FnAtomicOf': WHATEVER THE INPUT: true; the input reads as it did. -/
def fnAtomicOfSpec : ChangeSpec := { name := "fnAtomicOf", fn := fun _ => fun
  | [d1, d2] => { results := [.lit (.bool true)], args := [d1, d2] }
  | _ => none }
def fnAtomicOfRow : OpenClaim := { program := "ytobgjmgepckijaa", sum := "40d9686df4db1d36461bb83f593878f22ecb100ce4520cafcf8cdfdd083f16de", func := "loop.example/pub-g03459/laws.FnAtomicOf", spec := "fnAtomicOf", apart := false }
def FnAtomicOfSaid : Prop := fnAtomicOfRow.holds Try.pinned (OpenSpec.ofChange fnAtomicOfSpec)

/-- ITS FALSE NEIGHBOUR: 'it returns false'. Refute it at one input. -/
def fnAtomicOfWrong : ChangeSpec := { name := "fnAtomicOf", fn := fun _ => fun
  | [d1, d2] => { results := [.lit (.bool false)], args := [d1, d2] }
  | _ => none }
def FnAtomicOfWrongFalsely : Prop := fnAtomicOfRow.holds Try.pinned (OpenSpec.ofChange fnAtomicOfWrong)

/-- 'laws.FnWalked': WHATEVER THE INPUT: true; the input reads as it did. -/
def fnWalkedSpec : ChangeSpec := { name := "fnWalked", fn := fun _ => fun
  | [d] => { results := [.lit (.bool true)], args := [d] }
  | _ => none }
def fnWalkedRow : OpenClaim := { program := "ytobgjmgepckijaa", sum := "40d9686df4db1d36461bb83f593878f22ecb100ce4520cafcf8cdfdd083f16de", func := "loop.example/pub-g03459/laws.FnWalked", spec := "fnWalked", apart := false }
def FnWalkedSaid : Prop := fnWalkedRow.holds Try.pinned (OpenSpec.ofChange fnWalkedSpec)

/-- ITS FALSE NEIGHBOUR: 'it returns false'. Refute it at one input. -/
def fnWalkedWrong : ChangeSpec := { name := "fnWalked", fn := fun _ => fun
  | [d] => { results := [.lit (.bool false)], args := [d] }
  | _ => none }
def FnWalkedWrongFalsely : Prop := fnWalkedRow.holds Try.pinned (OpenSpec.ofChange fnWalkedWrong)

/-- 'laws.FnMapOffset': WHATEVER THE INPUT: true; the input reads as it did. -/
def fnMapOffsetSpec : ChangeSpec := { name := "fnMapOffset", fn := fun _ => fun
  | [d1, d2, d3] => { results := [.lit (.bool true)], args := [d1, d2, d3] }
  | _ => none }
def fnMapOffsetRow : OpenClaim := { program := "ytobgjmgepckijaa", sum := "40d9686df4db1d36461bb83f593878f22ecb100ce4520cafcf8cdfdd083f16de", func := "loop.example/pub-g03459/laws.FnMapOffset", spec := "fnMapOffset", apart := false }
def FnMapOffsetSaid : Prop := fnMapOffsetRow.holds Try.pinned (OpenSpec.ofChange fnMapOffsetSpec)

/-- ITS FALSE NEIGHBOUR: 'it returns false'. Refute it at one input. -/
def fnMapOffsetWrong : ChangeSpec := { name := "fnMapOffset", fn := fun _ => fun
  | [d1, d2, d3] => { results := [.lit (.bool false)], args := [d1, d2, d3] }
  | _ => none }
def FnMapOffsetWrongFalsely : Prop := fnMapOffsetRow.holds Try.pinned (OpenSpec.ofChange fnMapOffsetWrong)

/-- 'laws.FnTests': WHATEVER THE INPUT: true; the input reads as it did. -/
def fnTestsSpec : ChangeSpec := { name := "fnTests", fn := fun _ => fun
  | [d] => { results := [.lit (.bool true)], args := [d] }
  | _ => none }
def fnTestsRow : OpenClaim := { program := "ytobgjmgepckijaa", sum := "40d9686df4db1d36461bb83f593878f22ecb100ce4520cafcf8cdfdd083f16de", func := "loop.example/pub-g03459/laws.FnTests", spec := "fnTests", apart := false }
def FnTestsSaid : Prop := fnTestsRow.holds Try.pinned (OpenSpec.ofChange fnTestsSpec)

/-- ITS FALSE NEIGHBOUR: 'it returns false'. Refute it at one input. -/
def fnTestsWrong : ChangeSpec := { name := "fnTests", fn := fun _ => fun
  | [d] => { results := [.lit (.bool false)], args := [d] }
  | _ => none }
def FnTestsWrongFalsely : Prop := fnTestsRow.holds Try.pinned (OpenSpec.ofChange fnTestsWrong)

/- THE SECOND FORM. 'bulk': how many values and letters a reading holds, each counted each time it is reached (what is shared counts as often as it is met; a slice's spare places count too). A statement '..UptoSaid' is the law's where the arguments, and the package variables that the reading takes, are together of bulk at most 1048576: NARROWER than '..Said'. Prove '..Said' where nothing that the law and all that it calls make is longer than what came in: it says more and counts as full. Else prove '..UptoSaid'. A law counts once. -/
mutual
def uptoBulk {H : Type} : DataW H → Nat
  | .lit (.string bytes) => bytes.length + 1
  | .lit _ => 1
  | .nil => 1
  | .ptr d => uptoBulk d + 1
  | .slice elems spare => uptoBulkAll elems + uptoBulkAll spare + 1
  | .agg parts => uptoBulkAll parts + 1
  | .iface _ d => uptoBulk d + 1
  | .map entries => uptoBulkEntries entries + 1
  | .held _ => 1
def uptoBulkAll {H : Type} : List (DataW H) → Nat
  | [] => 0
  | d :: r => uptoBulk d + uptoBulkAll r
def uptoBulkEntries {H : Type} : List (Lit × DataW H) → Nat
  | [] => 0
  | x :: r => uptoBulkEntry x + uptoBulkEntries r
def uptoBulkEntry {H : Type} : Lit × DataW H → Nat
  | (.string bytes, d) => bytes.length + uptoBulk d + 1
  | (_, d) => uptoBulk d + 1
 end
def uptoSmall : (H : Type) → List (DataW H) → Bool := fun _ ds => decide (uptoBulkAll ds ≤ 1048576)
def OpenSpec.upto (s : _root_.Go.ChangeSpec) : _root_.Go.OpenSpec := { _root_.Go.OpenSpec.ofChange s with cond := some uptoSmall }

/-- 'laws.FnAtomicOf', WHERE WHAT IT READS IS OF BULK AT MOST 1048576: true; the input reads as it did. -/
def fnAtomicOfUptoRow : OpenClaim := { program := "ytobgjmgepckijaa", sum := "40d9686df4db1d36461bb83f593878f22ecb100ce4520cafcf8cdfdd083f16de", func := "loop.example/pub-g03459/laws.FnAtomicOf", spec := "fnAtomicOf", apart := false, narrowed := true }
def FnAtomicOfUptoSaid : Prop := fnAtomicOfUptoRow.holds Try.pinned (OpenSpec.upto fnAtomicOfSpec)

/-- 'laws.FnWalked', WHERE WHAT IT READS IS OF BULK AT MOST 1048576: true; the input reads as it did. -/
def fnWalkedUptoRow : OpenClaim := { program := "ytobgjmgepckijaa", sum := "40d9686df4db1d36461bb83f593878f22ecb100ce4520cafcf8cdfdd083f16de", func := "loop.example/pub-g03459/laws.FnWalked", spec := "fnWalked", apart := false, narrowed := true }
def FnWalkedUptoSaid : Prop := fnWalkedUptoRow.holds Try.pinned (OpenSpec.upto fnWalkedSpec)

/-- 'laws.FnMapOffset', WHERE WHAT IT READS IS OF BULK AT MOST 1048576: true; the input reads as it did. -/
def fnMapOffsetUptoRow : OpenClaim := { program := "ytobgjmgepckijaa", sum := "40d9686df4db1d36461bb83f593878f22ecb100ce4520cafcf8cdfdd083f16de", func := "loop.example/pub-g03459/laws.FnMapOffset", spec := "fnMapOffset", apart := false, narrowed := true }
def FnMapOffsetUptoSaid : Prop := fnMapOffsetUptoRow.holds Try.pinned (OpenSpec.upto fnMapOffsetSpec)

/-- 'laws.FnTests', WHERE WHAT IT READS IS OF BULK AT MOST 1048576: true; the input reads as it did. -/
def fnTestsUptoRow : OpenClaim := { program := "ytobgjmgepckijaa", sum := "40d9686df4db1d36461bb83f593878f22ecb100ce4520cafcf8cdfdd083f16de", func := "loop.example/pub-g03459/laws.FnTests", spec := "fnTests", apart := false, narrowed := true }
def FnTestsUptoSaid : Prop := fnTestsUptoRow.holds Try.pinned (OpenSpec.upto fnTestsSpec)

end Rows
end Go.Proofs.Ytobgjmgepckijaa
