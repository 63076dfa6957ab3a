/-
  DERIVED. GIVEN WITH THE SEED: THE CARDS: each row of YtobgjmgepckijaaGreatDoorRows.lean that lists a variable, with what it lists TIED to the program's text (the seventh form; the later family's looks); each row that meets fmt, with fmt's text TOLD by the authors' own Lean function (tested against real Go, not proved from fmt's source: count such statements apart). THE CARD IS WHAT COUNTS. Prove the row's statement (the work); the ties are given (YtobgjmgepckijaaGreatDoorTie.lean); close each card by the builder's one call (the guide's Derived/Test/ToyasCard.lean, 'card_holds'). Laid BY PROGRAM, IN A SANDBOX (cutbox-door.mjs). By AI agents, Wed Nov 11 2026. No macro, syntax, notation, axiom, sorry.
-/
import Derived.Test.YtobgjmgepckijaaGreatDoorRows
import GoSem.ClaimSeven
namespace Go.Proofs.YtobgjmgepckijaaGreatDoor
namespace Rows

/-- THE TIED CARD OF 'laws.FnWhole'. -/
def fnWholeCard : Claim7 := { stood := { row := fnWholeRow, standIns := [], harness := (true, "14ec92c95df7d123a81d20c20d97c84bed4a81e2bed113c046abe137ae0cc488"), looks := true }, kinds := [], alts := [], laidByText := true, laidKinds := [.sentinel, .sentinel, .sentinel, .sentinel], laidTests := true, laidLooks := .later }
def FnWholeCardSaid : Prop := Claim7.holds Tryz.pinned (.plain (OpenSpec.ofChange fnWholeSpec)) fnWholeCard

/-- THE TIED CARD OF 'laws.FnAtomic'. -/
def fnAtomicCard : Claim7 := { stood := { row := fnAtomicRow, standIns := [], harness := (true, "14ec92c95df7d123a81d20c20d97c84bed4a81e2bed113c046abe137ae0cc488"), looks := true }, kinds := [], alts := [], laidByText := true, laidKinds := [.sentinel, .sentinel, .sentinel, .sentinel], laidTests := true, laidLooks := .later }
def FnAtomicCardSaid : Prop := Claim7.holds Tryz.pinned (.plain (OpenSpec.ofChange fnAtomicSpec)) fnAtomicCard

/-- THE TIED CARD OF 'laws.FnOrdered'. -/
def fnOrderedCard : Claim7 := { stood := { row := fnOrderedRow, standIns := [], harness := (true, "14ec92c95df7d123a81d20c20d97c84bed4a81e2bed113c046abe137ae0cc488"), looks := true }, kinds := [], alts := [], laidByText := true, laidKinds := [.data, .data, .data, .sentinel, .sentinel, .sentinel, .sentinel], laidTests := true, laidLooks := .later }
def FnOrderedCardSaid : Prop := Claim7.holds Tryz.pinned (.plain (OpenSpec.ofChange fnOrderedSpec)) fnOrderedCard

/-- THE SECOND FORM's CARD OF 'laws.FnWhole'. -/
def fnWholeUptoCard : Claim7 := { stood := { row := fnWholeUptoRow, standIns := [], harness := (true, "14ec92c95df7d123a81d20c20d97c84bed4a81e2bed113c046abe137ae0cc488"), looks := true }, kinds := [], alts := [], laidByText := true, laidKinds := [.sentinel, .sentinel, .sentinel, .sentinel], laidTests := true, laidLooks := .later }
def FnWholeUptoCardSaid : Prop := Claim7.holds Tryz.pinned (.plain (OpenSpec.upto fnWholeSpec)) fnWholeUptoCard

/-- THE SECOND FORM's CARD OF 'laws.FnAtomic'. -/
def fnAtomicUptoCard : Claim7 := { stood := { row := fnAtomicUptoRow, standIns := [], harness := (true, "14ec92c95df7d123a81d20c20d97c84bed4a81e2bed113c046abe137ae0cc488"), looks := true }, kinds := [], alts := [], laidByText := true, laidKinds := [.sentinel, .sentinel, .sentinel, .sentinel], laidTests := true, laidLooks := .later }
def FnAtomicUptoCardSaid : Prop := Claim7.holds Tryz.pinned (.plain (OpenSpec.upto fnAtomicSpec)) fnAtomicUptoCard

/-- THE SECOND FORM's CARD OF 'laws.FnOrdered'. -/
def fnOrderedUptoCard : Claim7 := { stood := { row := fnOrderedUptoRow, standIns := [], harness := (true, "14ec92c95df7d123a81d20c20d97c84bed4a81e2bed113c046abe137ae0cc488"), looks := true }, kinds := [], alts := [], laidByText := true, laidKinds := [.data, .data, .data, .sentinel, .sentinel, .sentinel, .sentinel], laidTests := true, laidLooks := .later }
def FnOrderedUptoCardSaid : Prop := Claim7.holds Tryz.pinned (.plain (OpenSpec.upto fnOrderedSpec)) fnOrderedUptoCard
end Rows
end Go.Proofs.YtobgjmgepckijaaGreatDoor
