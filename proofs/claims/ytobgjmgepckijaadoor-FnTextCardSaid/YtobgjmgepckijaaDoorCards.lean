/-
  DERIVED. GIVEN WITH THE SEED: THE CARDS: each row of YtobgjmgepckijaaDoorRows.lean that lists a variable, with what it lists TIED to the program's text (the seventh form; the later family's looks); each row that meets fmt, with fmt's text TOLD by the authors' own Lean function (tested against real Go, not proved from fmt's source: count such statements apart). THE CARD IS WHAT COUNTS. Prove the row's statement (the work); the ties are given (YtobgjmgepckijaaDoorTie.lean); close each card by the builder's one call (the guide's Derived/Test/ToyasCard.lean, 'card_holds'). Laid BY PROGRAM, IN A SANDBOX (cutbox-door.mjs). By AI agents, Wed Nov 11 2026. No macro, syntax, notation, axiom, sorry.
-/
import Derived.Test.YtobgjmgepckijaaDoorRows
import GoSem.ClaimSeven
namespace Go.Proofs.YtobgjmgepckijaaDoor
namespace Rows

/-- THE TIED CARD OF 'laws.FnWord'. -/
def fnWordCard : Claim7 := { stood := { row := fnWordRow, standIns := [], harness := (true, "5d6f04e704b93f13094dd858b634a1c27afde83c5667bd8272207452795db257"), looks := true }, kinds := [], alts := [], laidByText := true, laidKinds := [.data, .data, .data], laidTests := true, laidLooks := .later }
def FnWordCardSaid : Prop := Claim7.holds Tryd.pinned (.plain (OpenSpec.ofChange fnWordSpec)) fnWordCard

/-- THE TIED CARD OF 'laws.FnText'. -/
def fnTextCard : Claim7 := { stood := { row := fnTextRow, standIns := [], harness := (true, "5d6f04e704b93f13094dd858b634a1c27afde83c5667bd8272207452795db257"), looks := true }, kinds := [], alts := [], laidByText := true, laidKinds := [.data, .data, .data], laidTests := true, laidLooks := .later }
def FnTextCardSaid : Prop := Claim7.holds Tryd.pinned (.plain (OpenSpec.ofChange fnTextSpec)) fnTextCard

/-- THE SECOND FORM's CARD OF 'laws.FnWord'. -/
def fnWordUptoCard : Claim7 := { stood := { row := fnWordUptoRow, standIns := [], harness := (true, "5d6f04e704b93f13094dd858b634a1c27afde83c5667bd8272207452795db257"), looks := true }, kinds := [], alts := [], laidByText := true, laidKinds := [.data, .data, .data], laidTests := true, laidLooks := .later }
def FnWordUptoCardSaid : Prop := Claim7.holds Tryd.pinned (.plain (OpenSpec.upto fnWordSpec)) fnWordUptoCard

/-- THE SECOND FORM's CARD OF 'laws.FnText'. -/
def fnTextUptoCard : Claim7 := { stood := { row := fnTextUptoRow, standIns := [], harness := (true, "5d6f04e704b93f13094dd858b634a1c27afde83c5667bd8272207452795db257"), looks := true }, kinds := [], alts := [], laidByText := true, laidKinds := [.data, .data, .data], laidTests := true, laidLooks := .later }
def FnTextUptoCardSaid : Prop := Claim7.holds Tryd.pinned (.plain (OpenSpec.upto fnTextSpec)) fnTextUptoCard
end Rows
end Go.Proofs.YtobgjmgepckijaaDoor
