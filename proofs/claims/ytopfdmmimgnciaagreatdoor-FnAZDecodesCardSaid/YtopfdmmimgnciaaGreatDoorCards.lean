/-
  DERIVED. GIVEN WITH THE SEED: THE CARDS: each row of YtopfdmmimgnciaaGreatDoorRows.lean that lists a variable, with what it lists TIED to the program's text (the seventh form; the later family's looks); each row that meets fmt, with fmt's text TOLD by the authors' own Lean function (tested against real Go, not proved from fmt's source: count such statements apart). THE CARD IS WHAT COUNTS. Prove the row's statement (the work); the ties are given (YtopfdmmimgnciaaGreatDoorTie.lean); close each card by the builder's one call (the guide's Derived/Test/ToyasCard.lean, 'card_holds'). Laid BY PROGRAM, IN A SANDBOX (cutbox-door.mjs). By AI agents, Wed Nov 11 2026. No macro, syntax, notation, axiom, sorry.
-/
import Derived.Test.YtopfdmmimgnciaaGreatDoorRows
import GoSem.ClaimSeven
namespace Go.Proofs.YtopfdmmimgnciaaGreatDoor
namespace Rows

/-- THE TIED CARD OF 'laws.FnAZCorrects'. -/
def fnAZCorrectsCard : Claim7 := { stood := { row := fnAZCorrectsRow, standIns := [], harness := (true, "787dfec991022adafca5616b6c5fb1d78a1783fe1521d2f1d48dac547dbaebef"), looks := false }, kinds := [], alts := [], laidByText := true, laidKinds := [.data, .data, .data], laidTests := true, laidLooks := .later }
def FnAZCorrectsCardSaid : Prop := Claim7.holds Tryz.pinned (.plain (OpenSpec.ofChange fnAZCorrectsSpec)) fnAZCorrectsCard

/-- THE TIED CARD OF 'laws.FnAZDecodes'. -/
def fnAZDecodesCard : Claim7 := { stood := { row := fnAZDecodesRow, standIns := [], harness := (true, "787dfec991022adafca5616b6c5fb1d78a1783fe1521d2f1d48dac547dbaebef"), looks := false }, kinds := [], alts := [], laidByText := true, laidKinds := [.data, .data, .data], laidTests := true, laidLooks := .later }
def FnAZDecodesCardSaid : Prop := Claim7.holds Tryz.pinned (.plain (OpenSpec.ofChange fnAZDecodesSpec)) fnAZDecodesCard

/-- THE SECOND FORM's CARD OF 'laws.FnAZCorrects'. -/
def fnAZCorrectsUptoCard : Claim7 := { stood := { row := fnAZCorrectsUptoRow, standIns := [], harness := (true, "787dfec991022adafca5616b6c5fb1d78a1783fe1521d2f1d48dac547dbaebef"), looks := false }, kinds := [], alts := [], laidByText := true, laidKinds := [.data, .data, .data], laidTests := true, laidLooks := .later }
def FnAZCorrectsUptoCardSaid : Prop := Claim7.holds Tryz.pinned (.plain (OpenSpec.upto fnAZCorrectsSpec)) fnAZCorrectsUptoCard

/-- THE SECOND FORM's CARD OF 'laws.FnAZDecodes'. -/
def fnAZDecodesUptoCard : Claim7 := { stood := { row := fnAZDecodesUptoRow, standIns := [], harness := (true, "787dfec991022adafca5616b6c5fb1d78a1783fe1521d2f1d48dac547dbaebef"), looks := false }, kinds := [], alts := [], laidByText := true, laidKinds := [.data, .data, .data], laidTests := true, laidLooks := .later }
def FnAZDecodesUptoCardSaid : Prop := Claim7.holds Tryz.pinned (.plain (OpenSpec.upto fnAZDecodesSpec)) fnAZDecodesUptoCard
end Rows
end Go.Proofs.YtopfdmmimgnciaaGreatDoor
