/-
  DERIVED. GIVEN WITH THE SEED: THE CARDS: each row of YtjpcajecmfhppaaDoorRows.lean that lists a variable, with what it lists TIED to the program's text (the seventh form; the later family's looks); each row that meets fmt, with fmt's text TOLD by the authors' own Lean function (tested against real Go, not proved from fmt's source: count such statements apart). THE CARD IS WHAT COUNTS. Prove the row's statement (the work); the ties are given (YtjpcajecmfhppaaDoorTie.lean); close each card by the builder's one call (the guide's Derived/Test/ToyasCard.lean, 'card_holds'). Laid BY PROGRAM, IN A SANDBOX (cutbox-door.mjs). By AI agents, Wed Nov 11 2026. No macro, syntax, notation, axiom, sorry.
-/
import Derived.Test.YtjpcajecmfhppaaDoorRows
import GoSem.ClaimSeven
namespace Go.Proofs.YtjpcajecmfhppaaDoor
namespace Rows

/-- THE TIED CARD OF 'laws.FnDMC40'. -/
def fnDMC40Card : Claim7 := { stood := { row := fnDMC40Row, standIns := [], harness := (true, "a7992b5121b2a95741c8b0c2e915aca83bc0a44148e68f14b0de0f899f993564"), looks := false }, kinds := [], alts := [], laidByText := true, laidKinds := [.data, .data, .data], laidTests := true, laidLooks := .later }
def FnDMC40CardSaid : Prop := Claim7.holds Tryd.pinned (.plain (OpenSpec.ofChange fnDMC40Spec)) fnDMC40Card

/-- THE TIED CARD OF 'laws.FnDMEdifact'. -/
def fnDMEdifactCard : Claim7 := { stood := { row := fnDMEdifactRow, standIns := [], harness := (true, "a7992b5121b2a95741c8b0c2e915aca83bc0a44148e68f14b0de0f899f993564"), looks := false }, kinds := [], alts := [], laidByText := true, laidKinds := [.data, .data, .data], laidTests := true, laidLooks := .later }
def FnDMEdifactCardSaid : Prop := Claim7.holds Tryd.pinned (.plain (OpenSpec.ofChange fnDMEdifactSpec)) fnDMEdifactCard

/-- THE SECOND FORM's CARD OF 'laws.FnDMC40'. -/
def fnDMC40UptoCard : Claim7 := { stood := { row := fnDMC40UptoRow, standIns := [], harness := (true, "a7992b5121b2a95741c8b0c2e915aca83bc0a44148e68f14b0de0f899f993564"), looks := false }, kinds := [], alts := [], laidByText := true, laidKinds := [.data, .data, .data], laidTests := true, laidLooks := .later }
def FnDMC40UptoCardSaid : Prop := Claim7.holds Tryd.pinned (.plain (OpenSpec.upto fnDMC40Spec)) fnDMC40UptoCard

/-- THE SECOND FORM's CARD OF 'laws.FnDMEdifact'. -/
def fnDMEdifactUptoCard : Claim7 := { stood := { row := fnDMEdifactUptoRow, standIns := [], harness := (true, "a7992b5121b2a95741c8b0c2e915aca83bc0a44148e68f14b0de0f899f993564"), looks := false }, kinds := [], alts := [], laidByText := true, laidKinds := [.data, .data, .data], laidTests := true, laidLooks := .later }
def FnDMEdifactUptoCardSaid : Prop := Claim7.holds Tryd.pinned (.plain (OpenSpec.upto fnDMEdifactSpec)) fnDMEdifactUptoCard
end Rows
end Go.Proofs.YtjpcajecmfhppaaDoor
