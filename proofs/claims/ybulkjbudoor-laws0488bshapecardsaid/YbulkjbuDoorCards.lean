/-
  DERIVED. GIVEN WITH THE SEED: THE CARDS: each row of YbulkjbuDoorRows.lean that lists a variable, with what it lists TIED to the program's text (the seventh form; the later family's looks); each row that meets fmt, with fmt's text TOLD by the authors' own Lean function (tested against real Go, not proved from fmt's source: count such statements apart). THE CARD IS WHAT COUNTS. Prove the row's statement (the work); the ties are given (YbulkjbuDoorTie.lean); close each card by the builder's one call (the guide's Derived/Test/ToyasCard.lean, 'card_holds'). Laid BY PROGRAM, IN A SANDBOX (cutbox-door.mjs). By AI agents, Wed Nov 11 2026. No macro, syntax, notation, axiom, sorry.
-/
import Derived.Test.YbulkjbuDoorRows
import GoSem.ClaimSeven
namespace Go.Proofs.YbulkjbuDoor
namespace Rows

/-- THE TIED CARD OF 'neva.LawS0488BShape'. -/
def lawS0488BShapeCard : Claim7 := { stood := { row := lawS0488BShapeRow, standIns := [], harness := (true, "b64fa10d338e6067aadebea75b98fa811c2aac3d281485b42f451db742ce3139"), looks := true }, kinds := [], alts := [], laidByText := true, laidKinds := [.data, .data, .data, .wider, .wider], laidTests := true, laidLooks := .later }
def LawS0488BShapeCardSaid : Prop := Claim7.holds Ybad.pinned (.plain (OpenSpec.ofChange lawS0488BShapeSpec)) lawS0488BShapeCard

/-- THE TIED CARD OF 'neva.LawS0488BSettings'. -/
def lawS0488BSettingsCard : Claim7 := { stood := { row := lawS0488BSettingsRow, standIns := [], harness := (true, "b64fa10d338e6067aadebea75b98fa811c2aac3d281485b42f451db742ce3139"), looks := true }, kinds := [], alts := [], laidByText := true, laidKinds := [.data, .data, .data, .wider, .wider], laidTests := true, laidLooks := .later }
def LawS0488BSettingsCardSaid : Prop := Claim7.holds Ybad.pinned (.plain (OpenSpec.ofChange lawS0488BSettingsSpec)) lawS0488BSettingsCard
end Rows
end Go.Proofs.YbulkjbuDoor
