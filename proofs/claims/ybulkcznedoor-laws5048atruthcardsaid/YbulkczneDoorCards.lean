/-
  DERIVED. GIVEN WITH THE SEED: THE CARDS: each row of YbulkczneDoorRows.lean that lists a variable, with what it lists TIED to the program's text (the seventh form; the later family's looks); each row that meets fmt, with fmt's text TOLD by the authors' own Lean function (tested against real Go, not proved from fmt's source: count such statements apart). THE CARD IS WHAT COUNTS. Prove the row's statement (the work); the ties are given (YbulkczneDoorTie.lean); close each card by the builder's one call (the guide's Derived/Test/ToyasCard.lean, 'card_holds'). Laid BY PROGRAM, IN A SANDBOX (cutbox-door.mjs). By AI agents, Wed Nov 11 2026. No macro, syntax, notation, axiom, sorry.
-/
import Derived.Test.YbulkczneDoorRows
import GoSem.ClaimSeven
namespace Go.Proofs.YbulkczneDoor
namespace Rows

/-- THE TIED CARD OF 'simplify.LawS5048ATruth'. -/
def lawS5048ATruthCard : Claim7 := { stood := { row := lawS5048ATruthRow, standIns := [], harness := (true, "8195a54c58aea16f1edcd10b20eaa57888b4a53b4715e275196b096161be4285"), looks := false }, kinds := [], alts := [], laidByText := true, laidKinds := [.widerDeep], laidTests := true, laidLooks := .later }
def LawS5048ATruthCardSaid : Prop := Claim7.holds Ybad.pinned (.plain (OpenSpec.ofChange lawS5048ATruthSpec)) lawS5048ATruthCard

/-- THE TIED CARD OF 'simplify.LawS5048AFresh'. -/
def lawS5048AFreshCard : Claim7 := { stood := { row := lawS5048AFreshRow, standIns := [], harness := (true, "8195a54c58aea16f1edcd10b20eaa57888b4a53b4715e275196b096161be4285"), looks := false }, kinds := [], alts := [], laidByText := true, laidKinds := [.widerDeep], laidTests := true, laidLooks := .later }
def LawS5048AFreshCardSaid : Prop := Claim7.holds Ybad.pinned (.plain (OpenSpec.ofChange lawS5048AFreshSpec)) lawS5048AFreshCard
end Rows
end Go.Proofs.YbulkczneDoor
