/-
  DERIVED. GIVEN WITH THE SEED: THE CARDS: each row of YbulkaxcDoorRows.lean that lists a variable, with what it lists TIED to the program's text (the seventh form; the later family's looks); each row that meets fmt, with fmt's text TOLD by the authors' own Lean function (tested against real Go, not proved from fmt's source: count such statements apart). THE CARD IS WHAT COUNTS. Prove the row's statement (the work); the ties are given (YbulkaxcDoorTie.lean); close each card by the builder's one call (the guide's Derived/Test/ToyasCard.lean, 'card_holds'). Laid BY PROGRAM, IN A SANDBOX (cutbox-door.mjs). By AI agents, Wed Nov 11 2026. No macro, syntax, notation, axiom, sorry.
-/
import Derived.Test.YbulkaxcDoorRows
import GoSem.ClaimSeven
namespace Go.Proofs.YbulkaxcDoor
namespace Rows

/-- THE TIED CARD OF 'checker.LawS0093BMatches'. -/
def lawS0093BMatchesCard : Claim7 := { stood := { row := lawS0093BMatchesRow, standIns := [], harness := (true, "749a0e1690255a82b2ef033e2a733c05fdc4c6fb3892ed8bf1984f86f853b9bb"), looks := false }, kinds := [], alts := [], laidByText := true, laidKinds := [.data], laidTests := true, laidLooks := .later }
def LawS0093BMatchesCardSaid : Prop := Claim7.holds Ybad.pinned (.plain (OpenSpec.ofChange lawS0093BMatchesSpec)) lawS0093BMatchesCard

/-- THE TIED CARD OF 'checker.LawS0093BCancel'. -/
def lawS0093BCancelCard : Claim7 := { stood := { row := lawS0093BCancelRow, standIns := [], harness := (true, "749a0e1690255a82b2ef033e2a733c05fdc4c6fb3892ed8bf1984f86f853b9bb"), looks := false }, kinds := [], alts := [], laidByText := true, laidKinds := [.data], laidTests := true, laidLooks := .later }
def LawS0093BCancelCardSaid : Prop := Claim7.holds Ybad.pinned (.plain (OpenSpec.ofChange lawS0093BCancelSpec)) lawS0093BCancelCard
end Rows
end Go.Proofs.YbulkaxcDoor
