/-
  DERIVED. GIVEN WITH THE SEED: THE CARDS: each row of YbulkawaDoorRows.lean that lists a variable, with what it lists TIED to the program's text (the seventh form; the later family's looks); each row that meets fmt, with fmt's text TOLD by the authors' own Lean function (tested against real Go, not proved from fmt's source: count such statements apart). THE CARD IS WHAT COUNTS. Prove the row's statement (the work); the ties are given (YbulkawaDoorTie.lean); close each card by the builder's one call (the guide's Derived/Test/ToyasCard.lean, 'card_holds'). Laid BY PROGRAM, IN A SANDBOX (cutbox-door.mjs). By AI agents, Wed Nov 11 2026. No macro, syntax, notation, axiom, sorry.
-/
import Derived.Test.YbulkawaDoorRows
import GoSem.ClaimSeven
namespace Go.Proofs.YbulkawaDoor
namespace Rows

/-- THE TIED CARD OF 'clepsydra.LawS0091BModel'. -/
def lawS0091BModelCard : Claim7 := { stood := { row := lawS0091BModelRow, standIns := [], harness := (true, "768c66e05b3da06e0679ed30b9c6eb193fa87839c1094d6b8bf35e3e6ba3dd5c"), looks := false }, kinds := [], alts := [], laidByText := true, laidKinds := [.data], laidTests := true, laidLooks := .later }
def LawS0091BModelCardSaid : Prop := Claim7.holds Ybad.pinned (.plain (OpenSpec.ofChange lawS0091BModelSpec)) lawS0091BModelCard

/-- THE TIED CARD OF 'clepsydra.LawS0091BOrder'. -/
def lawS0091BOrderCard : Claim7 := { stood := { row := lawS0091BOrderRow, standIns := [], harness := (true, "768c66e05b3da06e0679ed30b9c6eb193fa87839c1094d6b8bf35e3e6ba3dd5c"), looks := false }, kinds := [], alts := [], laidByText := true, laidKinds := [.data], laidTests := true, laidLooks := .later }
def LawS0091BOrderCardSaid : Prop := Claim7.holds Ybad.pinned (.plain (OpenSpec.ofChange lawS0091BOrderSpec)) lawS0091BOrderCard
end Rows
end Go.Proofs.YbulkawaDoor
