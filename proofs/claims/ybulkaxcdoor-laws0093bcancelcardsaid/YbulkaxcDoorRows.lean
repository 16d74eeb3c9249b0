/-
  NARROWER THAN 'FOR EVERY INPUT', by the rows' own cells (each row's printed sentence says how): LawS0093BMatches: laid · LawS0093BCancel: laid.
  DERIVED. THE GIVEN ROWS OF THIS SEAT. 2 by the template 'for every input the law returns true; each argument reads behind the call as it read before'; 0 by the template 'total and deterministic' (their statements: YbulkaxcDoorTotals.lean).
  GIVEN WITH THE SEED: the statements are not yours to turn. If you find one false, say at which input.
  Laid BY PROGRAM, IN A SANDBOX (cutbox-rows.mjs): the forced cells as the released guide's own fill.sh prints them over the translation 6088be1dcdf768f7… (all of the seat's roots in one cut). By AI agents, Wed Nov 11 2026. No macro, syntax, notation, axiom, sorry.
-/
import Derived.Test.YbulkaxcDoorChecked
import GoSem.Claim
import GoSem.ClaimJoined
import GoSem.ClaimMapViews
import Derived.JoinedTies
import Derived.KernelRfl
namespace Go.Proofs.YbulkaxcDoor
/- THE CELL 'sum', in the pinned program and in every row, IS THE sha256 OF THE DUMP (.gsa) THAT YbulkaxcDoorProg.lean LOADS. Nothing in Lean hashes anything: it is a label: what it is worth is what the hold of that sum in a sandbox is worth. -/
noncomputable def Ybad.pinned : Pinned := { name := "ybulkaxcdoor", sum := "6088be1dcdf768f7776dba3c8bb5c2723ba222411bc833fc72281b43e8985c7e", checked := Ybad.checked }
namespace Rows
def none {H : Type} : Left H := { results := [], args := [] }

/- WHAT THE LISTED PACKAGE-LEVEL VARIABLES READ AS WHEN THE CALL BEGINS. Each datum BY PROGRAM (the guide's laid-datum.mjs) off the statement by which the dump's own 'gosem.cut.vars' lays the variable. In a bare row this is a premise. The card (YbulkaxcDoorCards.lean) ties it to the program's text. -/
def laid_example_com_isolith_isolith_checker_fewCrossing {H : Type} : DataW H := .lit (.int .i64 8)

/-- 'checker.LawS0093BMatches': WHATEVER THE INPUT: true; the input reads as it did. -/
def lawS0093BMatchesSpec : ChangeSpec := { name := "lawS0093BMatches", vars := ["example.com/isolith/isolith/checker.fewCrossing"], fn := fun _ => fun
  | [d1, d2, d3, g1] => { results := [.lit (.bool true)], args := [d1, d2, d3], vars := [g1] }
  | _ => none }
def lawS0093BMatchesRow : OpenClaim := { program := "ybulkaxcdoor", sum := "6088be1dcdf768f7776dba3c8bb5c2723ba222411bc833fc72281b43e8985c7e", func := "example.com/isolith/isolith/checker.LawS0093BMatches", spec := "lawS0093BMatches", unfollowed := true, recurses := true, named := ["example.com/isolith/isolith/checker.fewCrossing"], apart := false, laid := [("example.com/isolith/isolith/checker.fewCrossing", laid_example_com_isolith_isolith_checker_fewCrossing)] }
def LawS0093BMatchesSaid : Prop := lawS0093BMatchesRow.holds Ybad.pinned (OpenSpec.ofChange lawS0093BMatchesSpec)

/-- ITS FALSE NEIGHBOUR: 'it returns false'. Refute it at one input. -/
def lawS0093BMatchesWrong : ChangeSpec := { name := "lawS0093BMatches", vars := ["example.com/isolith/isolith/checker.fewCrossing"], fn := fun _ => fun
  | [d1, d2, d3, g1] => { results := [.lit (.bool false)], args := [d1, d2, d3], vars := [g1] }
  | _ => none }
def LawS0093BMatchesWrongFalsely : Prop := lawS0093BMatchesRow.holds Ybad.pinned (OpenSpec.ofChange lawS0093BMatchesWrong)

/-- 'checker.LawS0093BCancel': WHATEVER THE INPUT: true; the input reads as it did. -/
def lawS0093BCancelSpec : ChangeSpec := { name := "lawS0093BCancel", vars := ["example.com/isolith/isolith/checker.fewCrossing"], fn := fun _ => fun
  | [d1, d2, d3, d4, g1] => { results := [.lit (.bool true)], args := [d1, d2, d3, d4], vars := [g1] }
  | _ => none }
def lawS0093BCancelRow : OpenClaim := { program := "ybulkaxcdoor", sum := "6088be1dcdf768f7776dba3c8bb5c2723ba222411bc833fc72281b43e8985c7e", func := "example.com/isolith/isolith/checker.LawS0093BCancel", spec := "lawS0093BCancel", unfollowed := true, recurses := true, named := ["example.com/isolith/isolith/checker.fewCrossing"], apart := false, laid := [("example.com/isolith/isolith/checker.fewCrossing", laid_example_com_isolith_isolith_checker_fewCrossing)] }
def LawS0093BCancelSaid : Prop := lawS0093BCancelRow.holds Ybad.pinned (OpenSpec.ofChange lawS0093BCancelSpec)

/-- ITS FALSE NEIGHBOUR: 'it returns false'. Refute it at one input. -/
def lawS0093BCancelWrong : ChangeSpec := { name := "lawS0093BCancel", vars := ["example.com/isolith/isolith/checker.fewCrossing"], fn := fun _ => fun
  | [d1, d2, d3, d4, g1] => { results := [.lit (.bool false)], args := [d1, d2, d3, d4], vars := [g1] }
  | _ => none }
def LawS0093BCancelWrongFalsely : Prop := lawS0093BCancelRow.holds Ybad.pinned (OpenSpec.ofChange lawS0093BCancelWrong)

end Rows
end Go.Proofs.YbulkaxcDoor
