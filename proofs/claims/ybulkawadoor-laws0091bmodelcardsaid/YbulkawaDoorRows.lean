/-
  NARROWER THAN 'FOR EVERY INPUT', by the rows' own cells (each row's printed sentence says how): LawS0091BModel: laid · LawS0091BOrder: laid.
  DERIVED. THE GIVEN ROWS OF THIS SEAT. 2 by the template 'for every input the law returns true; each argument reads behind the call as it read before'; 0 by the template 'total and deterministic' (their statements: YbulkawaDoorTotals.lean).
  GIVEN WITH THE SEED: the statements are not yours to turn. If you find one false, say at which input.
  Laid BY PROGRAM, IN A SANDBOX (cutbox-rows.mjs): the forced cells as the released guide's own fill.sh prints them over the translation 2fa1ad3de4823a6c… (all of the seat's roots in one cut). By AI agents, Wed Nov 11 2026. No macro, syntax, notation, axiom, sorry.
-/
import Derived.Test.YbulkawaDoorChecked
import GoSem.Claim
import GoSem.ClaimJoined
import GoSem.ClaimMapViews
import Derived.JoinedTies
import Derived.KernelRfl
namespace Go.Proofs.YbulkawaDoor
/- THE CELL 'sum', in the pinned program and in every row, IS THE sha256 OF THE DUMP (.gsa) THAT YbulkawaDoorProg.lean LOADS. Nothing in Lean hashes anything: it is a label: what it is worth is what the hold of that sum in a sandbox is worth. -/
noncomputable def Ybad.pinned : Pinned := { name := "ybulkawadoor", sum := "2fa1ad3de4823a6c7244979d00b7f6c0e05b556c85c0cc2b7dc5f3a160503033", checked := Ybad.checked }
namespace Rows
def none {H : Type} : Left H := { results := [], args := [] }

/- WHAT THE LISTED PACKAGE-LEVEL VARIABLES READ AS WHEN THE CALL BEGINS. Each datum BY PROGRAM (the guide's laid-datum.mjs) off the statement by which the dump's own 'gosem.cut.vars' lays the variable. In a bare row this is a premise. The card (YbulkawaDoorCards.lean) ties it to the program's text. -/
def laid_example_com_clepsydra_clepsydra_monthDays {H : Type} : DataW H := .agg [.lit (.int .i64 31), .lit (.int .i64 28), .lit (.int .i64 31), .lit (.int .i64 30), .lit (.int .i64 31), .lit (.int .i64 30), .lit (.int .i64 31), .lit (.int .i64 31), .lit (.int .i64 30), .lit (.int .i64 31), .lit (.int .i64 30), .lit (.int .i64 31)]

/-- 'clepsydra.LawS0091BModel': WHATEVER THE INPUT: true; the input reads as it did. -/
def lawS0091BModelSpec : ChangeSpec := { name := "lawS0091BModel", vars := ["example.com/clepsydra/clepsydra.monthDays"], fn := fun _ => fun
  | [d1, d2, d3, d4, d5, d6, d7, d8, g1] => { results := [.lit (.bool true)], args := [d1, d2, d3, d4, d5, d6, d7, d8], vars := [g1] }
  | _ => none }
def lawS0091BModelRow : OpenClaim := { program := "ybulkawadoor", sum := "2fa1ad3de4823a6c7244979d00b7f6c0e05b556c85c0cc2b7dc5f3a160503033", func := "example.com/clepsydra/clepsydra.LawS0091BModel", spec := "lawS0091BModel", named := ["example.com/clepsydra/clepsydra.monthDays"], apart := false, laid := [("example.com/clepsydra/clepsydra.monthDays", laid_example_com_clepsydra_clepsydra_monthDays)] }
def LawS0091BModelSaid : Prop := lawS0091BModelRow.holds Ybad.pinned (OpenSpec.ofChange lawS0091BModelSpec)

/-- ITS FALSE NEIGHBOUR: 'it returns false'. Refute it at one input. -/
def lawS0091BModelWrong : ChangeSpec := { name := "lawS0091BModel", vars := ["example.com/clepsydra/clepsydra.monthDays"], fn := fun _ => fun
  | [d1, d2, d3, d4, d5, d6, d7, d8, g1] => { results := [.lit (.bool false)], args := [d1, d2, d3, d4, d5, d6, d7, d8], vars := [g1] }
  | _ => none }
def LawS0091BModelWrongFalsely : Prop := lawS0091BModelRow.holds Ybad.pinned (OpenSpec.ofChange lawS0091BModelWrong)

/-- 'clepsydra.LawS0091BOrder': WHATEVER THE INPUT: true; the input reads as it did. -/
def lawS0091BOrderSpec : ChangeSpec := { name := "lawS0091BOrder", vars := ["example.com/clepsydra/clepsydra.monthDays"], fn := fun _ => fun
  | [d1, d2, d3, d4, d5, d6, d7, d8, g1] => { results := [.lit (.bool true)], args := [d1, d2, d3, d4, d5, d6, d7, d8], vars := [g1] }
  | _ => none }
def lawS0091BOrderRow : OpenClaim := { program := "ybulkawadoor", sum := "2fa1ad3de4823a6c7244979d00b7f6c0e05b556c85c0cc2b7dc5f3a160503033", func := "example.com/clepsydra/clepsydra.LawS0091BOrder", spec := "lawS0091BOrder", named := ["example.com/clepsydra/clepsydra.monthDays"], apart := false, laid := [("example.com/clepsydra/clepsydra.monthDays", laid_example_com_clepsydra_clepsydra_monthDays)] }
def LawS0091BOrderSaid : Prop := lawS0091BOrderRow.holds Ybad.pinned (OpenSpec.ofChange lawS0091BOrderSpec)

/-- ITS FALSE NEIGHBOUR: 'it returns false'. Refute it at one input. -/
def lawS0091BOrderWrong : ChangeSpec := { name := "lawS0091BOrder", vars := ["example.com/clepsydra/clepsydra.monthDays"], fn := fun _ => fun
  | [d1, d2, d3, d4, d5, d6, d7, d8, g1] => { results := [.lit (.bool false)], args := [d1, d2, d3, d4, d5, d6, d7, d8], vars := [g1] }
  | _ => none }
def LawS0091BOrderWrongFalsely : Prop := lawS0091BOrderRow.holds Ybad.pinned (OpenSpec.ofChange lawS0091BOrderWrong)

end Rows
end Go.Proofs.YbulkawaDoor
