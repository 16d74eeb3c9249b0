/-
  No cell of these rows narrows 'for every input' (looked for: loops, veiled, ifaces, maps, wideKeys, modest, calm, conditions, laid).
  DERIVED. THE GIVEN ROWS OF THIS SEAT. 2 by the template 'for every input the law returns true; each argument reads behind the call as it read before'; 0 by the template 'total and deterministic' (their statements: YbulkaxcTotals.lean).
  GIVEN WITH THE SEED: the statements are not yours to turn. If you find one false, say at which input.
  Laid BY PROGRAM, IN A SANDBOX (cutbox-rows.mjs): the forced cells as the released guide's own fill.sh prints them over the translation 3562023d42641f7d… (all of the seat's roots in one cut). By AI agents, Wed Nov 11 2026. No macro, syntax, notation, axiom, sorry.
-/
import Derived.Test.YbulkaxcChecked
import GoSem.Claim
import GoSem.ClaimJoined
import GoSem.ClaimMapViews
import Derived.JoinedTies
import Derived.KernelRfl
namespace Go.Proofs.Ybulkaxc
/- THE CELL 'sum', in the pinned program and in every row, IS THE sha256 OF THE DUMP (.gsa) THAT YbulkaxcProg.lean LOADS. Nothing in Lean hashes anything: it is a label: what it is worth is what the hold of that sum in a sandbox is worth. -/
noncomputable def Yba.pinned : Pinned := { name := "ybulkaxc", sum := "3562023d42641f7df012dd68ab170071bb4b4ed5d24e90641918b64b229be2cc", checked := Yba.checked }
namespace Rows
def none {H : Type} : Left H := { results := [], args := [] }

/-- 'checker.LawS0093AStep': WHATEVER THE INPUT: true; the input reads as it did. -/
def lawS0093AStepSpec : ChangeSpec := { name := "lawS0093AStep", fn := fun _ => fun
  | [d1, d2, d3, d4, d5, d6, d7, d8] => { results := [.lit (.bool true)], args := [d1, d2, d3, d4, d5, d6, d7, d8] }
  | _ => none }
def lawS0093AStepRow : OpenClaim := { program := "ybulkaxc", sum := "3562023d42641f7df012dd68ab170071bb4b4ed5d24e90641918b64b229be2cc", func := "example.com/isolith/isolith/checker.LawS0093AStep", spec := "lawS0093AStep", unfollowed := true, recurses := true, plainKeys := false, apart := false }
def LawS0093AStepSaid : Prop := lawS0093AStepRow.holds Yba.pinned (OpenSpec.ofChange lawS0093AStepSpec)

/-- ITS FALSE NEIGHBOUR: 'it returns false'. Refute it at one input. -/
def lawS0093AStepWrong : ChangeSpec := { name := "lawS0093AStep", fn := fun _ => fun
  | [d1, d2, d3, d4, d5, d6, d7, d8] => { results := [.lit (.bool false)], args := [d1, d2, d3, d4, d5, d6, d7, d8] }
  | _ => none }
def LawS0093AStepWrongFalsely : Prop := lawS0093AStepRow.holds Yba.pinned (OpenSpec.ofChange lawS0093AStepWrong)

/-- 'checker.LawS0093CClosure': WHATEVER THE INPUT: true; the input reads as it did. -/
def lawS0093CClosureSpec : ChangeSpec := { name := "lawS0093CClosure", fn := fun _ => fun
  | [d1, d2, d3, d4] => { results := [.lit (.bool true)], args := [d1, d2, d3, d4] }
  | _ => none }
def lawS0093CClosureRow : OpenClaim := { program := "ybulkaxc", sum := "3562023d42641f7df012dd68ab170071bb4b4ed5d24e90641918b64b229be2cc", func := "example.com/isolith/isolith/checker.LawS0093CClosure", spec := "lawS0093CClosure", inPlace := ["internal/reflectlite.ValueOf", "internal/reflectlite.Swapper", "(internal/reflectlite.Value).Len"], unfollowed := true, recurses := true, plainKeys := false, apart := false }
def LawS0093CClosureSaid : Prop := lawS0093CClosureRow.holds Yba.pinned (OpenSpec.ofChange lawS0093CClosureSpec)

/-- ITS FALSE NEIGHBOUR: 'it returns false'. Refute it at one input. -/
def lawS0093CClosureWrong : ChangeSpec := { name := "lawS0093CClosure", fn := fun _ => fun
  | [d1, d2, d3, d4] => { results := [.lit (.bool false)], args := [d1, d2, d3, d4] }
  | _ => none }
def LawS0093CClosureWrongFalsely : Prop := lawS0093CClosureRow.holds Yba.pinned (OpenSpec.ofChange lawS0093CClosureWrong)

end Rows
end Go.Proofs.Ybulkaxc
