/-
  No cell of these rows narrows 'for every input' (looked for: loops, veiled, ifaces, maps, wideKeys, modest, calm, conditions, laid).
  DERIVED. THE GIVEN ROWS OF THIS SEAT. 4 by the template 'for every input the law returns true; each argument reads behind the call as it read before'; 0 by the template 'total and deterministic' (their statements: YbulkawaTotals.lean).
  GIVEN WITH THE SEED: the statements are not yours to turn. If you find one false, say at which input.
  Laid BY PROGRAM, IN A SANDBOX (cutbox-rows.mjs): the forced cells as the released guide's own fill.sh prints them over the translation 6398dace5081c422… (all of the seat's roots in one cut). By AI agents, Wed Nov 11 2026. No macro, syntax, notation, axiom, sorry.
-/
import Derived.Test.YbulkawaChecked
import GoSem.Claim
import GoSem.ClaimJoined
import GoSem.ClaimMapViews
import Derived.JoinedTies
import Derived.KernelRfl
namespace Go.Proofs.Ybulkawa
/- THE CELL 'sum', in the pinned program and in every row, IS THE sha256 OF THE DUMP (.gsa) THAT YbulkawaProg.lean LOADS. Nothing in Lean hashes anything: it is a label: what it is worth is what the hold of that sum in a sandbox is worth. -/
noncomputable def Yba.pinned : Pinned := { name := "ybulkawa", sum := "6398dace5081c4228f7ec13813500e8b0a75805fd6c8870179c37121114e6ac4", checked := Yba.checked }
namespace Rows
def none {H : Type} : Left H := { results := [], args := [] }

/-- 'clepsydra.LawS0091AModel': WHATEVER THE INPUT: true; the input reads as it did. -/
def lawS0091AModelSpec : ChangeSpec := { name := "lawS0091AModel", fn := fun _ => fun
  | [d] => { results := [.lit (.bool true)], args := [d] }
  | _ => none }
def lawS0091AModelRow : OpenClaim := { program := "ybulkawa", sum := "6398dace5081c4228f7ec13813500e8b0a75805fd6c8870179c37121114e6ac4", func := "example.com/clepsydra/clepsydra.LawS0091AModel", spec := "lawS0091AModel", apart := false }
def LawS0091AModelSaid : Prop := lawS0091AModelRow.holds Yba.pinned (OpenSpec.ofChange lawS0091AModelSpec)

/-- ITS FALSE NEIGHBOUR: 'it returns false'. Refute it at one input. -/
def lawS0091AModelWrong : ChangeSpec := { name := "lawS0091AModel", fn := fun _ => fun
  | [d] => { results := [.lit (.bool false)], args := [d] }
  | _ => none }
def LawS0091AModelWrongFalsely : Prop := lawS0091AModelRow.holds Yba.pinned (OpenSpec.ofChange lawS0091AModelWrong)

/-- 'clepsydra.LawS0091AConcat': WHATEVER THE INPUT: true; the input reads as it did. -/
def lawS0091AConcatSpec : ChangeSpec := { name := "lawS0091AConcat", fn := fun _ => fun
  | [d1, d2] => { results := [.lit (.bool true)], args := [d1, d2] }
  | _ => none }
def lawS0091AConcatRow : OpenClaim := { program := "ybulkawa", sum := "6398dace5081c4228f7ec13813500e8b0a75805fd6c8870179c37121114e6ac4", func := "example.com/clepsydra/clepsydra.LawS0091AConcat", spec := "lawS0091AConcat", apart := false }
def LawS0091AConcatSaid : Prop := lawS0091AConcatRow.holds Yba.pinned (OpenSpec.ofChange lawS0091AConcatSpec)

/-- ITS FALSE NEIGHBOUR: 'it returns false'. Refute it at one input. -/
def lawS0091AConcatWrong : ChangeSpec := { name := "lawS0091AConcat", fn := fun _ => fun
  | [d1, d2] => { results := [.lit (.bool false)], args := [d1, d2] }
  | _ => none }
def LawS0091AConcatWrongFalsely : Prop := lawS0091AConcatRow.holds Yba.pinned (OpenSpec.ofChange lawS0091AConcatWrong)

/-- 'clepsydra.LawS0091CStep': WHATEVER THE INPUT: true; the input reads as it did. -/
def lawS0091CStepSpec : ChangeSpec := { name := "lawS0091CStep", fn := fun _ => fun
  | [d1, d2, d3, d4, d5, d6, d7] => { results := [.lit (.bool true)], args := [d1, d2, d3, d4, d5, d6, d7] }
  | _ => none }
def lawS0091CStepRow : OpenClaim := { program := "ybulkawa", sum := "6398dace5081c4228f7ec13813500e8b0a75805fd6c8870179c37121114e6ac4", func := "example.com/clepsydra/clepsydra.LawS0091CStep", spec := "lawS0091CStep", apart := false }
def LawS0091CStepSaid : Prop := lawS0091CStepRow.holds Yba.pinned (OpenSpec.ofChange lawS0091CStepSpec)

/-- ITS FALSE NEIGHBOUR: 'it returns false'. Refute it at one input. -/
def lawS0091CStepWrong : ChangeSpec := { name := "lawS0091CStep", fn := fun _ => fun
  | [d1, d2, d3, d4, d5, d6, d7] => { results := [.lit (.bool false)], args := [d1, d2, d3, d4, d5, d6, d7] }
  | _ => none }
def LawS0091CStepWrongFalsely : Prop := lawS0091CStepRow.holds Yba.pinned (OpenSpec.ofChange lawS0091CStepWrong)

/-- 'clepsydra.LawS0091CTotal': WHATEVER THE INPUT: true; the input reads as it did. -/
def lawS0091CTotalSpec : ChangeSpec := { name := "lawS0091CTotal", fn := fun _ => fun
  | [d1, d2, d3] => { results := [.lit (.bool true)], args := [d1, d2, d3] }
  | _ => none }
def lawS0091CTotalRow : OpenClaim := { program := "ybulkawa", sum := "6398dace5081c4228f7ec13813500e8b0a75805fd6c8870179c37121114e6ac4", func := "example.com/clepsydra/clepsydra.LawS0091CTotal", spec := "lawS0091CTotal", apart := false }
def LawS0091CTotalSaid : Prop := lawS0091CTotalRow.holds Yba.pinned (OpenSpec.ofChange lawS0091CTotalSpec)

/-- ITS FALSE NEIGHBOUR: 'it returns false'. Refute it at one input. -/
def lawS0091CTotalWrong : ChangeSpec := { name := "lawS0091CTotal", fn := fun _ => fun
  | [d1, d2, d3] => { results := [.lit (.bool false)], args := [d1, d2, d3] }
  | _ => none }
def LawS0091CTotalWrongFalsely : Prop := lawS0091CTotalRow.holds Yba.pinned (OpenSpec.ofChange lawS0091CTotalWrong)

end Rows
end Go.Proofs.Ybulkawa
