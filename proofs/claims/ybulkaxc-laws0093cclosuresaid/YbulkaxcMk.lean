/-
  Making rows in a region that draws its order. 
-/
import Derived.Test.YbulkaxcLb2
import Derived.Deep.RegionHeld3
namespace Go.Proofs.Ybulkaxc.Law
open Go Go.RowKit Go.Proofs.Ybulkaxc.M2 Go.Proofs.Ybulkaxc.Cm
set_option linter.unusedVariables false
theorem info3 : (Yba.prog.info? 3).map (fun i => (i.zero, i.size, i.bytes)) = some (some (.int .i64 0), 1, 8) := by kernel_rfl
section
variable {w : World} {ops : Array Oper} {o : Oper} {a : Act} {K : Act → World → Prop} {Q : Exit → Act → World → Prop} {E : Prop}
theorem step_m (T e : TypeId) (i0 : TypeInfo) (z : Value) (k : IntKind) (hz : z = .int k 0) (hT : Yba.prog.underlying T = some (.slice e)) (hi : Yba.prog.info? e = some i0) (hz0 : i0.zero = some z) (hz1 : i0.size = 1) (hz2 : i0.bytes ≤ 8) (hgd : o.guard = none) (x : Operand) (ho : o.op = Op.makeSlice T x x) (n : Nat) (hx : a.eval x = .int .i64 (n : Int)) (hn : n ≤ 100000)
    (h : ∀ w', Own k e w' w.heap.size (.slice (some ⟨w.heap.size, 0, none⟩) n n) (List.replicate n 0) → Tch Non w w' → K (a.put o.dst (.slice (some ⟨w.heap.size, 0, none⟩) n n)) w') :
    if Region.wanted o (yielded ops a.tmps) = true then Oper.wp Yba.prog o a w K Q else E := by
  have hw : Region.wanted o (yielded ops a.tmps) = true := by simp [Region.wanted, hgd]
  rw [if_pos hw]
  subst hz
  obtain ⟨w', hrun, r1, r2⟩ := run_make_full (P := Yba.prog) w w.heap.size T e i0 (.int k 0) 1 hT hi hz0 hz1 .i64 .i64 n (by have h1 : i0.bytes * n ≤ 8 * 100000 := Nat.mul_le_mul hz2 hn; first | omega | (rw [Nat.mul_comm]; omega)) (by unfold maxLen; omega) (Nat.le_refl _)
  unfold Oper.wp
  have e : (execOp a.eval o).run Yba.prog w = .ok (.value (.slice (some ⟨w.heap.size, 0, none⟩) n n)) w' := by
    simp only [execOp, ho, hx, Sem.run_bind, hrun, Result.andThen_ok]; rfl
  rw [e]
  exact h w' (Own.made r1) ((Tch.refl _ _).of_grownBy r2 (by simp))
end
end Go.Proofs.Ybulkaxc.Law
