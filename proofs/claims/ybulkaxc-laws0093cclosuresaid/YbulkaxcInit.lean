/-
  Making things: steps of a region that draws, over a bag.
-/
import Derived.Test.YbulkaxcVisit
import Derived.Test.YbulkaxcRl
namespace Go.Proofs.Ybulkaxc.Cm
open Go Go.RowKit Go.Proofs.Ybulkaxc.M2
set_option linter.unusedVariables false

theorem Bag.congr {w : World} {tag : Nat → Nat} {T T' : Nat → Thing} (h : Bag w tag T) (e : ∀ i, T' i = T i) : Bag w tag T' := by
  have : T' = T := funext e
  rw [this]; exact h
theorem bag_none (w : World) : Bag w (fun _ => 0) (fun _ => noT) := ⟨fun _ => noT_fine, fun _ => trivial, fun i g hg => by cases hg⟩
section
variable {w : World} {tag : Nat → Nat} {T : Nat → Thing}
theorem bag_make (hb : Bag w tag T) (k : Nat) (hk : k ≠ 0) {B n : Nat} (hB : B ≤ w.heap.size) {w' : World} (h : Own .i32 21 w' w.heap.size (.slice (some ⟨w.heap.size, 0, none⟩) n n) (List.replicate n 0)) (t : Tch Non w w') :
    ∃ tag', Bag w' tag' (fun i => if i = k then slT .i32 21 B (.slice (some ⟨w.heap.size, 0, none⟩) n n) (List.replicate n 0) else T i) ∧ TB tag w tag' w' :=
  hb.put k hk t.non _ (slT_fine _ _ _ _ _) (h.mono hB) (fun g hg => .inr (by have e : w.heap.size = g := Option.some.inj hg; omega))
theorem bag_makeB (hb : Bag w tag T) (k : Nat) (hk : k ≠ 0) {B n : Nat} (hB : B ≤ w.heap.size) {w' : World} (h : OwnB w' w.heap.size (.slice (some ⟨w.heap.size, 0, none⟩) n n) (List.replicate n false)) (t : Tch Non w w') :
    ∃ tag', Bag w' tag' (fun i => if i = k then blT B (.slice (some ⟨w.heap.size, 0, none⟩) n n) (List.replicate n false) else T i) ∧ TB tag w tag' w' := by
  refine hb.put k hk t.non _ (blT_fine _ _ _) ?_ (fun g hg => .inr (by have e : w.heap.size = g := Option.some.inj hg; omega))
  exact ⟨h.1, h.2.elim .inl (fun ⟨g, cap, cur, hv, hb', rest⟩ => .inr ⟨g, cap, cur, hv, by omega, rest⟩)⟩
theorem bag_new (hb : Bag w tag T) (k : Nat) (hk : k ≠ 0) (cs : Array Value) (e : TypeId) :
    ∃ tag', Bag (w.alloc (.cells cs e)) tag' (fun i => if i = k then bkT w.heap.size e cs.toList else T i) ∧ TB tag w tag' (w.alloc (.cells cs e)) :=
  hb.put k hk ((Tch.refl Non w).alloc _).non _ (bkT_fine _ _ _) (Blk.new w cs e) (fun g hg => .inr (by have e : w.heap.size = g := Option.some.inj hg; omega))
theorem bag_set (hb : Bag w tag T) (k : Nat) (hk : k ≠ 0) {g : Nat} {e : TypeId} {cs : List Value} (hT : T k = bkT g e cs) (j : Nat) (v : Value) :
    ∃ tag', Bag (w.setCell ⟨g, j, none⟩ v) tag' (fun i => if i = k then bkT g e (cs.set j v) else T i) ∧ TB tag w tag' (w.setCell ⟨g, j, none⟩ v) := by
  have hs := hb.say k
  rw [hT] at hs
  refine hb.put k hk ?_ _ (bkT_fine _ _ _) (Blk.set hs j v) (fun g' hg => .inl (by rw [hT]; exact hg))
  exact (Tch.refl (fun x => (T k).blk = some x) w).setCell (p := ⟨g, j, none⟩) (.inl (by rw [hT]; rfl)) v
variable {ops : Array Oper} {o : Oper} {a : Act} {K : Act → World → Prop} {Q : Exit → Act → World → Prop} {E : Prop}
theorem step_mk (hb : Bag w tag T) (k : Nat) (hk : k ≠ 0) {B : Nat} (hB : B ≤ w.heap.size) (hgd : o.guard = none) (x : Operand) (ho : o.op = Op.makeSlice 23 x x) (n : Nat) (hx : a.eval x = .int .i32 (n : Int)) (hn : n ≤ 100000)
    (h : ∀ w' tag', Bag w' tag' (fun i => if i = k then slT .i32 21 B (.slice (some ⟨w.heap.size, 0, none⟩) n n) (List.replicate n 0) else T i) → TB tag w tag' w' → K (a.put o.dst (.slice (some ⟨w.heap.size, 0, none⟩) n n)) w') :
    if Region.wanted o (yielded ops a.tmps) = true then Oper.wp Yba.prog o a w K Q else E := by
  have hw : Region.wanted o (yielded ops a.tmps) = true := by simp [Region.wanted, hgd]
  rw [if_pos hw]
  obtain ⟨i0, hi, hz0, hz1, hz2⟩ := info_parts info21
  obtain ⟨w', hrun, r1, r2⟩ := run_make_full (P := Yba.prog) w w.heap.size 23 21 i0 (.int .i32 0) 1 Yba.underlying23 hi hz0 hz1 .i32 .i32 n (by rw [hz2]; omega) (by unfold maxLen; omega) (Nat.le_refl _)
  unfold Oper.wp
  have e : (execOp a.eval o).run Yba.prog w = .ok (.value (.slice (some ⟨w.heap.size, 0, none⟩) n n)) w' := by
    simp only [execOp, ho, hx, Sem.run_bind, hrun, Result.andThen_ok]; rfl
  rw [e]
  obtain ⟨tag', q1, q2⟩ := bag_make hb k hk hB (Own.made r1) ((Tch.refl _ _).of_grownBy r2 (by simp))
  exact h w' tag' q1 q2
theorem step_mkB (hb : Bag w tag T) (k : Nat) (hk : k ≠ 0) {B : Nat} (hB : B ≤ w.heap.size) (hgd : o.guard = none) (x : Operand) (ho : o.op = Op.makeSlice 44 x x) (n : Nat) (hx : a.eval x = .int .i32 (n : Int)) (hn : n ≤ 100000)
    (h : ∀ w' tag', Bag w' tag' (fun i => if i = k then blT B (.slice (some ⟨w.heap.size, 0, none⟩) n n) (List.replicate n false) else T i) → TB tag w tag' w' → K (a.put o.dst (.slice (some ⟨w.heap.size, 0, none⟩) n n)) w') :
    if Region.wanted o (yielded ops a.tmps) = true then Oper.wp Yba.prog o a w K Q else E := by
  have hw : Region.wanted o (yielded ops a.tmps) = true := by simp [Region.wanted, hgd]
  rw [if_pos hw]
  obtain ⟨i0, hi, hz0, hz1, hz2⟩ := info_parts info4
  obtain ⟨w', hrun, r1, r2⟩ := run_make_full (P := Yba.prog) w w.heap.size 44 4 i0 (.bool false) 1 Yba.underlying44 hi hz0 hz1 .i32 .i32 n (by rw [hz2]; omega) (by unfold maxLen; omega) (Nat.le_refl _)
  unfold Oper.wp
  have e : (execOp a.eval o).run Yba.prog w = .ok (.value (.slice (some ⟨w.heap.size, 0, none⟩) n n)) w' := by
    simp only [execOp, ho, hx, Sem.run_bind, hrun, Result.andThen_ok]; rfl
  rw [e]
  obtain ⟨tag', q1, q2⟩ := bag_makeB hb k hk hB (OwnB.made r1) ((Tch.refl _ _).of_grownBy r2 (by simp))
  exact h w' tag' q1 q2
end
end Go.Proofs.Ybulkaxc.Cm
