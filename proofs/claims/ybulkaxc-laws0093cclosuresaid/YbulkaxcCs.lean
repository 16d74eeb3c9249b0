/-
  What 'components' has in memory: boxes and rows, in one bag.
-/
import Derived.Test.YbulkaxcRow2
import Derived.Test.YbulkaxcOwnB
namespace Go.Proofs.Ybulkaxc.Cm
open Go Go.RowKit Go.Proofs.Ybulkaxc.M2
set_option linter.unusedVariables false

/-- What does not turn: the base, how many nodes, the boxes' blocks (reached, index, low, stack, onStack, calls, start), the rows' blocks (index, low, onStack, comp, onCycle), the slice 'start'. -/
structure Fx where
  B : Nat
  n : Nat
  b1 : Nat
  b2 : Nat
  b3 : Nat
  b4 : Nat
  b5 : Nat
  b6 : Nat
  b7 : Nat
  gi : Nat
  gl : Nat
  go : Nat
  gm : Nat
  gy : Nat
  vst : Value
/-- What turns. x4, x6: what lies in the boxes of stack and calls; v4, v6: the slices that own the rows. -/
structure CV where
  rc : Nat
  li : List Int
  ll : List Int
  lm : List Int
  lo : List Bool
  ly : List Bool
  x4 : Value
  v4 : Value
  stk : List Int
  x6 : Value
  v6 : Value
  cal : List (Int × Int)
def T (f : Fx) (s : CV) : Nat → Thing
  | 1 => bkT f.b1 21 [.int .i32 (s.rc : Int)]
  | 2 => bkT f.b2 23 [.slice (some ⟨f.gi, 0, none⟩) f.n f.n]
  | 3 => bkT f.b3 23 [.slice (some ⟨f.gl, 0, none⟩) f.n f.n]
  | 4 => bkT f.b4 23 [s.x4]
  | 5 => bkT f.b5 44 [.slice (some ⟨f.go, 0, none⟩) f.n f.n]
  | 6 => bkT f.b6 109 [s.x6]
  | 7 => bkT f.b7 23 [f.vst]
  | 8 => slT .i32 21 f.B (.slice (some ⟨f.gi, 0, none⟩) f.n f.n) s.li
  | 9 => slT .i32 21 f.B (.slice (some ⟨f.gl, 0, none⟩) f.n f.n) s.ll
  | 10 => slT .i32 21 f.B s.v4 s.stk
  | 11 => blT f.B (.slice (some ⟨f.go, 0, none⟩) f.n f.n) s.lo
  | 12 => prT 111 f.B s.v6 s.cal
  | 13 => slT .i32 21 f.B (.slice (some ⟨f.gm, 0, none⟩) f.n f.n) s.lm
  | 14 => blT f.B (.slice (some ⟨f.gy, 0, none⟩) f.n f.n) s.ly
  | _ => noT
theorem T_fine (f : Fx) (s : CV) (i : Nat) : (T f s i).Fine := by
  match i with
  | 0 => exact noT_fine
  | 1 => exact bkT_fine _ _ _
  | 2 => exact bkT_fine _ _ _
  | 3 => exact bkT_fine _ _ _
  | 4 => exact bkT_fine _ _ _
  | 5 => exact bkT_fine _ _ _
  | 6 => exact bkT_fine _ _ _
  | 7 => exact bkT_fine _ _ _
  | 8 => exact slT_fine _ _ _ _ _
  | 9 => exact slT_fine _ _ _ _ _
  | 10 => exact slT_fine _ _ _ _ _
  | 11 => exact blT_fine _ _ _
  | 12 => exact prT_fine _ _ _ _
  | 13 => exact slT_fine _ _ _ _ _
  | 14 => exact blT_fine _ _ _
  | k + 15 => exact noT_fine
section
variable {w w' : World} {tag : Nat → Nat} {f : Fx} {s s' : CV}
theorem putT (h : Bag w tag (T f s)) (k : Nat) (hk : k ≠ 0) (t : Tch (fun x => (T f s k).blk = some x) w w') (hs : (T f s' k).say w') (hf : ∀ g, (T f s' k).blk = some g → (T f s k).blk = some g ∨ w.heap.size ≤ g)
    (heq : ∀ i, i ≠ k → T f s' i = T f s i) : ∃ tag', Bag w' tag' (T f s') ∧ TB tag w tag' w' := by
  obtain ⟨tag', h1, h2⟩ := h.put k hk t (T f s' k) (T_fine _ _ _) hs hf
  refine ⟨tag', ?_, h2⟩
  have : (fun i => if i = k then T f s' k else T f s i) = T f s' := by
    funext i
    by_cases e : i = k
    · rw [if_pos e, e]
    · rw [if_neg e, heq i e]
  rw [this] at h1
  exact h1
theorem tset {k : Nat} {p : Addr} (h : (T f s k).blk = some p.block) (u : Value) : Tch (fun x => (T f s k).blk = some x) w (w.setCell p u) := (Tch.refl (fun x => (T f s k).blk = some x) w).setCell (.inl h) u
theorem put1 (h : Bag w tag (T f s)) (r : Nat) : ∃ tag', Bag (w.setCell ⟨f.b1, 0, none⟩ (.int .i32 (r : Int))) tag' (T f { s with rc := r }) ∧ TB tag w tag' (w.setCell ⟨f.b1, 0, none⟩ (.int .i32 (r : Int))) := by
  have hb : Blk w f.b1 21 [.int .i32 (s.rc : Int)] := h.say 1
  refine putT h 1 (by decide) (tset rfl _) (hb.set 0 _) (fun g hg => .inl hg) ?_
  intro i hi
  match i, hi with
  | 0, _ | 2, _ | 3, _ | 4, _ | 5, _ | 6, _ | 7, _ | 8, _ | 9, _ | 10, _ | 11, _ | 12, _ | 13, _ | 14, _ => rfl
  | 1, hi => exact absurd rfl hi
  | k + 15, _ => rfl
theorem put8 (h : Bag w tag (T f s)) (i : Nat) (y : Int) : ∃ tag', Bag (w.setCell ⟨f.gi, i, none⟩ (.int .i32 y)) tag' (T f { s with li := s.li.set i y }) ∧ TB tag w tag' (w.setCell ⟨f.gi, i, none⟩ (.int .i32 y)) := by
  have hb : Own .i32 21 w f.B (.slice (some ⟨f.gi, 0, none⟩) f.n f.n) s.li := h.say 8
  refine putT h 8 (by decide) (tset rfl _) (hb.set i y) (fun g hg => .inl hg) ?_
  intro i hi
  match i, hi with
  | 0, _ | 1, _ | 2, _ | 3, _ | 4, _ | 5, _ | 6, _ | 7, _ | 9, _ | 10, _ | 11, _ | 12, _ | 13, _ | 14, _ => rfl
  | 8, hi => exact absurd rfl hi
  | k + 15, _ => rfl
theorem put9 (h : Bag w tag (T f s)) (i : Nat) (y : Int) : ∃ tag', Bag (w.setCell ⟨f.gl, i, none⟩ (.int .i32 y)) tag' (T f { s with ll := s.ll.set i y }) ∧ TB tag w tag' (w.setCell ⟨f.gl, i, none⟩ (.int .i32 y)) := by
  have hb : Own .i32 21 w f.B (.slice (some ⟨f.gl, 0, none⟩) f.n f.n) s.ll := h.say 9
  refine putT h 9 (by decide) (tset rfl _) (hb.set i y) (fun g hg => .inl hg) ?_
  intro i hi
  match i, hi with
  | 0, _ | 1, _ | 2, _ | 3, _ | 4, _ | 5, _ | 6, _ | 7, _ | 8, _ | 10, _ | 11, _ | 12, _ | 13, _ | 14, _ => rfl
  | 9, hi => exact absurd rfl hi
  | k + 15, _ => rfl
theorem put13 (h : Bag w tag (T f s)) (i : Nat) (y : Int) : ∃ tag', Bag (w.setCell ⟨f.gm, i, none⟩ (.int .i32 y)) tag' (T f { s with lm := s.lm.set i y }) ∧ TB tag w tag' (w.setCell ⟨f.gm, i, none⟩ (.int .i32 y)) := by
  have hb : Own .i32 21 w f.B (.slice (some ⟨f.gm, 0, none⟩) f.n f.n) s.lm := h.say 13
  refine putT h 13 (by decide) (tset rfl _) (hb.set i y) (fun g hg => .inl hg) ?_
  intro i hi
  match i, hi with
  | 0, _ | 1, _ | 2, _ | 3, _ | 4, _ | 5, _ | 6, _ | 7, _ | 8, _ | 9, _ | 10, _ | 11, _ | 12, _ | 14, _ => rfl
  | 13, hi => exact absurd rfl hi
  | k + 15, _ => rfl
theorem put11 (h : Bag w tag (T f s)) (i : Nat) (y : Bool) : ∃ tag', Bag (w.setCell ⟨f.go, i, none⟩ (.bool y)) tag' (T f { s with lo := s.lo.set i y }) ∧ TB tag w tag' (w.setCell ⟨f.go, i, none⟩ (.bool y)) := by
  have hb : OwnB w f.B (.slice (some ⟨f.go, 0, none⟩) f.n f.n) s.lo := h.say 11
  refine putT h 11 (by decide) (tset rfl _) (hb.set i y) (fun g hg => .inl hg) ?_
  intro i hi
  match i, hi with
  | 0, _ | 1, _ | 2, _ | 3, _ | 4, _ | 5, _ | 6, _ | 7, _ | 8, _ | 9, _ | 10, _ | 12, _ | 13, _ | 14, _ => rfl
  | 11, hi => exact absurd rfl hi
  | k + 15, _ => rfl
theorem put14 (h : Bag w tag (T f s)) (i : Nat) (y : Bool) : ∃ tag', Bag (w.setCell ⟨f.gy, i, none⟩ (.bool y)) tag' (T f { s with ly := s.ly.set i y }) ∧ TB tag w tag' (w.setCell ⟨f.gy, i, none⟩ (.bool y)) := by
  have hb : OwnB w f.B (.slice (some ⟨f.gy, 0, none⟩) f.n f.n) s.ly := h.say 14
  refine putT h 14 (by decide) (tset rfl _) (hb.set i y) (fun g hg => .inl hg) ?_
  intro i hi
  match i, hi with
  | 0, _ | 1, _ | 2, _ | 3, _ | 4, _ | 5, _ | 6, _ | 7, _ | 8, _ | 9, _ | 10, _ | 11, _ | 12, _ | 13, _ => rfl
  | 14, hi => exact absurd rfl hi
  | k + 15, _ => rfl
theorem put4 (h : Bag w tag (T f s)) (x : Value) : ∃ tag', Bag (w.setCell ⟨f.b4, 0, none⟩ x) tag' (T f { s with x4 := x }) ∧ TB tag w tag' (w.setCell ⟨f.b4, 0, none⟩ x) := by
  have hb : Blk w f.b4 23 [s.x4] := h.say 4
  refine putT h 4 (by decide) (tset rfl _) (hb.set 0 x) (fun g hg => .inl hg) ?_
  intro i hi
  match i, hi with
  | 0, _ | 1, _ | 2, _ | 3, _ | 5, _ | 6, _ | 7, _ | 8, _ | 9, _ | 10, _ | 11, _ | 12, _ | 13, _ | 14, _ => rfl
  | 4, hi => exact absurd rfl hi
  | k + 15, _ => rfl
theorem put6 (h : Bag w tag (T f s)) (x : Value) : ∃ tag', Bag (w.setCell ⟨f.b6, 0, none⟩ x) tag' (T f { s with x6 := x }) ∧ TB tag w tag' (w.setCell ⟨f.b6, 0, none⟩ x) := by
  have hb : Blk w f.b6 109 [s.x6] := h.say 6
  refine putT h 6 (by decide) (tset rfl _) (hb.set 0 x) (fun g hg => .inl hg) ?_
  intro i hi
  match i, hi with
  | 0, _ | 1, _ | 2, _ | 3, _ | 4, _ | 5, _ | 7, _ | 8, _ | 9, _ | 10, _ | 11, _ | 12, _ | 13, _ | 14, _ => rfl
  | 6, hi => exact absurd rfl hi
  | k + 15, _ => rfl
/-- The stack's row has grown or been cut. -/
theorem put10 (h : Bag w tag (T f s)) {v : Value} {l : List Int} (t : Tch (fun x => s.v4.ownBlock = some x) w w') (ho : Own .i32 21 w' f.B v l) (hf : Fr w s.v4 v) : ∃ tag', Bag w' tag' (T f { s with v4 := v, stk := l }) ∧ TB tag w tag' w' := by
  refine putT h 10 (by decide) t ho hf ?_
  intro i hi
  match i, hi with
  | 0, _ | 1, _ | 2, _ | 3, _ | 4, _ | 5, _ | 6, _ | 7, _ | 8, _ | 9, _ | 11, _ | 12, _ | 13, _ | 14, _ => rfl
  | 10, hi => exact absurd rfl hi
  | k + 15, _ => rfl
/-- The calls' row has grown, been cut or written. -/
theorem put12 (h : Bag w tag (T f s)) {v : Value} {l : List (Int × Int)} (t : Tch (fun x => s.v6.ownBlock = some x) w w') (ho : Own2 111 w' f.B v l) (hf : Fr w s.v6 v) : ∃ tag', Bag w' tag' (T f { s with v6 := v, cal := l }) ∧ TB tag w tag' w' := by
  refine putT h 12 (by decide) t ho hf ?_
  intro i hi
  match i, hi with
  | 0, _ | 1, _ | 2, _ | 3, _ | 4, _ | 5, _ | 6, _ | 7, _ | 8, _ | 9, _ | 10, _ | 11, _ | 13, _ | 14, _ => rfl
  | 12, hi => exact absurd rfl hi
  | k + 15, _ => rfl
end
/-- A slice of integers that nobody writes. -/
structure RO (w : World) (tag : Nat → Nat) (g n : Nat) (l : List Int) : Prop where
  own : Own .i32 21 w 0 (.slice (some ⟨g, 0, none⟩) n n) l
  tg : tag g = 0
theorem RO.tb {w w' : World} {tag tag' : Nat → Nat} {g n : Nat} {l : List Int} (h : RO w tag g n l) (t : TB tag w tag' w') : RO w' tag' g n l :=
  ⟨h.own.touch t.tch (fun g' hg' hx => by have e : g = g' := Option.some.inj hg'; rw [← e] at hx; exact hx h.tg), by rw [t.old g ((h.own.lt (g := g) rfl).2)]; exact h.tg⟩
end Go.Proofs.Ybulkaxc.Cm
