/-
  MANY THINGS IN MEMORY, EACH IN A BLOCK OF ITS OWN: a ghost says who owns a block. Of no program.
-/
import Derived.Test.YbulkaxcM2
namespace Go.Proofs.Ybulkaxc.M2
open Go Go.RowKit
set_option linter.unusedVariables false

/-- A thing in memory: what is said of it, and its block. -/
structure Thing where
  say : World → Prop
  blk : Option Nat
/-- What is said of it stays, if its block is not touched; its block is there. -/
structure Thing.Fine (t : Thing) : Prop where
  stay : ∀ (S : Nat → Prop) (w w' : World), Tch S w w' → (∀ g, t.blk = some g → ¬ S g) → t.say w → t.say w'
  lt : ∀ (w : World) g, t.blk = some g → t.say w → g < w.heap.size
structure Bag (w : World) (tag : Nat → Nat) (T : Nat → Thing) : Prop where
  fine : ∀ i, (T i).Fine
  say : ∀ i, (T i).say w
  tv : ∀ i g, (T i).blk = some g → tag g = i
/-- Only blocks of the bag's, and new ones, have turned; who owns an old block has not turned. -/
structure TB (tag : Nat → Nat) (w : World) (tag' : Nat → Nat) (w' : World) : Prop where
  tch : Tch (fun x => tag x ≠ 0) w w'
  old : ∀ x, x < w.heap.size → tag' x = tag x
section
variable {w w' : World} {tag : Nat → Nat} {T : Nat → Thing}
theorem TB.refl (tag : Nat → Nat) (w : World) : TB tag w tag w := ⟨Tch.refl _ _, fun _ _ => rfl⟩
theorem TB.trans {tag tag' tag'' : Nat → Nat} {w w' w'' : World} (h : TB tag w tag' w') (k : TB tag' w' tag'' w'') : TB tag w tag'' w'' :=
  ⟨h.tch.trans k.tch (fun x hx => by
    by_cases hl : x < w.heap.size
    · rw [h.old x hl] at hx; exact .inl hx
    · exact .inr (by omega)), fun x hx => by rw [k.old x (Nat.lt_of_lt_of_le hx h.tch.size), h.old x hx]⟩
theorem TB.keep (t : Tch Non w w') : TB tag w tag w' := ⟨t.non, fun _ _ => rfl⟩
theorem Bag.keep (h : Bag w tag T) (t : Tch Non w w') : Bag w' tag T :=
  ⟨h.fine, fun i => (h.fine i).stay Non w w' t (fun _ _ h => h) (h.say i), h.tv⟩
/-- ONE STEP: number k (not 0) has been written, has grown or has moved to a new block. -/
theorem Bag.put (h : Bag w tag T) (k : Nat) (hk : k ≠ 0) (t : Tch (fun x => (T k).blk = some x) w w') (X : Thing) (hX : X.Fine) (hs : X.say w') (hf : ∀ g, X.blk = some g → (T k).blk = some g ∨ w.heap.size ≤ g) :
    ∃ tag', Bag w' tag' (fun i => if i = k then X else T i) ∧ TB tag w tag' w' := by
  refine ⟨fun x => if x < w.heap.size then tag x else k, ⟨fun i => ?_, fun i => ?_, fun i g hg => ?_⟩, ⟨t.mono (fun x hx => .inl (by rw [h.tv k x hx]; exact hk)), fun x hx => if_pos hx⟩⟩
  · by_cases e : i = k
    · simp only [if_pos e]; exact hX
    · simp only [if_neg e]; exact h.fine i
  · by_cases e : i = k
    · simp only [if_pos e]; exact hs
    · simp only [if_neg e]
      exact (h.fine i).stay _ w w' t (fun g hg hm => e ((h.tv i g hg).symm.trans (h.tv k g hm))) (h.say i)
  · by_cases e : i = k
    · simp only [if_pos e] at hg
      rcases hf g hg with h1 | h1
      · have h2 := (h.fine k).lt w g h1 (h.say k)
        simp only [if_pos h2]; rw [e]; exact h.tv k g h1
      · have h2 : ¬ g < w.heap.size := by omega
        simp only [if_neg h2]; exact e.symm
    · simp only [if_neg e] at hg
      have h2 := (h.fine i).lt w g hg (h.say i)
      simp only [if_pos h2]; exact h.tv i g hg
/-- What lies in a block of nobody's is read as before. -/
theorem TB.cell {tag' : Nat → Nat} (h : TB tag w tag' w') {p : Addr} {v : Value} (hc : w.cell? p = some v) (ht : tag p.block = 0) : w'.cell? p = some v ∧ tag' p.block = 0 :=
  ⟨h.tch.cell hc (fun h => h ht), by rw [h.old _ (World.block_lt_of_cell? _ _ hc)]; exact ht⟩
/-- Two things lie in two blocks. -/
theorem Bag.apart (h : Bag w tag T) {i j g : Nat} (hij : i ≠ j) (hi : (T i).blk = some g) : (T j).blk ≠ some g := fun hj => hij ((h.tv i g hi).symm.trans (h.tv j g hj))
end
/-- A slice of integers, as a thing. -/
def slT (k : IntKind) (e : TypeId) (B : Nat) (v : Value) (l : List Int) : Thing := ⟨fun w => Own k e w B v l, v.ownBlock⟩
theorem slT_fine (k : IntKind) (e : TypeId) (B : Nat) (v : Value) (l : List Int) : (slT k e B v l).Fine :=
  ⟨fun S w w' t hn h => h.touch t hn, fun w g hg h => (h.lt hg).2⟩
/-- A block known whole, as a thing. -/
def bkT (g : Nat) (e : TypeId) (cs : List Value) : Thing := ⟨fun w => Blk w g e cs, some g⟩
theorem bkT_fine (g : Nat) (e : TypeId) (cs : List Value) : (bkT g e cs).Fine :=
  ⟨fun S w w' t hn h => h.touch t (hn g rfl), fun w g' hg h => by have e : g = g' := Option.some.inj hg; rw [← e]; exact h.lt⟩
/-- Nothing. -/
def noT : Thing := ⟨fun _ => True, none⟩
theorem noT_fine : noT.Fine := ⟨fun _ _ _ _ _ h => h, fun w g hg => by cases hg⟩
end Go.Proofs.Ybulkaxc.M2
