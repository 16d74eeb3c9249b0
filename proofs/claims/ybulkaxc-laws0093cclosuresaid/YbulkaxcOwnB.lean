/-
  Slices of bools that the call owns; as things of a bag.
-/
import Derived.Test.YbulkaxcBag
import Derived.Test.YbulkaxcRows
import Derived.Deep.QuietTactic
import Derived.BigQuiet
namespace Go.Proofs.Ybulkaxc.M2
open Go Go.RowKit
set_option linter.unusedVariables false

theorem info4 : (Yba.prog.info? 4).map (fun i => (i.zero, i.size, i.bytes)) = some (some (.bool false), 1, 1) := by kernel_rfl

/-- A slice of bools that the call owns. -/
def OwnB (w : World) (B : Nat) (v : Value) (r : List Bool) : Prop := w.ownsRow B 4 1 v r.length (r.map Value.bool)
section
variable {w w' : World} {B g n cap : Nat} {r : List Bool}
theorem OwnB.len (h : OwnB w B (.slice (some ⟨g, 0, none⟩) n cap) r) : r.length = n := by
  rcases h.2 with ⟨e, _⟩ | ⟨g', cap', cur, e, _⟩
  · cases e
  · cases e; rfl
theorem OwnB.cell (h : OwnB w B (.slice (some ⟨g, 0, none⟩) n cap) r) {i : Nat} {x : Bool} (hx : r[i]? = some x) : w.cell? ⟨g, i, none⟩ = some (.bool x) := by
  have hn := h.len
  subst hn
  have hi := (List.getElem?_eq_some_iff.1 hx).1
  have := World.ownsRow.cellAt h i (by omega)
  rw [this, List.getElem?_map, hx]; rfl
theorem OwnB.frozen (h : OwnB w B (.slice (some ⟨g, 0, none⟩) n cap) r) (i : Nat) : w.frozen? ⟨g, i, none⟩ = false := by
  rcases h.2 with ⟨hv, _⟩ | ⟨g', cap', cur, hv, _, hg, _⟩
  · cases hv
  · cases hv; exact frozen_of_row w g i cur 4 hg
theorem OwnB.set (h : OwnB w B (.slice (some ⟨g, 0, none⟩) n cap) r) (i : Nat) (y : Bool) : OwnB (w.setCell ⟨g, i, none⟩ (.bool y)) B (.slice (some ⟨g, 0, none⟩) n cap) (r.set i y) := by
  have hn := h.len
  subst hn
  have := (World.ownsRow.stored h i (.bool y)).1
  unfold OwnB
  rw [List.length_set, List.map_set]
  exact this
theorem OwnB.made {v : Value} (h : w.ownsRow B 4 1 v n (madeCells (Value.bool false).cells (n * 1)).toList) : OwnB w B v (List.replicate n false) := by
  have e : (madeCells (Value.bool false).cells (n * 1)).toList = (List.replicate n false).map Value.bool := by
    rw [Nat.mul_one]
    have : (Value.bool false).cells = #[.bool false] := rfl
    rw [this, toList_madeCells_one]; simp
  rw [e] at h
  unfold OwnB
  rw [List.length_replicate]
  exact h
end


def blT (B : Nat) (v : Value) (r : List Bool) : Thing := ⟨fun w => OwnB w B v r, v.ownBlock⟩
theorem blT_fine (B : Nat) (v : Value) (r : List Bool) : (blT B v r).Fine :=
  ⟨fun S w w' t hn h => ownsRow_touch h t hn, fun w g hg h => (World.ownsRow.lt h g hg).2⟩

set_option maxHeartbeats 400000 in
/-- No kind is in the empty set of kinds. -/
theorem has_none (w : World) (k : Int) (hk : 0 ≤ k ∧ k ≤ 7) : Calls Yba.prog 20 #[.int .u8 0, .int .u8 k] w fun e w' => e = .returned (.bool false) ∧ w' = w := by
  go_enter Yba.func20, Yba.ntmps20
  go_wp2_with fail
  go_ret
  exact ⟨by simp [bits]; decide, rfl⟩
end Go.Proofs.Ybulkaxc.M2
