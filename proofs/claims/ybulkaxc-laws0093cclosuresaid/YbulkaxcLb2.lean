/-
  Bools that came in.
-/
import Derived.Test.YbulkaxcLb
namespace Go.Proofs.Ybulkaxc.Law
open Go Go.RowKit Go.Proofs.Ybulkaxc.M2
set_option linter.unusedVariables false

/-- A slice of bools that can be read. -/
structure Bsrc (w : World) (v : Value) (l : List Bool) : Prop where
  len' : ∃ a n c, v = .slice a n c ∧ l.length = n
  rd : ∀ i b, l[i]? = some b → ∃ g o n c, v = .slice (some ⟨g, o, none⟩) n c ∧ w.cell? ⟨g, o + i, none⟩ = some (.bool b)
theorem Bsrc.len {w : World} {a : Option Addr} {n c : Nat} {l : List Bool} (h : Bsrc w (.slice a n c) l) : l.length = n := by
  obtain ⟨a', n', c', e, h⟩ := h.len'
  cases e; exact h
theorem Bsrc.at_ {w : World} {a : Option Addr} {n c : Nat} {l : List Bool} (h : Bsrc w (.slice a n c) l) (i : Nat) (hi : i < n) : ∃ b g o, l[i]? = some b ∧ a = some ⟨g, o, none⟩ ∧ w.cell? ⟨g, o + i, none⟩ = some (.bool b) := by
  have hl := h.len
  obtain ⟨g, o, n', c', e, hc⟩ := h.rd i (l[i]'(by omega)) (List.getElem?_eq_getElem _)
  cases e
  exact ⟨_, g, o, List.getElem?_eq_getElem _, rfl, hc⟩
end Go.Proofs.Ybulkaxc.Law
