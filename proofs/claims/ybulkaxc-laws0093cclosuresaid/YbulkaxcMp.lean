/-
  A map[int32]bool that the call makes.
-/
import Derived.Test.YbulkaxcOwnB
import Derived.Maps.Own
import Derived.Maps.OwnOps
import Derived.Maps.Views
namespace Go.Proofs.Ybulkaxc.Mp
open Go Go.RowKit Go.Maps Go.Proofs.Ybulkaxc.M2
set_option linter.unusedVariables false

theorem law21 : Keyed Yba.prog 21 := int_keyed Yba.underlying21
theorem zero4 (w : World) : (zeroValue 4).run Yba.prog w = .ok (.bool false) w := by kernel_rfl
theorem key21 (c : Nat) (hc : c ≤ 1000000) : keyOf Yba.prog 21 (.int .i32 (c : Int)) = some (.int .i32 (c : Int)) := keyOf_int_mk Yba.underlying21 (WalkArith.wf_i32 (by omega))
theorem bool_inv' {P : Program} {e : TypeId} (he : P.underlying e = some .bool) {v : Value} {x : Bool} {ps : List MemPlace} (h : plainElem (H := Unit) P e v = some (.lit (.bool x), ps)) : v = .bool x := by
  unfold plainElem at h
  rw [he] at h
  cases v <;> simp at h
  rw [h.1]
theorem bool_inv {v : Value} {x : Bool} {ps : List MemPlace} (h : plainElem (H := Unit) Yba.prog 4 v = some (.lit (.bool x), ps)) : v = .bool x := bool_inv' Yba.underlying4 h

/-- Block b is a map of at most n entries, true where S is. -/
def Mp (w : World) (b n : Nat) (S : Nat → Bool) : Prop :=
  ∃ D : DataW Unit, w.ownsMap Yba.prog 21 (plainElem Yba.prog 4) b n D ∧ IsMap D ∧ ∀ c : Nat, c ≤ 1000000 → D.atKey (.int .i32 (c : Int)) (.lit (.bool false)) = .lit (.bool (S c))
theorem Mp.made (w : World) : Mp (w.alloc (.map #[] 0)) w.heap.size 0 (fun _ => false) :=
  ⟨.map [], World.ownsMap_made _ _ _ _, isMap_empty, fun c _ => rfl⟩
theorem Mp.touch {w w' : World} {b n : Nat} {S : Nat → Bool} {Q : Nat → Prop} (h : Mp w b n S) (t : Tch Q w w') (hn : ¬ Q b) : Mp w' b n S := by
  obtain ⟨D, ⟨es, clock, hb, rest⟩, h2, h3⟩ := h
  exact ⟨D, ⟨es, clock, (t.block b (Array.getElem?_eq_some_iff.1 hb).1 hn).trans hb, rest⟩, h2, h3⟩
theorem Mp.look {w : World} {b n : Nat} {S : Nat → Bool} (h : Mp w b n S) (c : Nat) (hc : c ≤ 1000000) : (Instr.lookup 102 (.map (some b)) (.int .i32 (c : Int)) false).run Yba.prog w = .ok (.bool (S c)) w := by
  obtain ⟨D, h1, h2, h3⟩ := h
  obtain ⟨v, ps, hrun, hv⟩ := h1.lookup law21 Yba.underlying102 (zero4 w) (plainElem_bool Yba.underlying4 false) (key21 c hc)
  rw [h3 c hc] at hv
  rw [bool_inv hv] at hrun
  exact hrun
theorem Mp.upd {w' : World} {b n : Nat} {S : Nat → Bool} {D : DataW Unit} {c : Nat} (hm : IsMap D) (hat : ∀ c : Nat, c ≤ 1000000 → D.atKey (.int .i32 (c : Int)) (.lit (.bool false)) = .lit (.bool (S c))) (h : w'.ownsMap Yba.prog 21 (plainElem Yba.prog 4) b (n + 1) (D.put (.int .i32 (c : Int)) (.lit (.bool true)))) :
    Mp w' b (n + 1) (fun x => S x || x == c) := by
  refine ⟨_, h, ?_, fun x hx => ?_⟩
  · obtain ⟨es, rfl⟩ := hm
    exact ⟨_, rfl⟩
  · by_cases e : x = c
    · subst e
      rw [atKey_put_same hm (show WideAt.IsKeyLit (.int .i32 (x : Int)) from trivial)]; simp
    · rw [atKey_put_other (by intro h; injection h with _ h; exact e (by omega)), hat x hx]
      simp [e]
end Go.Proofs.Ybulkaxc.Mp
