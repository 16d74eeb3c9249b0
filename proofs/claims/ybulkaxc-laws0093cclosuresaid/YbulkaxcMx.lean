/-
  A matrix of bools that the call makes: a row of rows.
-/
import Derived.Test.YbulkaxcOwnB
import Derived.Test.YbulkaxcFloyd
namespace Go.Proofs.Ybulkaxc.Mx
open Go Go.RowKit Go.Proofs.Ybulkaxc.M2 Go.Proofs.Ybulkaxc.Tj
set_option linter.unusedVariables false

theorem range_set {α : Type} (N j : Nat) (f : Nat → α) (v : α) : ((List.range N).map f).set j v = (List.range N).map (fun i => if i = j then v else f i) := by
  apply List.ext_getElem?
  intro i
  rw [List.getElem?_set]
  by_cases hi : i < N
  · by_cases e : j = i
    · subst e; simp [hi]
    · rw [if_neg e]; simp [hi, Ne.symm e]
  · rw [List.getElem?_eq_none (by simp; omega), List.getElem?_eq_none (by simp; omega)]
    by_cases e : j = i
    · rw [if_pos e, if_neg (by simp; omega)]
    · rw [if_neg e]
theorem range_at {α : Type} {N i : Nat} (f : Nat → α) (hi : i < N) : ((List.range N).map f)[i]? = some (f i) := by simp [hi]
theorem range_congr {α : Type} {N : Nat} {f g : Nat → α} (h : ∀ i, i < N → f i = g i) : (List.range N).map f = (List.range N).map g := by
  apply List.map_congr_left
  intro i hi
  exact h i (List.mem_range.1 hi)

/-- c rows have been laid. -/
structure Mb (w0 w : World) (gR N c : Nat) (rb : Nat → Nat) (M : Nat → Nat → Bool) : Prop where
  top : Blk w gR 44 ((List.range N).map (fun i => if i < c then .slice (some ⟨rb i, 0, none⟩) N N else .slice none 0 0))
  row : ∀ i, i < c → Blk w (rb i) 4 ((List.range N).map (fun j => .bool (M i j)))
  inj : ∀ i j, i < c → j < c → rb i = rb j → i = j
  ne : ∀ i, i < c → rb i ≠ gR
  new : w0.heap.size ≤ gR ∧ ∀ i, i < c → w0.heap.size ≤ rb i
  tch : Tch Non w0 w
section
variable {w0 w : World} {gR N c : Nat} {rb : Nat → Nat} {M : Nat → Nat → Bool}
theorem Mb.slot (h : Mb w0 w gR N c rb M) {i : Nat} (hi : i < c) (hN : i < N) : w.cell? ⟨gR, i, none⟩ = some (.slice (some ⟨rb i, 0, none⟩) N N) := by
  rw [h.top.cell i, range_at _ hN, if_pos hi]
theorem Mb.cell (h : Mb w0 w gR N c rb M) {i j : Nat} (hi : i < c) (hj : j < N) : w.cell? ⟨rb i, j, none⟩ = some (.bool (M i j)) := by
  rw [(h.row i hi).cell j, range_at _ hj]
theorem Mb.set (h : Mb w0 w gR N c rb M) {i j : Nat} (hi : i < c) (v : Bool) : Mb w0 (w.setCell ⟨rb i, j, none⟩ (.bool v)) gR N c rb (fun a b => if a = i ∧ b = j then v else M a b) := by
  refine ⟨h.top.other (Ne.symm (h.ne i hi)) _, fun a ha => ?_, h.inj, h.ne, h.new, h.tch.setCell (.inr (h.new.2 i hi)) _⟩
  by_cases e : a = i
  · subst e
    have := (h.row a ha).set j (.bool v)
    rw [range_set] at this
    have e2 : (List.range N).map (fun x => if x = j then Value.bool v else Value.bool (M a x)) = (List.range N).map (fun x => Value.bool (if a = a ∧ x = j then v else M a x)) := by
      apply range_congr
      intro x _
      by_cases e : x = j <;> simp [e]
    rw [e2] at this
    exact this
  · have := (h.row a ha).other (p := ⟨rb i, j, none⟩) (fun e2 => e (h.inj a i ha hi e2)) (.bool v)
    have e2 : (List.range N).map (fun x => Value.bool (M a x)) = (List.range N).map (fun x => Value.bool (if a = i ∧ x = j then v else M a x)) := by
      apply range_congr
      intro x _
      simp [e]
    rw [e2] at this
    exact this
theorem Mb.frozen (h : Mb w0 w gR N c rb M) {i : Nat} (hi : i < c) (j : Nat) : w.frozen? ⟨rb i, j, none⟩ = false := (h.row i hi).frozen j
theorem Mb.keep {w' : World} (h : Mb w0 w gR N c rb M) (t : Tch Non w w') : Mb w0 w' gR N c rb M :=
  ⟨h.top.keep t, fun i hi => (h.row i hi).keep t, h.inj, h.ne, h.new, h.tch.also t⟩
/-- One more row. -/
theorem Mb.add {w' : World} (h : Mb w0 w gR N c rb (fun _ _ => false)) (hc : c < N) (hgR : gR < w.heap.size) (hrb : ∀ i, i < c → rb i < w.heap.size) (ho : OwnB w' w.heap.size (.slice (some ⟨w.heap.size, 0, none⟩) N N) (List.replicate N false)) (t : Tch Non w w') :
    Mb w0 (w'.setCell ⟨gR, c, none⟩ (.slice (some ⟨w.heap.size, 0, none⟩) N N)) gR N (c + 1) (fun i => if i = c then w.heap.size else rb i) (fun _ _ => false) := by
  have hnew : Blk w' w.heap.size 4 ((List.range N).map (fun j => .bool false)) := by
    rcases ho.2 with ⟨e, _⟩ | ⟨g, cap, cur, e, _, hg, h1, h2, h3, h4⟩
    · cases e
    · injection e with e1 _ e3
      injection e1 with e1
      injection e1 with e1
      subst e1
      subst e3
      unfold Blk
      rw [hg]
      have : cur.toList = (List.range N).map (fun _ => Value.bool false) := by
        rw [List.take_of_length_le (by simp [h3])] at h4
        rw [h4]
        apply List.ext_getElem?
        intro i
        by_cases hi : i < N
        · simp [hi]
        · rw [List.getElem?_eq_none (by simp; omega), List.getElem?_eq_none (by simp; omega)]
      rw [← this]
  have hs := t.size
  refine ⟨?_, fun i hi => ?_, fun i j hi hj e => ?_, fun i hi => ?_, ⟨h.new.1, fun i hi => ?_⟩, (h.tch.also t).setCell (.inr h.new.1) _⟩
  · have := (h.top.keep t).set c (.slice (some ⟨w.heap.size, 0, none⟩) N N)
    rw [range_set] at this
    have e2 : (List.range N).map (fun i => if i = c then Value.slice (some ⟨w.heap.size, 0, none⟩) N N else if i < c then .slice (some ⟨rb i, 0, none⟩) N N else .slice none 0 0) = (List.range N).map (fun i => if i < c + 1 then .slice (some ⟨if i = c then w.heap.size else rb i, 0, none⟩) N N else .slice none 0 0) := by
      apply range_congr
      intro i _
      by_cases e : i = c
      · subst e; simp
      · by_cases e3 : i < c
        · rw [if_neg e, if_pos e3, if_pos (by omega), if_neg e]
        · rw [if_neg e, if_neg e3, if_neg (by omega)]
    rw [e2] at this
    exact this
  · by_cases e : i = c
    · subst e
      simp only
      exact hnew.other (by show w.heap.size ≠ gR; omega) _
    · simp only [if_neg e]
      exact ((h.row i (by omega)).keep t).other (h.ne i (by omega)) _
  · by_cases e1 : i = c
    · by_cases e2 : j = c
      · omega
      · simp only [if_pos e1, if_neg e2] at e
        have := hrb j (by omega)
        omega
    · by_cases e2 : j = c
      · simp only [if_neg e1, if_pos e2] at e
        have := hrb i (by omega)
        omega
      · simp only [if_neg e1, if_neg e2] at e
        exact h.inj i j (by omega) (by omega) e
  · by_cases e1 : i = c
    · simp only [if_pos e1]; omega
    · simp only [if_neg e1]; exact h.ne i (by omega)
  · by_cases e1 : i = c
    · simp only [if_pos e1]; exact h.tch.size
    · simp only [if_neg e1]; exact h.new.2 i (by omega)
end
/-- The whole matrix, as a relation. -/
def Mq (w0 w : World) (gR N : Nat) (rb : Nat → Nat) (P : Nat → Nat → Prop) : Prop := ∃ M, Mb w0 w gR N N rb M ∧ ∀ a b, a < N → b < N → (M a b = true ↔ P a b)
section
variable {w0 w : World} {gR N : Nat} {rb : Nat → Nat} {P P' : Nat → Nat → Prop}
theorem Mq.slot (h : Mq w0 w gR N rb P) {i : Nat} (hi : i < N) : w.cell? ⟨gR, i, none⟩ = some (.slice (some ⟨rb i, 0, none⟩) N N) := by
  obtain ⟨M, h1, _⟩ := h
  exact h1.slot hi hi
theorem Mq.cell (h : Mq w0 w gR N rb P) {i j : Nat} (hi : i < N) (hj : j < N) : ∃ b : Bool, w.cell? ⟨rb i, j, none⟩ = some (.bool b) ∧ (b = true ↔ P i j) := by
  obtain ⟨M, h1, h2⟩ := h
  exact ⟨M i j, h1.cell hi hj, h2 i j hi hj⟩
theorem Mq.frozen (h : Mq w0 w gR N rb P) {i : Nat} (hi : i < N) (j : Nat) : w.frozen? ⟨rb i, j, none⟩ = false := by
  obtain ⟨M, h1, _⟩ := h
  exact h1.frozen hi j
theorem Mq.set (h : Mq w0 w gR N rb P) {i j : Nat} (hi : i < N) (hP : ∀ a b, a < N → b < N → (P' a b ↔ P a b ∨ (a = i ∧ b = j))) : Mq w0 (w.setCell ⟨rb i, j, none⟩ (.bool true)) gR N rb P' := by
  obtain ⟨M, h1, h2⟩ := h
  refine ⟨_, h1.set hi true, fun a b ha hb => ?_⟩
  rw [hP a b ha hb]
  by_cases e : a = i ∧ b = j
  · simp [e]
  · simp only [if_neg e, h2 a b ha hb]
    exact ⟨.inl, fun h => h.resolve_right e⟩
theorem Mq.congr (h : Mq w0 w gR N rb P) (hP : ∀ a b, a < N → b < N → (P' a b ↔ P a b)) : Mq w0 w gR N rb P' := by
  obtain ⟨M, h1, h2⟩ := h
  exact ⟨M, h1, fun a b ha hb => (h2 a b ha hb).trans (hP a b ha hb).symm⟩
theorem Mq.keep {w' : World} (h : Mq w0 w gR N rb P) (t : Tch Non w w') : Mq w0 w' gR N rb P := by
  obtain ⟨M, h1, h2⟩ := h
  exact ⟨M, h1.keep t, h2⟩
theorem Mq.tch (h : Mq w0 w gR N rb P) : Tch Non w0 w := by
  obtain ⟨M, h1, _⟩ := h
  exact h1.tch
end
/-- Warshall's round k, up to row i, column j. -/
def WI (E : Nat → Nat → Prop) (k i j : Nat) (a b : Nat) : Prop := if a < i ∨ (a = i ∧ b < j) then Pk E (k + 1) a b else Pk E k a b
theorem WI.start (E : Nat → Nat → Prop) (k a b : Nat) : WI E k 0 0 a b ↔ Pk E k a b := by
  unfold WI
  rw [if_neg (by omega)]
theorem WI.fin {E : Nat → Nat → Prop} {k N a b : Nat} (ha : a < N) : WI E k N 0 a b ↔ WI E (k + 1) 0 0 a b := by
  rw [WI.start]
  unfold WI
  rw [if_pos (by omega)]
theorem WI.rowk (E : Nat → Nat → Prop) (k i j b : Nat) : WI E k i j k b ↔ Pk E k k b := by
  unfold WI
  split
  · exact Pk.own
  · exact Iff.rfl
theorem WI.colk (E : Nat → Nat → Prop) (k i j a : Nat) : WI E k i j a k ↔ Pk E k a k := by
  unfold WI
  split
  · exact Pk.own'
  · exact Iff.rfl
/-- The row's end. -/
theorem WI.row {E : Nat → Nat → Prop} {k i N a b : Nat} (hb : b < N) : WI E k (i + 1) 0 a b ↔ WI E k i N a b := by
  unfold WI
  by_cases h : a < i ∨ (a = i ∧ b < N)
  · rw [if_pos h, if_pos (by omega)]
  · rw [if_neg h, if_neg (by omega)]
/-- A row that does not lead to k stays. -/
theorem WI.skip {E : Nat → Nat → Prop} {k i N a b : Nat} (hb : b < N) (hn : ¬ Pk E k i k) : WI E k (i + 1) 0 a b ↔ WI E k i 0 a b := by
  unfold WI
  by_cases e : a = i
  · subst e
    rw [if_pos (by omega), if_neg (by omega)]
    exact ⟨fun h => h.elim id (fun h => absurd h.1 hn), Pk.up⟩
  · by_cases h : a < i
    · rw [if_pos (by omega), if_pos (by omega)]
    · rw [if_neg (by omega), if_neg (by omega)]
/-- One column: set. -/
theorem WI.yes {E : Nat → Nat → Prop} {k i j a b : Nat} (h1 : Pk E k i k) (h2 : Pk E k k j) : WI E k i (j + 1) a b ↔ WI E k i j a b ∨ (a = i ∧ b = j) := by
  unfold WI
  by_cases e : a = i ∧ b = j
  · obtain ⟨rfl, rfl⟩ := e
    rw [if_pos (by omega)]
    exact ⟨fun _ => .inr ⟨rfl, rfl⟩, fun _ => .inr ⟨h1, h2⟩⟩
  · by_cases h : a < i ∨ (a = i ∧ b < j)
    · rw [if_pos h, if_pos (by omega)]
      exact ⟨.inl, fun h => h.resolve_right e⟩
    · rw [if_neg h, if_neg (by omega)]
      exact ⟨.inl, fun h => h.resolve_right e⟩
/-- One column: left. -/
theorem WI.no {E : Nat → Nat → Prop} {k i j a b : Nat} (h2 : ¬ Pk E k k j) : WI E k i (j + 1) a b ↔ WI E k i j a b := by
  unfold WI
  by_cases e : a = i ∧ b = j
  · obtain ⟨rfl, rfl⟩ := e
    rw [if_pos (by omega), if_neg (by omega)]
    exact ⟨fun h => h.elim id (fun h => absurd h.2 h2), Pk.up⟩
  · by_cases h : a < i ∨ (a = i ∧ b < j)
    · rw [if_pos h, if_pos (by omega)]
    · rw [if_neg h, if_neg (by omega)]
end Go.Proofs.Ybulkaxc.Mx
