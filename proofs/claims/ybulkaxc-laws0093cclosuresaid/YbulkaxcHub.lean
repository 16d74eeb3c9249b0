/-
  The nodes of the keys, plain: which writers are in the part, and the arcs of the keys' nodes. No Go in sight.
-/
import Derived.Test.YbulkaxcRl
namespace Go.Proofs.Ybulkaxc.Hb
open Go.Proofs.Ybulkaxc.Cm
set_option linter.unusedVariables false

/-- Whether the part marks x. -/
def ptAt (pt : List Bool) (x : Nat) : Bool := pt.getD x false
theorem ptAt_of {pt : List Bool} {x : Nat} {b : Bool} (h : pt[x]? = some b) : ptAt pt x = b := by
  unfold ptAt
  rw [List.getD_eq_getElem?_getD, h]; rfl
/-- Those of a key's writers in the part. -/
def inP (pt : List Bool) (ws : List Nat) : List Nat := ws.filter (ptAt pt)
theorem inP_snoc {pt : List Bool} {ws : List Nat} {j x : Nat} (h : ws[j]? = some x) : inP pt (ws.take (j + 1)) = inP pt (ws.take j) ++ (if ptAt pt x = true then [x] else []) := by
  unfold inP
  rw [List.take_add_one, h, List.filter_append]
  congr 1
  simp [List.filter_cons]
theorem inP_len (pt : List Bool) (ws : List Nat) (j : Nat) : (inP pt (ws.take j)).length ≤ ws.length := by
  unfold inP
  refine Nat.le_trans (List.length_filter_le _ _) ?_
  rw [List.length_take]; omega
theorem inP_mem {pt : List Bool} {ws : List Nat} {x : Nat} (h : x ∈ inP pt ws) : x ∈ ws ∧ ptAt pt x = true := by
  unfold inP at h
  simpa using h
/-- The keys' nodes: of each key that two writers of the part have, those. -/
def hubs (pt : List Bool) : List (List Nat) → List (List Nat)
  | [] => []
  | ws :: ks => (if 2 ≤ (inP pt ws).length then [inP pt ws] else []) ++ hubs pt ks
theorem hubs_append (pt : List Bool) (a b : List (List Nat)) : hubs pt (a ++ b) = hubs pt a ++ hubs pt b := by
  induction a with
  | nil => rfl
  | cons x a ih => show _ ++ hubs pt (a ++ b) = (_ ++ hubs pt a) ++ hubs pt b; rw [ih, List.append_assoc]
theorem hubs_snoc {pt : List Bool} {ks : List (List Nat)} {k : Nat} {ws : List Nat} (h : ks[k]? = some ws) : hubs pt (ks.take (k + 1)) = hubs pt (ks.take k) ++ (if 2 ≤ (inP pt ws).length then [inP pt ws] else []) := by
  rw [List.take_add_one, h, hubs_append]
  show _ ++ (_ ++ []) = _
  rw [List.append_nil]
theorem hubs_len (pt : List Bool) (ks : List (List Nat)) : (hubs pt ks).length ≤ ks.length := by
  induction ks with
  | nil => exact Nat.le_refl _
  | cons x ks ih =>
    show (_ ++ hubs pt ks).length ≤ _
    rw [List.length_append, List.length_cons]
    split <;> simp <;> omega
/-- The arcs of one node. -/
def one (hub : Nat) (l : List Nat) : List (Nat × Nat) := l.flatMap (fun w => [(w, hub), (hub, w)])
theorem one_snoc {hub : Nat} {l : List Nat} {j x : Nat} (h : l[j]? = some x) : one hub (l.take (j + 1)) = one hub (l.take j) ++ [(x, hub), (hub, x)] := by
  unfold one
  rw [List.take_add_one, h, List.flatMap_append]
  rfl
theorem one_len (hub : Nat) (l : List Nat) : (one hub l).length = 2 * l.length := by
  induction l with
  | nil => rfl
  | cons x l ih => show (_ :: _ :: one hub l).length = _; simp [ih]; omega
theorem one_mem {hub : Nat} {l : List Nat} {a b : Nat} : (a, b) ∈ one hub l ↔ (a ∈ l ∧ b = hub) ∨ (a = hub ∧ b ∈ l) := by
  unfold one
  rw [List.mem_flatMap]
  constructor
  · rintro ⟨x, hx, h⟩
    simp at h
    rcases h with ⟨rfl, rfl⟩ | ⟨rfl, rfl⟩
    · exact .inl ⟨hx, rfl⟩
    · exact .inr ⟨rfl, hx⟩
  · rintro (⟨h, rfl⟩ | ⟨rfl, h⟩)
    · exact ⟨a, h, by simp⟩
    · exact ⟨b, h, by simp⟩
/-- The arcs of the nodes, numbered from first on. -/
def harcs (first : Nat) : List (List Nat) → List (Nat × Nat)
  | [] => []
  | l :: hs => one first l ++ harcs (first + 1) hs
theorem harcs_append (a b : List (List Nat)) : ∀ first, harcs first (a ++ b) = harcs first a ++ harcs (first + a.length) b := by
  induction a with
  | nil => intro first; rfl
  | cons x a ih =>
    intro first
    show one first x ++ harcs (first + 1) (a ++ b) = (one first x ++ harcs (first + 1) a) ++ _
    rw [ih (first + 1), List.append_assoc, List.length_cons, show first + 1 + a.length = first + (a.length + 1) by omega]
theorem harcs_one (first : Nat) (l : List Nat) : harcs first [l] = one first l := by
  show one first l ++ [] = _
  rw [List.append_nil]
theorem harcs_mem {a b : Nat} : ∀ {hs : List (List Nat)} {first : Nat}, (a, b) ∈ harcs first hs ↔ ∃ h l, hs[h]? = some l ∧ ((a ∈ l ∧ b = first + h) ∨ (a = first + h ∧ b ∈ l))
  | [], first => by
    constructor
    · intro h; simp [harcs] at h
    · rintro ⟨h, l, e, _⟩; simp at e
  | x :: hs, first => by
    show (a, b) ∈ one first x ++ harcs (first + 1) hs ↔ _
    rw [List.mem_append, one_mem, harcs_mem (hs := hs) (first := first + 1)]
    constructor
    · rintro (h | ⟨h, l, e, h2⟩)
      · exact ⟨0, x, rfl, by simpa using h⟩
      · refine ⟨h + 1, l, by simpa using e, ?_⟩
        rw [show first + (h + 1) = first + 1 + h by omega]; exact h2
    · rintro ⟨h, l, e, h2⟩
      match h, e with
      | 0, e =>
        have e' : x = l := by simpa using e
        subst e'
        exact .inl (by simpa using h2)
      | h + 1, e =>
        refine .inr ⟨h, l, by simpa using e, ?_⟩
        rw [show first + 1 + h = first + (h + 1) by omega]; exact h2
theorem harcs_len (M : Nat) : ∀ (hs : List (List Nat)) (first : Nat), (∀ l ∈ hs, l.length ≤ M) → (harcs first hs).length ≤ 2 * M * hs.length
  | [], first, _ => by simp [harcs]
  | x :: hs, first, h => by
    show (one first x ++ harcs (first + 1) hs).length ≤ _
    have h1 := h x (by simp)
    have h2 := harcs_len M hs (first + 1) (fun l hl => h l (by simp [hl]))
    rw [List.length_append, one_len, List.length_cons, Nat.mul_add]
    have : 2 * x.length ≤ 2 * M := by omega
    omega
theorem hubs_sub {pt : List Bool} {l : List Nat} : ∀ {ks : List (List Nat)}, l ∈ hubs pt ks → ∃ ws ∈ ks, l = inP pt ws
  | [], h => by simp [hubs] at h
  | x :: ks, h => by
    have h' : l ∈ (if 2 ≤ (inP pt x).length then [inP pt x] else []) ++ hubs pt ks := h
    rcases List.mem_append.1 h' with h1 | h1
    · split at h1
      · exact ⟨x, by simp, by simpa using h1⟩
      · simp at h1
    · obtain ⟨ws, h2, h3⟩ := hubs_sub h1
      exact ⟨ws, by simp [h2], h3⟩
end Go.Proofs.Ybulkaxc.Hb
