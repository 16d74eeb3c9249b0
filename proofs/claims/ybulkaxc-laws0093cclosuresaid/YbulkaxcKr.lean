/-
  For the loop over the keys: rows of keyInfos and of slices, in one bag; what is laid for good.
-/
import Derived.Test.YbulkaxcCp
import Derived.Test.YbulkaxcHub
namespace Go.Proofs.Ybulkaxc.Law
open Go Go.RowKit Go.Proofs.Ybulkaxc.M2 Go.Proofs.Ybulkaxc.Cm Go.Proofs.Ybulkaxc.Hb
set_option linter.unusedVariables false
set_option linter.unusedSimpArgs false

theorem info49 : (Yba.prog.info? 49).map (fun i => (i.zero, i.size, i.bytes)) = some (some (.agg #[.string { data := #[] }, .slice none 0 0, .slice none 0 0, .slice none 0 0]), 4, 88) := by kernel_rfl
/-- A row, as a thing. -/
def rwT (e : TypeId) (size B : Nat) (v : Value) (n : Nat) (xs : List Value) : Thing := ⟨fun w => w.ownsRow B e size v n xs, v.ownBlock⟩
theorem rwT_fine (e : TypeId) (size B : Nat) (v : Value) (n : Nat) (xs : List Value) : (rwT e size B v n xs).Fine :=
  ⟨fun S w w' t hn h => ownsRow_touch h t hn, fun w g hg h => (World.ownsRow.lt h g hg).2⟩
/-- The cells of one key. -/
def kcell (v : Value) : List Value := [.string { data := #[] }, v, .slice none 0 0, .slice none 0 0]
def kcells (vs : List Value) : List Value := vs.flatMap kcell
theorem kcells_len (vs : List Value) : (kcells vs).length = vs.length * 4 := by
  induction vs with
  | nil => rfl
  | cons x vs ih =>
    show (kcell x ++ kcells vs).length = _
    rw [List.length_append, ih, List.length_cons]
    show 4 + _ = _
    omega
theorem kcells_snoc (vs : List Value) (v : Value) : kcells (vs ++ [v]) = kcells vs ++ kcell v := by
  unfold kcells
  rw [List.flatMap_append]
  rfl
theorem kcells_at : ∀ (vs : List Value) (k : Nat) (v : Value), vs[k]? = some v → (kcells vs)[k * 4 + 1]? = some v
  | [], k, v, h => by simp at h
  | x :: vs, 0, v, h => by
    have : x = v := by simpa using h
    subst this
    rfl
  | x :: vs, k + 1, v, h => by
    have h' : vs[k]? = some v := by simpa using h
    have e : (k + 1) * 4 + 1 = k * 4 + 1 + 1 + 1 + 1 + 1 := by omega
    show (kcell x ++ kcells vs)[(k + 1) * 4 + 1]? = _
    rw [e]
    show (kcells vs)[k * 4 + 1]? = _
    exact kcells_at vs k v h'
theorem kcell_one {v : Value} (hv : v.oneCell' = true) : ∀ u ∈ kcell v, u.oneCell' = true := by
  intro u hu
  simp [kcell] at hu
  rcases hu with rfl | rfl | rfl <;> first | rfl | exact hv
/-- The bag: the row of the keys' infos, the row of the nodes' writers, the writers at hand, those in the part. -/
def K4 (B : Nat) (v1 : Value) (kv : List Value) (v2 : Value) (hv : List Value) (v3 : Value) (l3 : List Int) (v4 : Value) (l4 : List Int) : Nat → Thing
  | 1 => rwT 49 4 B v1 kv.length (kcells kv)
  | 2 => rwT 23 1 B v2 hv.length hv
  | 3 => slT .i32 21 B v3 l3
  | 4 => slT .i32 21 B v4 l4
  | _ => noT
theorem K4_fine (B : Nat) (v1 : Value) (kv : List Value) (v2 : Value) (hv : List Value) (v3 : Value) (l3 : List Int) (v4 : Value) (l4 : List Int) (i : Nat) : (K4 B v1 kv v2 hv v3 l3 v4 l4 i).Fine := by
  match i with
  | 0 => exact noT_fine
  | 1 => exact rwT_fine _ _ _ _ _ _
  | 2 => exact rwT_fine _ _ _ _ _ _
  | 3 => exact slT_fine _ _ _ _ _
  | 4 => exact slT_fine _ _ _ _ _
  | k + 5 => exact noT_fine
section
variable {w w' : World} {tag : Nat → Nat} {B : Nat} {v1 : Value} {kv : List Value} {v2 : Value} {hv : List Value} {v3 : Value} {l3 : List Int} {v4 : Value} {l4 : List Int}
theorem K4.put1 (h : Bag w tag (K4 B v1 kv v2 hv v3 l3 v4 l4)) {v : Value} {l : List Value} (t : Tch (fun x => v1.ownBlock = some x) w w') (ho : w'.ownsRow B 49 4 v l.length (kcells l)) (hf : Fr w v1 v) : ∃ tag', Bag w' tag' (K4 B v l v2 hv v3 l3 v4 l4) ∧ TB tag w tag' w' := by
  obtain ⟨tag', h1, h2⟩ := h.put 1 (by decide) t _ (K4_fine B v l v2 hv v3 l3 v4 l4 1) ho hf
  exact ⟨tag', Bag.congr h1 (fun i => by match i with | 0 | 1 | 2 | 3 | 4 => rfl | k + 5 => rfl), h2⟩
theorem K4.put2 (h : Bag w tag (K4 B v1 kv v2 hv v3 l3 v4 l4)) {v : Value} {l : List Value} (t : Tch (fun x => v2.ownBlock = some x) w w') (ho : w'.ownsRow B 23 1 v l.length l) (hf : Fr w v2 v) : ∃ tag', Bag w' tag' (K4 B v1 kv v l v3 l3 v4 l4) ∧ TB tag w tag' w' := by
  obtain ⟨tag', h1, h2⟩ := h.put 2 (by decide) t _ (K4_fine B v1 kv v l v3 l3 v4 l4 2) ho hf
  exact ⟨tag', Bag.congr h1 (fun i => by match i with | 0 | 1 | 2 | 3 | 4 => rfl | k + 5 => rfl), h2⟩
theorem K4.put3 (h : Bag w tag (K4 B v1 kv v2 hv v3 l3 v4 l4)) {v : Value} {l : List Int} (t : Tch (fun x => v3.ownBlock = some x) w w') (ho : Own .i32 21 w' B v l) (hf : Fr w v3 v) : ∃ tag', Bag w' tag' (K4 B v1 kv v2 hv v l v4 l4) ∧ TB tag w tag' w' := by
  obtain ⟨tag', h1, h2⟩ := h.put 3 (by decide) t _ (K4_fine B v1 kv v2 hv v l v4 l4 3) ho hf
  exact ⟨tag', Bag.congr h1 (fun i => by match i with | 0 | 1 | 2 | 3 | 4 => rfl | k + 5 => rfl), h2⟩
theorem K4.put4 (h : Bag w tag (K4 B v1 kv v2 hv v3 l3 v4 l4)) {v : Value} {l : List Int} (t : Tch (fun x => v4.ownBlock = some x) w w') (ho : Own .i32 21 w' B v l) (hf : Fr w v4 v) : ∃ tag', Bag w' tag' (K4 B v1 kv v2 hv v3 l3 v l) ∧ TB tag w tag' w' := by
  obtain ⟨tag', h1, h2⟩ := h.put 4 (by decide) t _ (K4_fine B v1 kv v2 hv v3 l3 v l 4) ho hf
  exact ⟨tag', Bag.congr h1 (fun i => by match i with | 0 | 1 | 2 | 3 | 4 => rfl | k + 5 => rfl), h2⟩
/-- Numbers laid for good: nobody's. -/
def Good (w : World) (tag : Nat → Nat) (v : Value) (l : List Nat) : Prop := ∃ a c, v = .slice a l.length c ∧ Src .i32 w v (castN l) ∧ ∀ g, v.ownBlock = some g → tag g = 0 ∧ g < w.heap.size
theorem Good.tb {tag' : Nat → Nat} {v : Value} {l : List Nat} (h : Good w tag v l) (t : TB tag w tag' w') : Good w' tag' v l := by
  obtain ⟨a, c, e, h1, h2⟩ := h
  refine ⟨a, c, e, ?_, fun g hg => ⟨by rw [t.old g (h2 g hg).2]; exact (h2 g hg).1, Nat.lt_of_lt_of_le (h2 g hg).2 t.tch.size⟩⟩
  rcases h1 with h1 | ⟨b, off, cap, hv, h1⟩
  · exact .inl h1
  · refine .inr ⟨b, off, cap, hv, fun i x hx => t.tch.cell (h1 i x hx) (fun h => h (h2 b (by rw [hv]; rfl)).1)⟩
/-- The round's end: the rows at hand are laid for good. -/
theorem K4.lay (h : Bag w tag (K4 B v1 kv v2 hv v3 l3 v4 l4)) {w0 : World} (h0 : TB (fun _ => 0) w0 tag w) (hB : w0.heap.size = B) :
    ∃ tag', Bag w tag' (K4 B v1 kv v2 hv (.slice none 0 0) [] (.slice none 0 0) []) ∧ TB (fun _ => 0) w0 tag' w ∧ (∀ x, tag x = 0 → tag' x = 0) ∧ (∀ g, v3.ownBlock = some g → tag' g = 0) ∧ (∀ g, v4.ownBlock = some g → tag' g = 0) := by
  have b3 : Own .i32 21 w B v3 l3 := h.say 3
  have b4 : Own .i32 21 w B v4 l4 := h.say 4
  refine ⟨fun x => if v3.ownBlock = some x ∨ v4.ownBlock = some x then 0 else tag x, ⟨fun i => K4_fine _ _ _ _ _ _ _ _ _ i, fun i => ?_, fun i g hg => ?_⟩, ⟨h0.tch, fun x hx => ?_⟩, fun x hx => ?_, fun g hg => ?_, fun g hg => ?_⟩
  · match i with
    | 0 => trivial
    | 1 => exact h.say 1
    | 2 => exact h.say 2
    | 3 => exact Own.nil _ _ _ _
    | 4 => exact Own.nil _ _ _ _
    | k + 5 => trivial
  · have hn : ¬ (v3.ownBlock = some g ∨ v4.ownBlock = some g) ∧ tag g = i := by
      match i, hg with
      | 1, hg => exact ⟨fun e => by
          rcases e with e | e
          · exact h.apart (i := 1) (j := 3) (by decide) hg e
          · exact h.apart (i := 1) (j := 4) (by decide) hg e, h.tv 1 g hg⟩
      | 2, hg => exact ⟨fun e => by
          rcases e with e | e
          · exact h.apart (i := 2) (j := 3) (by decide) hg e
          · exact h.apart (i := 2) (j := 4) (by decide) hg e, h.tv 2 g hg⟩
      | 0, hg => cases hg
      | 3, hg => cases hg
      | 4, hg => cases hg
      | k + 5, hg => cases hg
    show (if _ then 0 else tag g) = i
    rw [if_neg hn.1]; exact hn.2
  · show (if _ then 0 else tag x) = 0
    split
    · rfl
    · exact h0.old x hx
  · show (if _ then 0 else tag x) = 0
    split
    · rfl
    · exact hx
  · show (if _ then 0 else tag g) = 0
    rw [if_pos (.inl hg)]
  · show (if _ then 0 else tag g) = 0
    rw [if_pos (.inr hg)]
end
end Go.Proofs.Ybulkaxc.Law
