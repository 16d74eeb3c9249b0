/-
  For the index of the arcs by their heads: the plain law, the copy, the stores.
-/
import Derived.Test.YbulkaxcDoorSearch
import Derived.Test.YbulkaxcDoorLay
namespace Go.Proofs.YbulkaxcDoor.Bi
open Go Go.RowKit Go.Proofs.YbulkaxcDoor.Mem Go.Proofs.YbulkaxcDoor.Pl Go.Proofs.YbulkaxcDoor.RS Go.Proofs.YbulkaxcDoor.Dg Go.Proofs.YbulkaxcDoor.Sr
set_option linter.unusedVariables false

/-! ### Plain -/
theorem below_all {A : List (Nat × Nat)} {P : Nat} (hA : ∀ a b, (a, b) ∈ A → a < P) : below (fsOf A) P = A.length := by
  unfold below fsOf
  rw [List.countP_eq_length.2]
  · simp
  · intro a ha
    obtain ⟨⟨f, t⟩, h1, rfl⟩ := List.mem_map.1 ha
    simpa using hA f t h1
theorem owner (fs : List Nat) (P k : Nat) (h : k < below fs P) : ∃ p, p < P ∧ below fs p ≤ k ∧ k < below fs (p + 1) := by
  induction P with
  | zero => rw [below_zero] at h; omega
  | succ P ih =>
    by_cases hk : k < below fs P
    · obtain ⟨p, h1, h2⟩ := ih hk
      exact ⟨p, by omega, h2⟩
    · exact ⟨P, by omega, by omega, h⟩
theorem owner_one {fs : List Nat} {p q k : Nat} (h1 : below fs p ≤ k) (h2 : k < below fs (p + 1)) (h3 : below fs q ≤ k) (h4 : k < below fs (q + 1)) : p = q := by
  rcases Nat.lt_trichotomy p q with h | h | h
  · have := below_mono fs (show p + 1 ≤ q by omega); omega
  · exact h
  · have := below_mono fs (show q + 1 ≤ p by omega); omega
/-- The arcs turned, in the order of the heads. -/
structure Rev (A A' : List (Nat × Nat)) (P : Nat) (hd : List Int) : Prop where
  len : A'.length = A.length
  at_ : ∀ p k : Nat, p < P → below (fsOf A) p ≤ k → k < below (fsOf A) (p + 1) → ∃ t : Nat, A'[k]? = some (t, p) ∧ hd[k]? = some (t : Int) ∧ t < P
  mem : ∀ a b, (a, b) ∈ A' ↔ (b, a) ∈ A
  ofs : ∀ k : Nat, k < A.length → ∃ t : Nat, (fsOf A')[k]? = some t ∧ hd[k]? = some (t : Int) ∧ t < P
theorem rev {A : List (Nat × Nat)} {P : Nat} {st hd : List Int} (h : CSR A P st hd) (hA : ∀ a b, (a, b) ∈ A → a < P ∧ b < P) : ∃ A', Rev A A' P hd := by
  have hall : below (fsOf A) P = A.length := below_all (fun a b hab => (hA a b hab).1)
  have hex : ∀ k : Nat, ∃ e : Nat × Nat, k < A.length → (e.2, e.1) ∈ A ∧ hd[k]? = some (e.1 : Int) ∧ below (fsOf A) e.2 ≤ k ∧ k < below (fsOf A) (e.2 + 1) := by
    intro k
    by_cases hk : k < A.length
    · obtain ⟨p, h1, h2, h3⟩ := owner (fsOf A) P k (by omega)
      obtain ⟨t, h4, h5⟩ := h.seg_of h2 h3
      exact ⟨(t, p), fun _ => ⟨h4, h5, h2, h3⟩⟩
    · exact ⟨(0, 0), fun h => absurd h hk⟩
  obtain ⟨f, hf⟩ := Classical.axiomOfChoice hex
  have hat : ∀ k : Nat, k < A.length → ((List.range A.length).map f)[k]? = some (f k) := fun k hk => by simp [hk]
  refine ⟨(List.range A.length).map f, by simp, fun p k hp h1 h2 => ?_, fun a b => ?_, fun k hk => ?_⟩
  · have hk : k < A.length := by have := below_le (fsOf A) (p + 1); unfold fsOf at *; simp at this; omega
    obtain ⟨e1, e2, e3, e4⟩ := hf k hk
    have := owner_one e3 e4 h1 h2
    exact ⟨(f k).1, by rw [hat k hk, ← this], e2, (hA _ _ e1).2⟩
  · constructor
    · intro hm
      obtain ⟨k, hk, he⟩ := List.mem_map.1 hm
      have := (hf k (List.mem_range.1 hk)).1
      rw [he] at this; exact this
    · intro hm
      obtain ⟨k, h1, h2, h3⟩ := h.of_arc hm
      have hk : k < A.length := by have := below_le (fsOf A) (b + 1); unfold fsOf at *; simp at this; omega
      obtain ⟨e1, e2, e3, e4⟩ := hf k hk
      have e5 := owner_one e3 e4 h1 h2
      rw [h3] at e2
      have e6 : (a : Int) = ((f k).1 : Int) := Option.some.inj e2
      refine List.mem_map.2 ⟨k, List.mem_range.2 hk, ?_⟩
      have e7 : a = (f k).1 := by omega
      rw [e7, ← e5]
  · obtain ⟨e1, e2, e3, e4⟩ := hf k hk
    refine ⟨(f k).1, ?_, e2, (hA _ _ e1).2⟩
    unfold fsOf
    rw [List.getElem?_map, hat k hk]; rfl

/-! ### Memory -/
section
variable {P : Program} (w : World)
theorem run_copy (t ty : TypeId) (ht : P.underlying t = some (.slice 21)) (hsz : (P.info? 21).map (·.size) = some 1)
    {B g n cs m : Nat} {l news : List Int} {ad : Addr}
    (hown : Own .i32 21 w B (.slice (some ⟨g, 0, none⟩) n n) l) (hlen : news.length = n) (hm : n ≤ m) (hsrc : ∀ (j : Nat) (x : Int), news[j]? = some x → w.cell? (ad.add j) = some (.int .i32 x)) :
    ∃ w', (Builtin.copy_ #[t, t] ty #[.slice (some ⟨g, 0, none⟩) n n, .slice (some ad) m cs]).run P w = .ok (goInt n) w' ∧ Own .i32 21 w' B (.slice (some ⟨g, 0, none⟩) n n) news ∧ Tch (fun x => x = g) w w' := by
  rcases hown.2 with ⟨e, _⟩ | ⟨g', cap, cur, e, hb, hg, hnc, hcm, hcs, htake⟩
  · cases e
  · cases e
    have hl := hown.len
    have hcs' : cur.size = l.length := by rw [hcs]; omega
    have hln : l.length = news.length := by omega
    have hnews : (news.map (Value.int .i32)).length = Nat.min m l.length := by rw [List.length_map, ← hln]; exact (Nat.min_eq_right (by omega)).symm
    have hrow : cur.toList.take 0 ++ news.map (Value.int .i32) ++ cur.toList.drop (0 + (news.map (Value.int .i32)).length) = news.map (Value.int .i32) := by
      rw [List.drop_of_length_le (by simp; omega)]; simp
    have hr := run_copy_row (P := P) w t t ty 21 g 0 l.length l.length ad m cs cur 21 (news.map (Value.int .i32)) ht hsz hg hnews (by
      intro j v hv
      rw [List.getElem?_map, Option.map_eq_some_iff] at hv
      obtain ⟨x, hx, rfl⟩ := hv
      exact hsrc j x hx) (by simp; omega) (ints_oneCell _ _)
    rw [hrow] at hr
    have hlm : (news.map (Value.int .i32)).length = l.length := by simp [hln]
    rw [hlm] at hr
    refine ⟨_, hr, ?_, ?_⟩
    · have e2 : l.length = news.length := hln
      unfold Own
      rw [e2]
      exact ⟨by simp, .inr ⟨g, news.length, (news.map (Value.int .i32)).toArray, rfl, hb, setRow_heap w g cur _ 21 (0, 0) hg, Nat.le_refl _, by rw [← hln]; exact hcm, by simp, by rw [List.take_of_length_le (by simp)]⟩⟩
    · exact ⟨rfl, rfl, rfl, by simp, fun k hk hn => setRow_other w g k _ (by simpa using hn)⟩
end

section
variable {w w1 : World} {B grs gd P : Nat} {tag : Nat → Nat} {s : Rs}
theorem putInto (h : RS w B grs gd P tag s) {g n c : Nat} (e : s.vi = .slice (some ⟨g, 0, none⟩) n c) (i : Nat) (x : Int) :
    ∃ tag', RS (w.setCell ⟨g, i, none⟩ (.int .i32 x)) B grs gd P tag' { s with into := s.into.set i x } ∧ TT tag w tag' (w.setCell ⟨g, i, none⟩ (.int .i32 x)) := by
  refine elem h 6 (by decide) e i (.int .i32 x) { s with into := s.into.set i x } rfl (fun i hi => ⟨rfl, fun w => ?_⟩) ?_ rfl
  · unfold Rs.own; split <;> first | rfl | exact absurd rfl hi
  · have := h.own 6
    simp only [Rs.own] at this ⊢
    rw [e] at this ⊢
    exact this.set i x
theorem putTls (h : RS w B grs gd P tag s) {g n c : Nat} (e : s.vt = .slice (some ⟨g, 0, none⟩) n c) (i : Nat) (x : Int) :
    ∃ tag', RS (w.setCell ⟨g, i, none⟩ (.int .i32 x)) B grs gd P tag' { s with tls := s.tls.set i x } ∧ TT tag w tag' (w.setCell ⟨g, i, none⟩ (.int .i32 x)) := by
  refine elem h 7 (by decide) e i (.int .i32 x) { s with tls := s.tls.set i x } rfl (fun i hi => ⟨rfl, fun w => ?_⟩) ?_ rfl
  · unfold Rs.own; split <;> first | rfl | exact absurd rfl hi
  · have := h.own 7
    simp only [Rs.own] at this ⊢
    rw [e] at this ⊢
    exact this.set i x
/-- A slice is made and stored into its field. -/
theorem putVi (h : RS w B grs gd P tag s) (v' : Value) (l : List Int) (t : Tch Non w w1) (hf : ∀ g, v'.ownBlock = some g → w.heap.size ≤ g) (ho : Own .i32 21 w1 B v' l) :
    ∃ tag', RS (w1.setCell ⟨grs, 6, none⟩ v') B grs gd P tag' { s with into := l, vi := v' } ∧ TT tag w tag' (w1.setCell ⟨grs, 6, none⟩ v') := by
  refine put h 6 6 (by decide) (.slice none 0 0) v' { s with into := l, vi := v' } (fun g hg => by simp [Value.ownBlock] at hg) t.non (fun k hk => .inr (hf k hk)) rfl (fun i hi => ⟨?_, fun w => ?_⟩) ho rfl
  · unfold Rs.val; split <;> first | rfl | exact absurd rfl hi
  · unfold Rs.own; split <;> first | rfl | exact absurd rfl hi
theorem putVt (h : RS w B grs gd P tag s) (v' : Value) (l : List Int) (t : Tch Non w w1) (hf : ∀ g, v'.ownBlock = some g → w.heap.size ≤ g) (ho : Own .i32 21 w1 B v' l) :
    ∃ tag', RS (w1.setCell ⟨grs, 7, none⟩ v') B grs gd P tag' { s with tls := l, vt := v' } ∧ TT tag w tag' (w1.setCell ⟨grs, 7, none⟩ v') := by
  refine put h 7 7 (by decide) (.slice none 0 0) v' { s with tls := l, vt := v' } (fun g hg => by simp [Value.ownBlock] at hg) t.non (fun k hk => .inr (hf k hk)) rfl (fun i hi => ⟨?_, fun w => ?_⟩) ho rfl
  · unfold Rs.val; split <;> first | rfl | exact absurd rfl hi
  · unfold Rs.own; split <;> first | rfl | exact absurd rfl hi
/-- A block that is nobody's is written. -/
theorem _root_.Go.Proofs.YbulkaxcDoor.RS.RS.other {w' : World} {g : Nat} (h : RS w B grs gd P tag s) (t : Tch (fun x => x = g) w w') (hg : tag g = 0) : RS w' B grs gd P tag s := by
  refine ⟨h.blk.touch t (fun e => ?_), fun i => Rs.own_touch t i (h.own i) (fun g' hg' e => ?_), Nat.le_trans h.hB t.size, h.tg, h.tv⟩
  · have := h.tg
    rw [e, hg] at this; omega
  · have h1 := h.tv i g' hg'
    rw [e, hg] at h1
    subst h1
    simp [Rs.val, Value.ownBlock] at hg'
theorem TT.new {w w' wr : World} {tag tag' : Nat → Nat} {g : Nat} (h : TT tag w tag' wr) (t : Tch (fun x => x = g) wr w') (hg : w.heap.size ≤ g) : TT tag w tag' w' :=
  ⟨h.tch.trans t (fun x hx => .inr (by rw [hx]; exact hg)), h.old⟩
end
end Go.Proofs.YbulkaxcDoor.Bi
