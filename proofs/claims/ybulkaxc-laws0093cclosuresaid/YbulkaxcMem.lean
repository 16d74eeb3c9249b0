/-
  MEMORY: what the call's own blocks hold, and what a step leaves alone. Of no program.
-/
import Derived.WalkKit
import Derived.Below
import Derived.OpenShut
import Derived.WalkSmall
import Derived.Laws.AppendOwnNone
namespace Go.Proofs.Ybulkaxc.Mem
open Go.RowKit
set_option linter.unusedVariables false

theorem hide {p : Prop} (h : p) : Hid p := h

/-- From w to w' only blocks of the list S, and new ones, have turned. -/
structure Tch (S : List Nat) (w w' : World) : Prop where
  os : w'.os = w.os
  tape : w'.tape = w.tape
  output : w'.output = w.output
  size : w.heap.size ≤ w'.heap.size
  block : ∀ k, k < w.heap.size → k ∉ S → w'.heap[k]? = w.heap[k]?

theorem Tch.refl (S : List Nat) (w : World) : Tch S w w := ⟨rfl, rfl, rfl, Nat.le_refl _, fun _ _ _ => rfl⟩
theorem Tch.trans {S S' : List Nat} {a b c : World} (h : Tch S a b) (k : Tch S' b c) (hs : ∀ x, x ∈ S' → x ∈ S ∨ a.heap.size ≤ x) : Tch S a c :=
  ⟨k.os.trans h.os, k.tape.trans h.tape, k.output.trans h.output, Nat.le_trans h.size k.size, fun i hi hn =>
    (k.block i (Nat.lt_of_lt_of_le hi h.size) (fun hm => by rcases hs i hm with h1 | h1 <;> first | exact hn h1 | omega)).trans (h.block i hi hn)⟩
theorem Tch.mono {S S' : List Nat} {a b : World} (h : Tch S a b) (hs : ∀ x, x ∈ S → x ∈ S' ∨ a.heap.size ≤ x) : Tch S' a b :=
  (Tch.refl S' a).trans h hs
theorem Tch.of_grownBy {S : List Nat} {a b c : World} {row : Option Nat} (h : Tch S a b) (g : b.grownBy c row) (hs : ∀ x, row = some x → x ∈ S ∨ a.heap.size ≤ x) : Tch S a c :=
  h.trans (S' := row.toList) ⟨g.os, g.tape, g.output, g.size, fun k hk hn => g.block k hk (fun e => hn (by rw [← e]; simp))⟩ (fun x hx => hs x (by simpa using hx))
theorem Tch.alloc {S : List Nat} {a b : World} (h : Tch S a b) (o : Obj) : Tch S a (b.alloc o) :=
  h.trans (S' := []) ⟨rfl, rfl, rfl, by simp, fun k hk _ => Below.heap_alloc _ _ _ hk⟩ (fun x hx => by cases hx)
theorem Tch.setCell {S : List Nat} {a b : World} (h : Tch S a b) {p : Addr} (hp : p.block ∈ S ∨ a.heap.size ≤ p.block) (u : Value) : Tch S a (b.setCell p u) :=
  h.trans (S' := [p.block]) ⟨rfl, rfl, rfl, by simp [World.setCell], fun k hk hn => Below.heap_setCell _ _ _ _ (by simpa using hn)⟩ (fun x hx => by rw [List.mem_singleton.1 hx]; exact hp)
theorem Tch.drewN {S : List Nat} {a b : World} (h : Tch S a b) (n : Nat) : Tch S a (b.drewN n) := ⟨h.os, h.tape, h.output, h.size, h.block⟩
theorem Tch.undrewN {S : List Nat} {a b : World} {n : Nat} (h : Tch S (a.drewN n) b) : Tch S a b := ⟨h.os, h.tape, h.output, h.size, h.block⟩
theorem Tch.drew {S : List Nat} {a b : World} (h : Tch S a b) : Tch S a b.drew := ⟨h.os, h.tape, h.output, h.size, h.block⟩
theorem Tch.of_below {S : List Nat} {a b c : World} (h : Tch S a b) (hb : Below b.heap.size b c) : Tch S a c :=
  h.trans (S' := []) ⟨hb.os, hb.tape, hb.output, hb.size, fun k hk _ => hb.block k hk⟩ (fun x hx => by cases hx)
theorem Tch.below {S : List Nat} {a b : World} (h : Tch S a b) {B : Nat} (hB : B ≤ a.heap.size) (hs : ∀ x, x ∈ S → B ≤ x) : Below B a b :=
  ⟨h.os, h.tape, h.output, h.size, fun k hk => h.block k (by omega) (fun hm => by have := hs k hm; omega)⟩
theorem Tch.cell {S : List Nat} {a b : World} (h : Tch S a b) {p : Addr} {v : Value} (hc : a.cell? p = some v) (hn : p.block ∉ S) : b.cell? p = some v :=
  (World.cell?_of_block (h.block p.block (World.block_lt_of_cell? _ _ hc) hn)).trans hc

/-- Block g is a row of just these cells, writable. -/
def Blk (w : World) (g : Nat) (e : TypeId) (cs : List Value) : Prop := w.heap[g]? = some (.cells cs.toArray e (0, 0))
theorem Blk.lt {w : World} {g : Nat} {e : TypeId} {cs : List Value} (h : Blk w g e cs) : g < w.heap.size := (Array.getElem?_eq_some_iff.1 h).1
theorem Blk.cell {w : World} {g : Nat} {e : TypeId} {cs : List Value} (h : Blk w g e cs) (i : Nat) : w.cell? ⟨g, i, none⟩ = cs[i]? := by
  rw [cell_of_row w g i cs.toArray e (0, 0) h]; simp
theorem Blk.frozen {w : World} {g : Nat} {e : TypeId} {cs : List Value} (h : Blk w g e cs) (i : Nat) : w.frozen? ⟨g, i, none⟩ = false := frozen_of_row w g i cs.toArray e h
theorem Blk.set {w : World} {g : Nat} {e : TypeId} {cs : List Value} (h : Blk w g e cs) (i : Nat) (v : Value) : Blk (w.setCell ⟨g, i, none⟩ v) g e (cs.set i v) := by
  have := heap_setCell_same w g i cs.toArray e v h
  unfold Blk
  rw [this]; simp
theorem Blk.touch {w w' : World} {g : Nat} {e : TypeId} {cs : List Value} (h : Blk w g e cs) {S : List Nat} (t : Tch S w w') (hn : g ∉ S) : Blk w' g e cs :=
  (t.block g h.lt hn).trans h
theorem Blk.alloc {w : World} {g : Nat} {e : TypeId} {cs : List Value} (h : Blk w g e cs) (o : Obj) : Blk (w.alloc o) g e cs := h.touch ((Tch.refl [] w).alloc o) (by simp)
theorem Blk.other {w : World} {g : Nat} {e : TypeId} {cs : List Value} (h : Blk w g e cs) {p : Addr} (hp : g ≠ p.block) (u : Value) : Blk (w.setCell p u) g e cs :=
  h.touch ((Tch.refl [p.block] w).setCell (by simp) u) (by simpa using hp)
theorem Blk.drewN {w : World} {g : Nat} {e : TypeId} {cs : List Value} (h : Blk w g e cs) (n : Nat) : Blk (w.drewN n) g e cs := h
theorem Blk.drew {w : World} {g : Nat} {e : TypeId} {cs : List Value} (h : Blk w g e cs) : Blk w.drew g e cs := h
theorem Blk.new (w : World) (cs : Array Value) (e : TypeId) : Blk (w.alloc (.cells cs e)) w.heap.size e cs.toList := by
  unfold Blk; rw [heap_alloc_new]

/-- A slice of int32 that the call owns: its numbers. -/
def Own (w : World) (B : Nat) (v : Value) (l : List Int) : Prop := w.ownsRow B 21 1 v l.length (l.map (Value.int .i32))
theorem Own.touch {w w' : World} {B : Nat} {v : Value} {l : List Int} (h : Own w B v l) {S : List Nat} (t : Tch S w w') (hn : ∀ g, v.ownBlock = some g → g ∉ S) : Own w' B v l := by
  refine ⟨h.1, ?_⟩
  rcases h.2 with hv | ⟨g, cap, cur, rfl, hb, hg, rest⟩
  · exact .inl hv
  · exact .inr ⟨g, cap, cur, rfl, hb, (t.block g (Array.getElem?_eq_some_iff.1 hg).1 (hn g rfl)).trans hg, rest⟩
theorem Own.form {w : World} {B : Nat} {v : Value} {l : List Int} (h : Own w B v l) : (v = .slice none 0 0 ∧ l = []) ∨ ∃ g cap, v = .slice (some ⟨g, 0, none⟩) l.length cap ∧ B ≤ g ∧ g < w.heap.size ∧ l.length ≤ cap ∧ cap ≤ maxLen := by
  rcases h.2 with ⟨hv, hn⟩ | ⟨g, cap, cur, hv, hb, hg, h1, h2, _⟩
  · exact .inl ⟨hv, List.length_eq_zero_iff.1 hn⟩
  · exact .inr ⟨g, cap, hv, hb, (Array.getElem?_eq_some_iff.1 hg).1, h1, h2⟩
theorem Own.slice {w : World} {B : Nat} {v : Value} {l : List Int} (h : Own w B v l) : ∃ a n c, v = .slice a n c := by
  rcases h.form with ⟨rfl, _⟩ | ⟨g, cap, rfl, _⟩
  · exact ⟨_, _, _, rfl⟩
  · exact ⟨_, _, _, rfl⟩
theorem Own.len {w : World} {B n c : Nat} {a : Option Addr} {l : List Int} (h : Own w B (.slice a n c) l) : l.length = n := by
  rcases h.form with ⟨e, rfl⟩ | ⟨g, cap, e, _⟩
  · cases e; rfl
  · cases e; rfl
theorem Own.lt {w : World} {B : Nat} {v : Value} {l : List Int} (h : Own w B v l) {g : Nat} (hg : v.ownBlock = some g) : B ≤ g ∧ g < w.heap.size := World.ownsRow.lt h g hg
theorem Own.cell {w : World} {B g n cap : Nat} {l : List Int} (h : Own w B (.slice (some ⟨g, 0, none⟩) n cap) l) {i : Nat} (hi : i < l.length) : ∃ x, l[i]? = some x ∧ w.cell? ⟨g, i, none⟩ = some (.int .i32 x) := by
  have hn : l.length = n := by
    rcases h.2 with ⟨hv, _⟩ | ⟨g', cap', cur, hv, _⟩
    · cases hv
    · cases hv; rfl
  subst hn
  have := World.ownsRow.cellAt h i (by omega)
  refine ⟨l[i], List.getElem?_eq_getElem hi, ?_⟩
  rw [this]; simp [hi]
theorem Own.frozen {w : World} {B g n cap : Nat} {l : List Int} (h : Own w B (.slice (some ⟨g, 0, none⟩) n cap) l) (i : Nat) : w.frozen? ⟨g, i, none⟩ = false := by
  rcases h.2 with ⟨hv, _⟩ | ⟨g', cap', cur, hv, _, hg, _⟩
  · cases hv
  · cases hv; exact frozen_of_row w g i cur 21 hg
theorem Own.set {w : World} {B g n cap : Nat} {l : List Int} (h : Own w B (.slice (some ⟨g, 0, none⟩) n cap) l) (i : Nat) (y : Int) : Own (w.setCell ⟨g, i, none⟩ (.int .i32 y)) B (.slice (some ⟨g, 0, none⟩) n cap) (l.set i y) := by
  have hn : l.length = n := by
    rcases h.2 with ⟨hv, _⟩ | ⟨g', cap', cur, hv, _⟩
    · cases hv
    · cases hv; rfl
  subst hn
  have := (World.ownsRow.stored h i (.int .i32 y)).1
  unfold Own
  rw [List.length_set, List.map_set]
  exact this
theorem Own.nil (w : World) (B : Nat) : Own w B (.slice none 0 0) [] := World.ownsRow_nil _ _ _ _
/-- From the laws' own form. -/
theorem Own.of {w : World} {B : Nat} {v : Value} {n : Nat} {xs : List Value} (h : w.ownsRow B 21 1 v n xs) {l : List Int} (hl : xs = l.map (Value.int .i32)) : Own w B v l := by
  subst hl
  have : n = l.length := by have := h.1; simpa using this.symm
  subst this; exact h
theorem Own.made {w : World} {B n : Nat} {v : Value} (h : w.ownsRow B 21 1 v n (madeCells (Value.int .i32 0).cells (n * 1)).toList) : Own w B v (List.replicate n 0) := by
  refine Own.of h ?_
  rw [Nat.mul_one]
  have : (Value.int IntKind.i32 0).cells = #[.int .i32 0] := rfl
  rw [this, toList_madeCells_one]; simp
theorem Own.mono {w : World} {B B' : Nat} {v : Value} {l : List Int} (h : Own w B v l) (hB : B' ≤ B) : Own w B' v l := by
  refine ⟨h.1, ?_⟩
  rcases h.2 with hv | ⟨g, cap, cur, hv, hb, rest⟩
  · exact .inl hv
  · exact .inr ⟨g, cap, cur, hv, by omega, rest⟩

/-- A slice of int32 that can be read: its numbers. -/
def Src (w : World) (v : Value) (l : List Int) : Prop :=
  (l = [] ∧ ∃ a cap, v = .slice a 0 cap ∧ (a = none → cap = 0)) ∨
  ∃ b off cap, v = .slice (some ⟨b, off, none⟩) l.length cap ∧ ∀ i x, l[i]? = some x → w.cell? ⟨b, off + i, none⟩ = some (.int .i32 x)

theorem Src.touch {w w' : World} {v : Value} {l : List Int} (h : Src w v l) {S : List Nat} (t : Tch S w w') (hS : ∀ g, v.ownBlock = some g → g ∉ S) : Src w' v l := by
  rcases h with h | ⟨b, off, cap, rfl, h⟩
  · exact .inl h
  · exact .inr ⟨b, off, cap, rfl, fun i x hx => t.cell (h i x hx) (hS b rfl)⟩
theorem Own.src {w : World} {B : Nat} {v : Value} {l : List Int} (h : Own w B v l) : Src w v l := by
  rcases h.form with ⟨rfl, rfl⟩ | ⟨g, cap, rfl, _⟩
  · exact .inl ⟨rfl, none, 0, rfl, fun _ => rfl⟩
  · refine .inr ⟨g, 0, cap, rfl, fun i x hx => ?_⟩
    obtain ⟨y, hy, hc⟩ := Own.cell h (i := i) ((List.getElem?_eq_some_iff.1 hx).1)
    rw [hx] at hy; cases hy
    rw [Nat.zero_add]; exact hc
theorem Src.one (w : World) (x : Int) (c : Nat) : Src (w.alloc (.cells #[.int .i32 x] 21)) (.slice (some ⟨w.heap.size, 0, none⟩) 1 c) [x] := by
  refine .inr ⟨w.heap.size, 0, c, rfl, fun i y hy => ?_⟩
  have := (Blk.new w #[.int .i32 x] 21).cell (0 + i)
  rw [this]
  match i, hy with
  | 0, hy => simp at hy; subst hy; rfl
  | i + 1, hy => simp at hy

/-- The slice does not lie in block g; two slices lie apart; a slice has stayed where it was or has moved to a new block. -/
def Off (v : Value) (g : Nat) : Prop := v.ownBlock ≠ some g
def Sep (v u : Value) : Prop := ∀ k, v.ownBlock = some k → u.ownBlock ≠ some k
def Fr (w : World) (v v' : Value) : Prop := ∀ k, v'.ownBlock = some k → v.ownBlock = some k ∨ w.heap.size ≤ k
theorem Off.fr {w : World} {v v' : Value} {g : Nat} (h : Off v g) (hg : g < w.heap.size) (f : Fr w v v') : Off v' g := fun e => by
  rcases f g e with h1 | h1
  · exact h h1
  · omega
theorem Sep.symm {v u : Value} (h : Sep v u) : Sep u v := fun k hk hv => h k hv hk
theorem Sep.fr {w : World} {v v' u : Value} {B : Nat} {l : List Int} (h : Sep v u) (hu : Own w B u l) (f : Fr w v v') : Sep v' u := fun k hk hk' => by
  rcases f k hk with h1 | h1
  · exact h k h1 hk'
  · have := (hu.lt hk').2; omega
theorem Fr.refl (w : World) (v : Value) : Fr w v v := fun k hk => .inl hk
theorem Fr.mono {w w' : World} {v v' : Value} (h : Fr w' v v') (hs : w.heap.size ≤ w'.heap.size) : Fr w v v' := fun k hk => by
  rcases h k hk with h1 | h1
  · exact .inl h1
  · exact .inr (by omega)
theorem Fr.trans {w w' : World} {v v' v'' : Value} (h : Fr w v v') (h' : Fr w' v' v'') (hs : w.heap.size ≤ w'.heap.size) : Fr w v v'' := fun k hk => by
  rcases h' k hk with h1 | h1
  · exact h k h1
  · exact .inr (by omega)
theorem Own.apart {w w' : World} {B : Nat} {u v : Value} {l : List Int} (h : Own w B u l) (t : Tch v.ownBlock.toList w w') (hs : Sep u v) : Own w' B u l :=
  h.touch t (fun g hg hm => hs g hg (by simpa using hm))
theorem Blk.apart {w w' : World} {v : Value} {g : Nat} {e : TypeId} {cs : List Value} (h : Blk w g e cs) (t : Tch v.ownBlock.toList w w') (hs : Off v g) : Blk w' g e cs :=
  h.touch t (fun hm => hs (by simpa using hm))
theorem Own.setOff {w : World} {B : Nat} {u : Value} {l : List Int} (h : Own w B u l) {p : Addr} (x : Value) (hs : Off u p.block) : Own (w.setCell p x) B u l :=
  h.touch ((Tch.refl [p.block] w).setCell (by simp) x) (fun g hg hm => hs (by rw [hg, List.mem_singleton.1 hm]))
theorem Own.alloc {w : World} {B : Nat} {u : Value} {l : List Int} (h : Own w B u l) (o : Obj) : Own (w.alloc o) B u l := h.touch ((Tch.refl [] w).alloc o) (by simp)
theorem Own.drewN {w : World} {B : Nat} {u : Value} {l : List Int} (h : Own w B u l) (n : Nat) : Own (w.drewN n) B u l := h
theorem Fr.of_alloc {w : World} {o : Obj} {v v' : Value} (h : Fr (w.alloc o) v v') : Fr w v v' := fun k hk => by
  rcases h k hk with h1 | h1
  · exact .inl h1
  · exact .inr (by simp at h1; omega)

section
variable {P : Program} (w : World)

/-- append onto a slice that the call owns, from a slice that can be read: what is owned behind it; only the row's own block has turned; the row lies where it lay, or in a new block. -/
theorem run_app32 (t ty : TypeId) (i : TypeInfo) (ht : P.underlying t = some (.slice 21)) (hi : P.info? 21 = some i) (hz : i.zero = some (.int .i32 0)) (hs1 : i.size = 1) (hs2 : i.bytes = 4)
    {B : Nat} {v : Value} {l : List Int} (hown : Own w B v l) {vx : Value} {news : List Int} (hsrc : Src w vx news) (hlen : l.length + news.length ≤ 1000000) (hB : B ≤ w.heap.size) :
    ∃ v' w', (Builtin.append_ #[t, t] ty #[v, vx]).run P w = .ok v' w' ∧ Own w' B v' (l ++ news) ∧ Tch v.ownBlock.toList w w' ∧ Fr w v v' := by
  have none_case : vx = .slice none 0 0 → news = [] → ∃ v' w', (Builtin.append_ #[t, t] ty #[v, vx]).run P w = .ok v' w' ∧ Own w' B v' (l ++ news) ∧ Tch v.ownBlock.toList w w' ∧ Fr w v v' := by
    intro hv hn
    subst hv hn
    have hr := run_append_owned_none (P := P) w B t ty 21 i 1 ht hi v l.length (l.map (Value.int .i32)) hown
    exact ⟨v, w, hr, by simpa using hown, Tch.refl _ _, fun k hk => .inl hk⟩
  obtain ⟨ad, m, c, rfl, hm, hc⟩ | ⟨hv, hn⟩ : (∃ ad m c, vx = .slice (some ad) m c ∧ news.length = m ∧ ∀ j u, (news.map (Value.int .i32))[j]? = some u → w.cell? (ad.add j) = some u) ∨ vx = .slice none 0 0 ∧ news = [] := by
    rcases hsrc with ⟨rfl, a, cap, rfl, h0⟩ | ⟨b, off, cap, rfl, h⟩
    · cases a with
      | none => exact .inr ⟨by rw [h0 rfl], rfl⟩
      | some ad => exact .inl ⟨ad, 0, cap, rfl, rfl, fun j u hu => by simp at hu⟩
    · refine .inl ⟨_, _, _, rfl, rfl, fun j u hu => ?_⟩
      rw [List.getElem?_map, Option.map_eq_some_iff] at hu
      obtain ⟨x, hx, rfl⟩ := hu
      rw [Go.WideShapes.add_plain]
      exact h j x hx
  · subst hm
    have hz2 : (Value.int IntKind.i32 0).cells.size = 1 := rfl
    have h63 : l.length + news.length ≤ maxLen := by unfold maxLen; omega
    have hl1 : (news.map (Value.int .i32)).length = news.length * 1 := by simp
    obtain ⟨v', w', hr, h2, h3, _⟩ := run_append_own (P := P) w B t ty 21 i (.int .i32 0) 1 4 ht hi hz hs1 hs2 hz2 (by decide) v l.length (l.map (Value.int .i32)) hown ad news.length c (news.map (Value.int .i32)) hl1 hc (ints_oneCell _ _) h63 (by omega) hB
    refine ⟨v', w', hr, Own.of h2 (by simp), (Tch.refl _ _).of_grownBy h3 (fun x hx => .inl (by rw [hx]; simp)), fun k hk => ?_⟩
    rcases hown.2 with ⟨rfl, hn⟩ | ⟨g, cap, cur, rfl, hbg, hg, hnc, hcm, hcs, htake⟩
    · have hl : l = [] := List.length_eq_zero_iff.1 hn
      subst hl
      obtain ⟨v2, w2, hr2, h22, _⟩ := run_append_own (P := P) w w.heap.size t ty 21 i (.int .i32 0) 1 4 ht hi hz hs1 hs2 hz2 (by decide) (.slice none 0 0) 0 [] (World.ownsRow_nil _ _ _ _) ad news.length c (news.map (Value.int .i32)) hl1 hc (ints_oneCell _ _) (by simpa using h63) (by simp at hlen; omega) (Nat.le_refl _)
      rw [hr] at hr2
      cases hr2
      exact .inr (World.ownsRow.lt h22 k hk).1
    · by_cases hroom : l.length + news.length ≤ cap
      · have hr2 := run_append_room (P := P) w t ty 21 i ht hi g l.length cap cur hg ad news.length c (news.map (Value.int .i32)) (by rw [hs1]; exact hl1) hc (ints_oneCell _ _) hroom (by rw [hs1, hcs]; simp; omega)
        rw [hr] at hr2
        cases hr2
        exact .inl hk
      · have hr2 := run_append_grow (P := P) w t ty 21 i (.int .i32 0) ht hi hz ⟨g, 0, none⟩ l.length cap (l.map (Value.int .i32)) (by rw [hs1]; simp) (World.ownsRow.cells hown (g := g) rfl) ad news.length c (news.map (Value.int .i32)) (by rw [hs1]; exact hl1) hc (by omega) (by omega) (growslice_fits (by omega) (by rw [hs2]; omega))
        rw [hr] at hr2
        cases hr2
        simp [Value.ownBlock] at hk
        exact .inr (by omega)
  · exact none_case hv hn

theorem wpList_app32 {ops : Array Oper} {rest : List Oper} {o : Oper} {a : Act} {Q : Exit → Act → World → Prop} (hgd : o.guard = none) (s x : Operand) (t : TypeId)
    (ho : o.op = .call { callee := .builtin .append, args := #[s, x], argTypes := #[t, t] })
    (i : TypeInfo) (ht : P.underlying t = some (.slice 21)) (hi : P.info? 21 = some i) (hz : i.zero = some (.int .i32 0)) (hs1 : i.size = 1) (hs2 : i.bytes = 4)
    {B : Nat} {v : Value} {l : List Int} (hs : a.eval s = v) (hown : Own w B v l) {vx : Value} {news : List Int} (hx : a.eval x = vx) (hsrc : Src w vx news) (hlen : l.length + news.length ≤ 1000000) (hB : B ≤ w.heap.size)
    (h : ∀ v' w', Own w' B v' (l ++ news) → Tch v.ownBlock.toList w w' → Fr w v v' → wpList P ops Q rest (a.put o.dst v') w') : wpList P ops Q (o :: rest) a w := by
  refine wpList_plain hgd fun K hK => ?_
  obtain ⟨v', w', hr, h2, h3, h4⟩ := run_app32 (P := P) w t o.type i ht hi hz hs1 hs2 hown hsrc hlen hB
  unfold Oper.wp execOp
  simp only [ho, resolve, invoke, builtin, Sem.run_bind, Sem.run_pure, Result.andThen_ok, List.map_toArray, List.map_cons, List.map_nil, hs, hx, hr]
  exact hK _ _ (h v' w' h2 h3 h4)

/-- The same as one step of a region that draws its order. -/
theorem step_app32 {ops : Array Oper} {o : Oper} {a : Act} {K : Act → World → Prop} {Q : Exit → Act → World → Prop} {E : Prop} (hgd : o.guard = none) (s x : Operand) (t : TypeId)
    (ho : o.op = .call { callee := .builtin .append, args := #[s, x], argTypes := #[t, t] })
    (i : TypeInfo) (ht : P.underlying t = some (.slice 21)) (hi : P.info? 21 = some i) (hz : i.zero = some (.int .i32 0)) (hs1 : i.size = 1) (hs2 : i.bytes = 4)
    {B : Nat} {v : Value} {l : List Int} (hs : a.eval s = v) (hown : Own w B v l) {vx : Value} {news : List Int} (hx : a.eval x = vx) (hsrc : Src w vx news) (hlen : l.length + news.length ≤ 1000000) (hB : B ≤ w.heap.size)
    (h : ∀ v' w', Own w' B v' (l ++ news) → Tch v.ownBlock.toList w w' → Fr w v v' → K (a.put o.dst v') w') :
    if Region.wanted o (yielded ops a.tmps) = true then Oper.wp P o a w K Q else E := by
  have hw : Region.wanted o (yielded ops a.tmps) = true := by simp [Region.wanted, hgd]
  rw [if_pos hw]
  obtain ⟨v', w', hr, h2, h3, h4⟩ := run_app32 (P := P) w t o.type i ht hi hz hs1 hs2 hown hsrc hlen hB
  unfold Oper.wp execOp
  simp only [ho, resolve, invoke, builtin, Sem.run_bind, Sem.run_pure, Result.andThen_ok, List.map_toArray, List.map_cons, List.map_nil, hs, hx, hr]
  exact h v' w' h2 h3 h4
end
end Go.Proofs.Ybulkaxc.Mem
