/-
  MEMORY: what the call's own blocks hold, who owns a block, and what a step leaves alone. Of no program.
-/
import Derived.WalkKit
import Derived.Below
import Derived.OpenShut
import Derived.WalkSmall
import Derived.Laws.AppendOwnNone
import Derived.Laws.CopyOwn
namespace Go.Proofs.Ybulkaxc.M2
open Go Go.RowKit
set_option linter.unusedVariables false

theorem hide {p : Prop} (h : p) : Hid p := h

/-- From w to w' only blocks of S, and new ones, have turned. -/
structure Tch (S : Nat → Prop) (w w' : World) : Prop where
  os : w'.os = w.os
  tape : w'.tape = w.tape
  output : w'.output = w.output
  size : w.heap.size ≤ w'.heap.size
  block : ∀ k, k < w.heap.size → ¬ S k → w'.heap[k]? = w.heap[k]?
/-- Nothing. -/
def Non : Nat → Prop := fun _ => False

section
variable {S S' : Nat → Prop} {a b c : World}
theorem Tch.refl (S : Nat → Prop) (w : World) : Tch S w w := ⟨rfl, rfl, rfl, Nat.le_refl _, fun _ _ _ => rfl⟩
theorem Tch.trans (h : Tch S a b) (k : Tch S' b c) (hs : ∀ x, S' x → S x ∨ a.heap.size ≤ x) : Tch S a c :=
  ⟨k.os.trans h.os, k.tape.trans h.tape, k.output.trans h.output, Nat.le_trans h.size k.size, fun i hi hn =>
    (k.block i (Nat.lt_of_lt_of_le hi h.size) (fun hm => by rcases hs i hm with h1 | h1 <;> first | exact hn h1 | omega)).trans (h.block i hi hn)⟩
theorem Tch.mono (h : Tch S a b) (hs : ∀ x, S x → S' x ∨ a.heap.size ≤ x) : Tch S' a b := (Tch.refl S' a).trans h hs
theorem Tch.non (h : Tch Non a b) : Tch S a b := h.mono (fun x hx => hx.elim)
theorem Tch.also (h : Tch S a b) (k : Tch Non b c) : Tch S a c := h.trans k (fun x hx => hx.elim)
theorem Tch.of_grownBy {row : Option Nat} (h : Tch S a b) (g : b.grownBy c row) (hs : ∀ x, row = some x → S x ∨ a.heap.size ≤ x) : Tch S a c :=
  h.trans (S' := fun x => row = some x) ⟨g.os, g.tape, g.output, g.size, fun k hk hn => g.block k hk (fun e => hn e.symm)⟩ hs
theorem Tch.alloc (h : Tch S a b) (o : Obj) : Tch S a (b.alloc o) := h.also ⟨rfl, rfl, rfl, by simp, fun k hk _ => Below.heap_alloc _ _ _ hk⟩
theorem Tch.setCell (h : Tch S a b) {p : Addr} (hp : S p.block ∨ a.heap.size ≤ p.block) (u : Value) : Tch S a (b.setCell p u) :=
  h.trans (S' := fun x => x = p.block) ⟨rfl, rfl, rfl, by simp [World.setCell], fun k hk hn => Below.heap_setCell _ _ _ _ hn⟩ (fun x hx => by rw [hx]; exact hp)
theorem Tch.drewN (h : Tch S a b) (n : Nat) : Tch S a (b.drewN n) := ⟨h.os, h.tape, h.output, h.size, h.block⟩
theorem Tch.undrewN {n : Nat} (h : Tch S (a.drewN n) b) : Tch S a b := ⟨h.os, h.tape, h.output, h.size, h.block⟩
theorem Tch.drew (h : Tch S a b) : Tch S a b.drew := ⟨h.os, h.tape, h.output, h.size, h.block⟩
theorem Tch.undrew (h : Tch S a.drew b) : Tch S a b := ⟨h.os, h.tape, h.output, h.size, h.block⟩
theorem Tch.below (h : Tch S a b) {B : Nat} (hB : B ≤ a.heap.size) (hs : ∀ x, S x → B ≤ x) : Below B a b :=
  ⟨h.os, h.tape, h.output, h.size, fun k hk => h.block k (by omega) (fun hm => by have := hs k hm; omega)⟩
theorem Tch.cell (h : Tch S a b) {p : Addr} {v : Value} (hc : a.cell? p = some v) (hn : ¬ S p.block) : b.cell? p = some v :=
  (World.cell?_of_block (h.block p.block (World.block_lt_of_cell? _ _ hc) hn)).trans hc
end

/-- Block g is a row of just these cells, writable. -/
def Blk (w : World) (g : Nat) (e : TypeId) (cs : List Value) : Prop := w.heap[g]? = some (.cells cs.toArray e (0, 0))
section
variable {w w' : World} {g : Nat} {e : TypeId} {cs : List Value}
theorem Blk.lt (h : Blk w g e cs) : g < w.heap.size := (Array.getElem?_eq_some_iff.1 h).1
theorem Blk.cell (h : Blk w g e cs) (i : Nat) : w.cell? ⟨g, i, none⟩ = cs[i]? := by
  rw [cell_of_row w g i cs.toArray e (0, 0) h]; simp
theorem Blk.frozen (h : Blk w g e cs) (i : Nat) : w.frozen? ⟨g, i, none⟩ = false := frozen_of_row w g i cs.toArray e h
theorem Blk.set (h : Blk w g e cs) (i : Nat) (v : Value) : Blk (w.setCell ⟨g, i, none⟩ v) g e (cs.set i v) := by
  have := heap_setCell_same w g i cs.toArray e v h
  unfold Blk
  rw [this]; simp
theorem Blk.touch (h : Blk w g e cs) {S : Nat → Prop} (t : Tch S w w') (hn : ¬ S g) : Blk w' g e cs := (t.block g h.lt hn).trans h
theorem Blk.keep (h : Blk w g e cs) (t : Tch Non w w') : Blk w' g e cs := h.touch t (fun h => h)
theorem Blk.alloc (h : Blk w g e cs) (o : Obj) : Blk (w.alloc o) g e cs := h.keep ((Tch.refl Non w).alloc o)
theorem Blk.other (h : Blk w g e cs) {p : Addr} (hp : g ≠ p.block) (u : Value) : Blk (w.setCell p u) g e cs :=
  h.touch ((Tch.refl (fun x => x = p.block) w).setCell (.inl rfl) u) hp
theorem Blk.drewN (h : Blk w g e cs) (n : Nat) : Blk (w.drewN n) g e cs := h
theorem Blk.drew (h : Blk w g e cs) : Blk w.drew g e cs := h
theorem Blk.new (w : World) (cs : Array Value) (e : TypeId) : Blk (w.alloc (.cells cs e)) w.heap.size e cs.toList := by
  unfold Blk; rw [heap_alloc_new]
end

/-- A row that the call owns stays, if its block is not touched. -/
theorem ownsRow_touch {w w' : World} {B : Nat} {e : TypeId} {size : Nat} {v : Value} {n : Nat} {xs : List Value} (h : w.ownsRow B e size v n xs) {S : Nat → Prop} (t : Tch S w w') (hn : ∀ g, v.ownBlock = some g → ¬ S g) : w'.ownsRow B e size v n xs := by
  refine ⟨h.1, ?_⟩
  rcases h.2 with hv | ⟨g, cap, cur, rfl, hb, hg, rest⟩
  · exact .inl hv
  · exact .inr ⟨g, cap, cur, rfl, hb, (t.block g (Array.getElem?_eq_some_iff.1 hg).1 (hn g rfl)).trans hg, rest⟩

/-- A slice of integers of kind k (type e) that the call owns: its numbers. -/
def Own (k : IntKind) (e : TypeId) (w : World) (B : Nat) (v : Value) (l : List Int) : Prop := w.ownsRow B e 1 v l.length (l.map (Value.int k))
section
variable {k : IntKind} {e : TypeId} {w w' : World} {B : Nat} {v : Value} {l : List Int}
theorem Own.touch (h : Own k e w B v l) {S : Nat → Prop} (t : Tch S w w') (hn : ∀ g, v.ownBlock = some g → ¬ S g) : Own k e w' B v l := ownsRow_touch h t hn
theorem Own.keep (h : Own k e w B v l) (t : Tch Non w w') : Own k e w' B v l := h.touch t (fun _ _ h => h)
theorem Own.form (h : Own k e w B v l) : (v = .slice none 0 0 ∧ l = []) ∨ ∃ g cap, v = .slice (some ⟨g, 0, none⟩) l.length cap ∧ B ≤ g ∧ g < w.heap.size ∧ l.length ≤ cap ∧ cap ≤ maxLen := by
  rcases h.2 with ⟨hv, hn⟩ | ⟨g, cap, cur, hv, hb, hg, h1, h2, _⟩
  · exact .inl ⟨hv, List.length_eq_zero_iff.1 hn⟩
  · exact .inr ⟨g, cap, hv, hb, (Array.getElem?_eq_some_iff.1 hg).1, h1, h2⟩
theorem Own.slice (h : Own k e w B v l) : ∃ a n c, v = .slice a n c := by
  rcases h.form with ⟨rfl, _⟩ | ⟨g, cap, rfl, _⟩
  · exact ⟨_, _, _, rfl⟩
  · exact ⟨_, _, _, rfl⟩
theorem Own.len {n c : Nat} {a : Option Addr} (h : Own k e w B (.slice a n c) l) : l.length = n := by
  rcases h.form with ⟨e, rfl⟩ | ⟨g, cap, e, _⟩
  · cases e; rfl
  · cases e; rfl
theorem Own.lt (h : Own k e w B v l) {g : Nat} (hg : v.ownBlock = some g) : B ≤ g ∧ g < w.heap.size := World.ownsRow.lt h g hg
theorem Own.cell {g n cap : Nat} (h : Own k e w B (.slice (some ⟨g, 0, none⟩) n cap) l) {i : Nat} (hi : i < l.length) : ∃ x, l[i]? = some x ∧ w.cell? ⟨g, i, none⟩ = some (.int k x) := by
  have hn := h.len
  subst hn
  have := World.ownsRow.cellAt h i (by omega)
  refine ⟨l[i], List.getElem?_eq_getElem hi, ?_⟩
  rw [this]; simp [hi]
theorem Own.at {g n cap : Nat} (h : Own k e w B (.slice (some ⟨g, 0, none⟩) n cap) l) {i : Nat} {x : Int} (hx : l[i]? = some x) : w.cell? ⟨g, i, none⟩ = some (.int k x) := by
  obtain ⟨y, hy, hc⟩ := h.cell (i := i) ((List.getElem?_eq_some_iff.1 hx).1)
  rw [hx] at hy; cases hy; exact hc
theorem Own.frozen {g n cap : Nat} (h : Own k e w B (.slice (some ⟨g, 0, none⟩) n cap) l) (i : Nat) : w.frozen? ⟨g, i, none⟩ = false := by
  rcases h.2 with ⟨hv, _⟩ | ⟨g', cap', cur, hv, _, hg, _⟩
  · cases hv
  · cases hv; exact frozen_of_row w g i cur e hg
theorem Own.set {g n cap : Nat} (h : Own k e w B (.slice (some ⟨g, 0, none⟩) n cap) l) (i : Nat) (y : Int) : Own k e (w.setCell ⟨g, i, none⟩ (.int k y)) B (.slice (some ⟨g, 0, none⟩) n cap) (l.set i y) := by
  have hn := h.len
  subst hn
  have := (World.ownsRow.stored h i (.int k y)).1
  unfold Own
  rw [List.length_set, List.map_set]
  exact this
theorem Own.nil (k : IntKind) (e : TypeId) (w : World) (B : Nat) : Own k e w B (.slice none 0 0) [] := World.ownsRow_nil _ _ _ _
theorem Own.of {n : Nat} {xs : List Value} (h : w.ownsRow B e 1 v n xs) (hl : xs = l.map (Value.int k)) : Own k e w B v l := by
  subst hl
  have : n = l.length := by have := h.1; simpa using this.symm
  subst this; exact h
theorem Own.made {n : Nat} (h : w.ownsRow B e 1 v n (madeCells (Value.int k 0).cells (n * 1)).toList) : Own k e w B v (List.replicate n 0) := by
  refine Own.of h ?_
  rw [Nat.mul_one]
  have : (Value.int k 0).cells = #[.int k 0] := rfl
  rw [this, toList_madeCells_one]; simp
theorem Own.mono {B' : Nat} (h : Own k e w B v l) (hB : B' ≤ B) : Own k e w B' v l := by
  refine ⟨h.1, ?_⟩
  rcases h.2 with hv | ⟨g, cap, cur, hv, hb, rest⟩
  · exact .inl hv
  · exact .inr ⟨g, cap, cur, hv, by omega, rest⟩
theorem Own.alloc (h : Own k e w B v l) (o : Obj) : Own k e (w.alloc o) B v l := h.keep ((Tch.refl Non w).alloc o)
theorem Own.drewN (h : Own k e w B v l) (n : Nat) : Own k e (w.drewN n) B v l := h
theorem Own.setOff (h : Own k e w B v l) {p : Addr} (x : Value) (hs : v.ownBlock ≠ some p.block) : Own k e (w.setCell p x) B v l :=
  h.touch ((Tch.refl (fun y => y = p.block) w).setCell (.inl rfl) x) (fun g hg hm => hs (by rw [hg, hm]))
/-- 's[:n]' of an owned slice. -/
theorem Own.cut {g m cap : Nat} (h : Own k e w B (.slice (some ⟨g, 0, none⟩) m cap) l) (n : Nat) (hn : n ≤ l.length) : Own k e w B (.slice (some ⟨g, 0, none⟩) n cap) (l.take n) := by
  have hl := h.len
  rcases h.2 with ⟨hv, _⟩ | ⟨g', cap', cur, hv, hb, hg, h1, h2, h3, h4⟩
  · cases hv
  · cases hv
    have e1 : (l.take n).length = n := by simp; omega
    refine ⟨by simp, .inr ⟨g, cap, cur, by rw [e1], hb, hg, by omega, h2, h3, ?_⟩⟩
    rw [e1, Nat.mul_one, List.map_take, ← h4, List.take_take]
    congr 1
    omega
end

/-- A slice of integers that can be read: its numbers. -/
def Src (k : IntKind) (w : World) (v : Value) (l : List Int) : Prop :=
  (l = [] ∧ ∃ a cap, v = .slice a 0 cap ∧ (a = none → cap = 0)) ∨
  ∃ b off cap, v = .slice (some ⟨b, off, none⟩) l.length cap ∧ ∀ i x, l[i]? = some x → w.cell? ⟨b, off + i, none⟩ = some (.int k x)
theorem Own.src {k : IntKind} {e : TypeId} {w : World} {B : Nat} {v : Value} {l : List Int} (h : Own k e w B v l) : Src k w v l := by
  rcases h.form with ⟨rfl, rfl⟩ | ⟨g, cap, rfl, _⟩
  · exact .inl ⟨rfl, none, 0, rfl, fun _ => rfl⟩
  · exact .inr ⟨g, 0, cap, rfl, fun i x hx => by rw [Nat.zero_add]; exact h.at hx⟩
theorem Src.one (k : IntKind) (e : TypeId) (w : World) (x : Int) (c : Nat) : Src k (w.alloc (.cells #[.int k x] e)) (.slice (some ⟨w.heap.size, 0, none⟩) 1 c) [x] := by
  refine .inr ⟨w.heap.size, 0, c, rfl, fun i y hy => ?_⟩
  have := (Blk.new w #[.int k x] e).cell (0 + i)
  rw [this]
  match i, hy with
  | 0, hy => simp at hy; subst hy; rfl
  | i + 1, hy => simp at hy

/-- A slice has stayed where it was or has moved to a new block. -/
def Fr (w : World) (v v' : Value) : Prop := ∀ k, v'.ownBlock = some k → v.ownBlock = some k ∨ w.heap.size ≤ k
theorem Fr.refl (w : World) (v : Value) : Fr w v v := fun k hk => .inl hk
theorem Fr.mono {w w' : World} {v v' : Value} (h : Fr w' v v') (hs : w.heap.size ≤ w'.heap.size) : Fr w v v' := fun k hk => by
  rcases h k hk with h1 | h1
  · exact .inl h1
  · exact .inr (by omega)
theorem Fr.trans {w w' : World} {v v' v'' : Value} (h : Fr w v v') (h' : Fr w' v' v'') (hs : w.heap.size ≤ w'.heap.size) : Fr w v v'' := fun k hk => by
  rcases h' k hk with h1 | h1
  · exact h k h1
  · exact .inr (by omega)
theorem Fr.of_alloc {w : World} {o : Obj} {v v' : Value} (h : Fr (w.alloc o) v v') : Fr w v v' := h.mono (by simp)

section
variable {P : Program} (w : World)
/-- append onto an owned row, of whatever element: where the row lies behind it. -/
theorem run_append_fr (base : Nat) (t ty e : TypeId) (i : TypeInfo) (z : Value) (size bytes : Nat) (ht : P.underlying t = some (.slice e)) (hi : P.info? e = some i) (hz : i.zero = some z)
    (hsize : i.size = size) (hby : i.bytes = bytes) (hzs : z.cells.size = size) (hsz : 0 < size)
    (v : Value) (n : Nat) (xs : List Value) (hown : w.ownsRow base e size v n xs)
    (a : Addr) (m c : Nat) (news : List Value) (hl : news.length = m * size) (hnews : ∀ j u, news[j]? = some u → w.cell? (a.add j) = some u) (h1 : ∀ u ∈ news, u.oneCell' = true)
    (h63 : n + m ≤ maxLen) (hbytes : (n + m) * bytes ≤ 140737488355328) (hbase : base ≤ w.heap.size) :
    ∃ v' w', (Builtin.append_ #[t, t] ty #[v, .slice (some a) m c]).run P w = .ok v' w' ∧ w'.ownsRow base e size v' (n + m) (xs ++ news) ∧ Tch (fun x => v.ownBlock = some x) w w' ∧ Fr w v v' := by
  obtain ⟨v', w', hr, h2, h3, _⟩ := run_append_own (P := P) w base t ty e i z size bytes ht hi hz hsize hby hzs hsz v n xs hown a m c news hl hnews h1 h63 hbytes hbase
  refine ⟨v', w', hr, h2, (Tch.refl _ _).of_grownBy h3 (fun x hx => .inl hx), fun k hk => ?_⟩
  subst hsize
  subst hby
  rcases hown.2 with ⟨rfl, rfl⟩ | ⟨g, cap, cur, rfl, hbg, hg, hnc, hcm, hcs, htake⟩
  · obtain rfl : xs = [] := List.eq_nil_of_length_eq_zero (by simpa using hown.1)
    obtain ⟨v2, w2, hr2, h22, _⟩ := run_append_own (P := P) w w.heap.size t ty e i z i.size i.bytes ht hi hz rfl rfl hzs hsz (.slice none 0 0) 0 [] (World.ownsRow_nil _ _ _ _) a m c news hl hnews h1 h63 hbytes (Nat.le_refl _)
    rw [hr] at hr2
    cases hr2
    exact .inr (World.ownsRow.lt h22 k hk).1
  · by_cases hroom : n + m ≤ cap
    · have hr2 := run_append_room (P := P) w t ty e i ht hi g n cap cur hg a m c news hl hnews h1 hroom (by rw [hl, hcs, ← Nat.add_mul]; exact Nat.mul_le_mul_right _ hroom)
      rw [hr] at hr2
      cases hr2
      exact .inl hk
    · have hr2 := run_append_grow (P := P) w t ty e i z ht hi hz ⟨g, 0, none⟩ n cap xs hown.1 (World.ownsRow.cells hown (g := g) rfl) a m c news hl hnews (by omega) (by simp only [maxLen] at h63; omega) (growslice_fits (by omega) hbytes)
      rw [hr] at hr2
      cases hr2
      simp [Value.ownBlock] at hk
      exact .inr (by omega)

/-- append onto an owned slice of integers. -/
theorem run_app (k : IntKind) (e t ty : TypeId) (i : TypeInfo) (by' : Nat) (hb8 : by' ≤ 8) (ht : P.underlying t = some (.slice e)) (hi : P.info? e = some i) (hz : i.zero = some (.int k 0)) (hs1 : i.size = 1) (hs2 : i.bytes = by')
    {B : Nat} {v : Value} {l : List Int} (hown : Own k e w B v l) {vx : Value} {news : List Int} (hsrc : Src k w vx news) (hlen : l.length + news.length ≤ 1000000) (hB : B ≤ w.heap.size) :
    ∃ v' w', (Builtin.append_ #[t, t] ty #[v, vx]).run P w = .ok v' w' ∧ Own k e w' B v' (l ++ news) ∧ Tch (fun x => v.ownBlock = some x) w w' ∧ Fr w v v' := by
  obtain ⟨ad, m, c, rfl, hm, hc⟩ | ⟨hv, hn⟩ : (∃ ad m c, vx = .slice (some ad) m c ∧ news.length = m ∧ ∀ j u, (news.map (Value.int k))[j]? = some u → w.cell? (ad.add j) = some u) ∨ vx = .slice none 0 0 ∧ news = [] := by
    rcases hsrc with ⟨rfl, a, cap, rfl, h0⟩ | ⟨b, off, cap, rfl, h⟩
    · cases a with
      | none => exact .inr ⟨by rw [h0 rfl], rfl⟩
      | some ad => exact .inl ⟨ad, 0, cap, rfl, rfl, fun j u hu => by simp at hu⟩
    · refine .inl ⟨_, _, _, rfl, rfl, fun j u hu => ?_⟩
      rw [List.getElem?_map, Option.map_eq_some_iff] at hu
      obtain ⟨x, hx, rfl⟩ := hu
      rw [Go.WideShapes.add_plain]
      exact h j x hx
  · subst hm
    obtain ⟨v', w', hr, h2, h3, h4⟩ := run_append_fr (P := P) w B t ty e i (.int k 0) 1 by' ht hi hz hs1 hs2 rfl (by decide) v l.length (l.map (Value.int k)) hown ad news.length c (news.map (Value.int k)) (by simp) hc (ints_oneCell _ _) (by unfold maxLen; omega) (Nat.le_trans (Nat.mul_le_mul hlen hb8) (by decide)) hB
    exact ⟨v', w', hr, Own.of h2 (by simp), h3, h4⟩
  · subst hv hn
    have hr := run_append_owned_none (P := P) w B t ty e i 1 ht hi v l.length (l.map (Value.int k)) hown
    exact ⟨v, w, hr, by simpa using hown, Tch.refl _ _, fun k hk => .inl hk⟩

theorem wpList_app {ops : Array Oper} {rest : List Oper} {o : Oper} {a : Act} {Q : Exit → Act → World → Prop} (hgd : o.guard = none) (s x : Operand) (k : IntKind) (e t : TypeId)
    (ho : o.op = .call { callee := .builtin .append, args := #[s, x], argTypes := #[t, t] })
    (i : TypeInfo) (by' : Nat) (hb8 : by' ≤ 8) (ht : P.underlying t = some (.slice e)) (hi : P.info? e = some i) (hz : i.zero = some (.int k 0)) (hs1 : i.size = 1) (hs2 : i.bytes = by')
    {B : Nat} {v : Value} {l : List Int} (hs : a.eval s = v) (hown : Own k e w B v l) {vx : Value} {news : List Int} (hx : a.eval x = vx) (hsrc : Src k w vx news) (hlen : l.length + news.length ≤ 1000000) (hB : B ≤ w.heap.size)
    (h : ∀ v' w', Own k e w' B v' (l ++ news) → Tch (fun x => v.ownBlock = some x) w w' → Fr w v v' → wpList P ops Q rest (a.put o.dst v') w') : wpList P ops Q (o :: rest) a w := by
  refine wpList_plain hgd fun K hK => ?_
  obtain ⟨v', w', hr, h2, h3, h4⟩ := run_app (P := P) w k e t o.type i by' hb8 ht hi hz hs1 hs2 hown hsrc hlen hB
  unfold Oper.wp execOp
  simp only [ho, resolve, invoke, builtin, Sem.run_bind, Sem.run_pure, Result.andThen_ok, List.map_toArray, List.map_cons, List.map_nil, hs, hx, hr]
  exact hK _ _ (h v' w' h2 h3 h4)

/-- The same as one step of a region that draws its order. -/
theorem step_app {ops : Array Oper} {o : Oper} {a : Act} {K : Act → World → Prop} {Q : Exit → Act → World → Prop} {E : Prop} (hgd : o.guard = none) (s x : Operand) (k : IntKind) (e t : TypeId)
    (ho : o.op = .call { callee := .builtin .append, args := #[s, x], argTypes := #[t, t] })
    (i : TypeInfo) (by' : Nat) (hb8 : by' ≤ 8) (ht : P.underlying t = some (.slice e)) (hi : P.info? e = some i) (hz : i.zero = some (.int k 0)) (hs1 : i.size = 1) (hs2 : i.bytes = by')
    {B : Nat} {v : Value} {l : List Int} (hs : a.eval s = v) (hown : Own k e w B v l) {vx : Value} {news : List Int} (hx : a.eval x = vx) (hsrc : Src k w vx news) (hlen : l.length + news.length ≤ 1000000) (hB : B ≤ w.heap.size)
    (h : ∀ v' w', Own k e w' B v' (l ++ news) → Tch (fun x => v.ownBlock = some x) w w' → Fr w v v' → K (a.put o.dst v') w') :
    if Region.wanted o (yielded ops a.tmps) = true then Oper.wp P o a w K Q else E := by
  have hw : Region.wanted o (yielded ops a.tmps) = true := by simp [Region.wanted, hgd]
  rw [if_pos hw]
  obtain ⟨v', w', hr, h2, h3, h4⟩ := run_app (P := P) w k e t o.type i by' hb8 ht hi hz hs1 hs2 hown hsrc hlen hB
  unfold Oper.wp execOp
  simp only [ho, resolve, invoke, builtin, Sem.run_bind, Sem.run_pure, Result.andThen_ok, List.map_toArray, List.map_cons, List.map_nil, hs, hx, hr]
  exact h v' w' h2 h3 h4
end
end Go.Proofs.Ybulkaxc.M2
