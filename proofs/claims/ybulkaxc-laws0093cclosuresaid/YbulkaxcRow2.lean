/-
  Rows of pairs of int32 (structs or arrays of two) that the call owns. Of no program.
-/
import Derived.Test.YbulkaxcBag
namespace Go.Proofs.Ybulkaxc.M2
open Go Go.RowKit
set_option linter.unusedVariables false

/-- The cells of a row of pairs. -/
def flat (l : List (Int × Int)) : List Value := l.flatMap (fun x => [.int .i32 x.1, .int .i32 x.2])
theorem flat_nil : flat [] = [] := rfl
theorem flat_cons (x : Int × Int) (l : List (Int × Int)) : flat (x :: l) = .int .i32 x.1 :: .int .i32 x.2 :: flat l := rfl
theorem flat_len (l : List (Int × Int)) : (flat l).length = l.length * 2 := by
  induction l with
  | nil => rfl
  | cons x l ih => rw [flat_cons, List.length_cons, List.length_cons, ih, List.length_cons]; omega
theorem flat_append (a b : List (Int × Int)) : flat (a ++ b) = flat a ++ flat b := List.flatMap_append
theorem flat_at : ∀ (l : List (Int × Int)) (i : Nat) (x : Int × Int), l[i]? = some x → (flat l)[i * 2]? = some (.int .i32 x.1) ∧ (flat l)[i * 2 + 1]? = some (.int .i32 x.2)
  | [], i, x, h => by simp at h
  | y :: l, 0, x, h => by
    have : y = x := by simpa using h
    subst this
    exact ⟨rfl, rfl⟩
  | y :: l, i + 1, x, h => by
    have h' : l[i]? = some x := by simpa using h
    have := flat_at l i x h'
    have e : (i + 1) * 2 = i * 2 + 1 + 1 := by omega
    rw [flat_cons, e, List.getElem?_cons_succ, List.getElem?_cons_succ, List.getElem?_cons_succ, List.getElem?_cons_succ]
    exact this
theorem flat_set : ∀ (l : List (Int × Int)) (i : Nat) (x : Int × Int) (y : Int), l[i]? = some x → (flat l).set (i * 2 + 1) (.int .i32 y) = flat (l.set i (x.1, y))
  | [], i, x, y, h => by simp at h
  | z :: l, 0, x, y, h => by
    have : z = x := by simpa using h
    subst this
    rfl
  | z :: l, i + 1, x, y, h => by
    have h' : l[i]? = some x := by simpa using h
    have e : (i + 1) * 2 + 1 = i * 2 + 1 + 1 + 1 := by omega
    rw [flat_cons, e, List.set_cons_succ, List.set_cons_succ, flat_set l i x y h', List.set_cons_succ, flat_cons]
theorem flat_take : ∀ (l : List (Int × Int)) (n : Nat), (flat l).take (n * 2) = flat (l.take n)
  | [], n => by simp [flat_nil]
  | y :: l, 0 => by simp [flat_nil]
  | y :: l, n + 1 => by
    have e : (n + 1) * 2 = n * 2 + 1 + 1 := by omega
    rw [flat_cons, e, List.take_succ_cons, List.take_succ_cons, flat_take l n, List.take_succ_cons, flat_cons]
theorem flat_one (l : List (Int × Int)) : ∀ u ∈ flat l, u.oneCell' = true := by
  intro u hu
  unfold flat at hu
  rw [List.mem_flatMap] at hu
  obtain ⟨x, _, h⟩ := hu
  simp at h
  rcases h with rfl | rfl <;> rfl

/-- A slice of pairs that the call owns. -/
def Own2 (e : TypeId) (w : World) (B : Nat) (v : Value) (l : List (Int × Int)) : Prop := w.ownsRow B e 2 v l.length (flat l)
section
variable {e : TypeId} {w w' : World} {B : Nat} {v : Value} {l : List (Int × Int)}
theorem Own2.touch (h : Own2 e w B v l) {S : Nat → Prop} (t : Tch S w w') (hn : ∀ g, v.ownBlock = some g → ¬ S g) : Own2 e w' B v l := ownsRow_touch h t hn
theorem Own2.keep (h : Own2 e w B v l) (t : Tch Non w w') : Own2 e w' B v l := h.touch t (fun _ _ h => h)
theorem Own2.form (h : Own2 e w B v l) : (v = .slice none 0 0 ∧ l = []) ∨ ∃ g cap, v = .slice (some ⟨g, 0, none⟩) l.length cap ∧ B ≤ g ∧ g < w.heap.size ∧ l.length ≤ cap ∧ cap ≤ maxLen := by
  rcases h.2 with ⟨hv, hn⟩ | ⟨g, cap, cur, hv, hb, hg, h1, h2, _⟩
  · exact .inl ⟨hv, List.length_eq_zero_iff.1 hn⟩
  · exact .inr ⟨g, cap, hv, hb, (Array.getElem?_eq_some_iff.1 hg).1, h1, h2⟩
theorem Own2.slice (h : Own2 e w B v l) : ∃ a n c, v = .slice a n c := by
  rcases h.form with ⟨rfl, _⟩ | ⟨g, cap, rfl, _⟩
  · exact ⟨_, _, _, rfl⟩
  · exact ⟨_, _, _, rfl⟩
theorem Own2.len {n c : Nat} {a : Option Addr} (h : Own2 e w B (.slice a n c) l) : l.length = n := by
  rcases h.form with ⟨e, rfl⟩ | ⟨g, cap, e, _⟩
  · cases e; rfl
  · cases e; rfl
theorem Own2.lt (h : Own2 e w B v l) {g : Nat} (hg : v.ownBlock = some g) : B ≤ g ∧ g < w.heap.size := World.ownsRow.lt h g hg
theorem Own2.at {g n cap : Nat} (h : Own2 e w B (.slice (some ⟨g, 0, none⟩) n cap) l) {i : Nat} {x : Int × Int} (hx : l[i]? = some x) : w.cell? ⟨g, i * 2, none⟩ = some (.int .i32 x.1) ∧ w.cell? ⟨g, i * 2 + 1, none⟩ = some (.int .i32 x.2) := by
  have hn := h.len
  subst hn
  have hi := (List.getElem?_eq_some_iff.1 hx).1
  obtain ⟨h1, h2⟩ := flat_at l i x hx
  exact ⟨(World.ownsRow.cellAt h (i * 2) (by omega)).trans h1, (World.ownsRow.cellAt h (i * 2 + 1) (by omega)).trans h2⟩
theorem Own2.frozen {g n cap : Nat} (h : Own2 e w B (.slice (some ⟨g, 0, none⟩) n cap) l) (i : Nat) : w.frozen? ⟨g, i, none⟩ = false := by
  rcases h.2 with ⟨hv, _⟩ | ⟨g', cap', cur, hv, _, hg, _⟩
  · cases hv
  · cases hv; exact frozen_of_row w g i cur e hg
theorem Own2.set {g n cap : Nat} (h : Own2 e w B (.slice (some ⟨g, 0, none⟩) n cap) l) {i : Nat} {x : Int × Int} (hx : l[i]? = some x) (y : Int) : Own2 e (w.setCell ⟨g, i * 2 + 1, none⟩ (.int .i32 y)) B (.slice (some ⟨g, 0, none⟩) n cap) (l.set i (x.1, y)) := by
  have hn := h.len
  subst hn
  have := (World.ownsRow.stored h (i * 2 + 1) (.int .i32 y)).1
  unfold Own2
  rw [List.length_set, ← flat_set l i x y hx]
  exact this
theorem Own2.nil (e : TypeId) (w : World) (B : Nat) : Own2 e w B (.slice none 0 0) [] := World.ownsRow_nil _ _ _ _
theorem Own2.mono {B' : Nat} (h : Own2 e w B v l) (hB : B' ≤ B) : Own2 e w B' v l := by
  refine ⟨h.1, ?_⟩
  rcases h.2 with hv | ⟨g, cap, cur, hv, hb, rest⟩
  · exact .inl hv
  · exact .inr ⟨g, cap, cur, hv, by omega, rest⟩
theorem Own2.cut {g m cap : Nat} (h : Own2 e w B (.slice (some ⟨g, 0, none⟩) m cap) l) (n : Nat) (hn : n ≤ l.length) : Own2 e w B (.slice (some ⟨g, 0, none⟩) n cap) (l.take n) := by
  have hl := h.len
  rcases h.2 with ⟨hv, _⟩ | ⟨g', cap', cur, hv, hb, hg, h1, h2, h3, h4⟩
  · cases hv
  · cases hv
    have e1 : (l.take n).length = n := by simp; omega
    refine ⟨by rw [flat_len], .inr ⟨g, cap, cur, by rw [e1], hb, hg, by omega, h2, h3, ?_⟩⟩
    rw [e1, ← flat_take, ← h4, List.take_take]
    congr 1
    omega
end
/-- Pairs that can be read at an address. -/
def Src2 (w : World) (ad : Addr) (news : List (Int × Int)) : Prop := ∀ j u, (flat news)[j]? = some u → w.cell? (ad.add j) = some u
theorem Src2.new (w : World) (e : TypeId) (news : List (Int × Int)) : Src2 (w.alloc (.cells (flat news).toArray e)) ⟨w.heap.size, 0, none⟩ news := by
  intro j u hu
  rw [Go.WideShapes.add_plain]
  have := (Blk.new w (flat news).toArray e).cell (0 + j)
  rw [this, Nat.zero_add]
  exact hu
theorem Src2.of_blk {w : World} {g : Nat} {e : TypeId} {news : List (Int × Int)} (h : Blk w g e (flat news)) : Src2 w ⟨g, 0, none⟩ news := by
  intro j u hu
  rw [Go.WideShapes.add_plain, h.cell, Nat.zero_add]
  exact hu
section
variable {P : Program} (w : World)
theorem run_app2 (e t ty : TypeId) (i : TypeInfo) (z : Value) (ht : P.underlying t = some (.slice e)) (hi : P.info? e = some i) (hz : i.zero = some z) (hs1 : i.size = 2) (hs2 : i.bytes = 8) (hzs : z.cells.size = 2)
    {B : Nat} {v : Value} {l : List (Int × Int)} (hown : Own2 e w B v l) {ad : Addr} {m c : Nat} {news : List (Int × Int)} (hm : news.length = m) (hsrc : Src2 w ad news) (hlen : l.length + news.length ≤ 1000000) (hB : B ≤ w.heap.size) :
    ∃ v' w', (Builtin.append_ #[t, t] ty #[v, .slice (some ad) m c]).run P w = .ok v' w' ∧ Own2 e w' B v' (l ++ news) ∧ Tch (fun x => v.ownBlock = some x) w w' ∧ Fr w v v' := by
  obtain ⟨v', w', hr, h2, h3, h4⟩ := run_append_fr (P := P) w B t ty e i z 2 8 ht hi hz hs1 hs2 hzs (by decide) v l.length (flat l) hown ad m c (flat news) (by rw [flat_len, hm]) hsrc (flat_one _) (by unfold maxLen; omega) (by omega) hB
  refine ⟨v', w', hr, ?_, h3, h4⟩
  unfold Own2
  rw [List.length_append, hm, flat_append]
  exact h2
theorem wpList_app2 {ops : Array Oper} {rest : List Oper} {o : Oper} {a : Act} {Q : Exit → Act → World → Prop} (hgd : o.guard = none) (s x : Operand) (e t : TypeId)
    (ho : o.op = .call { callee := .builtin .append, args := #[s, x], argTypes := #[t, t] })
    (i : TypeInfo) (z : Value) (ht : P.underlying t = some (.slice e)) (hi : P.info? e = some i) (hz : i.zero = some z) (hs1 : i.size = 2) (hs2 : i.bytes = 8) (hzs : z.cells.size = 2)
    {B : Nat} {v : Value} {l : List (Int × Int)} (hs : a.eval s = v) (hown : Own2 e w B v l) {ad : Addr} {m c : Nat} {news : List (Int × Int)} (hx : a.eval x = .slice (some ad) m c) (hm : news.length = m) (hsrc : Src2 w ad news) (hlen : l.length + news.length ≤ 1000000) (hB : B ≤ w.heap.size)
    (h : ∀ v' w', Own2 e w' B v' (l ++ news) → Tch (fun x => v.ownBlock = some x) w w' → Fr w v v' → wpList P ops Q rest (a.put o.dst v') w') : wpList P ops Q (o :: rest) a w := by
  refine wpList_plain hgd fun K hK => ?_
  obtain ⟨v', w', hr, h2, h3, h4⟩ := run_app2 (P := P) w e t o.type i z ht hi hz hs1 hs2 hzs hown hm hsrc hlen hB (c := c)
  unfold Oper.wp execOp
  simp only [ho, resolve, invoke, builtin, Sem.run_bind, Sem.run_pure, Result.andThen_ok, List.map_toArray, List.map_cons, List.map_nil, hs, hx, hr]
  exact hK _ _ (h v' w' h2 h3 h4)
theorem step_app2 {ops : Array Oper} {o : Oper} {a : Act} {K : Act → World → Prop} {Q : Exit → Act → World → Prop} {E : Prop} (hgd : o.guard = none) (s x : Operand) (e t : TypeId)
    (ho : o.op = .call { callee := .builtin .append, args := #[s, x], argTypes := #[t, t] })
    (i : TypeInfo) (z : Value) (ht : P.underlying t = some (.slice e)) (hi : P.info? e = some i) (hz : i.zero = some z) (hs1 : i.size = 2) (hs2 : i.bytes = 8) (hzs : z.cells.size = 2)
    {B : Nat} {v : Value} {l : List (Int × Int)} (hs : a.eval s = v) (hown : Own2 e w B v l) {ad : Addr} {m c : Nat} {news : List (Int × Int)} (hx : a.eval x = .slice (some ad) m c) (hm : news.length = m) (hsrc : Src2 w ad news) (hlen : l.length + news.length ≤ 1000000) (hB : B ≤ w.heap.size)
    (h : ∀ v' w', Own2 e w' B v' (l ++ news) → Tch (fun x => v.ownBlock = some x) w w' → Fr w v v' → K (a.put o.dst v') w') :
    if Region.wanted o (yielded ops a.tmps) = true then Oper.wp P o a w K Q else E := by
  have hw : Region.wanted o (yielded ops a.tmps) = true := by simp [Region.wanted, hgd]
  rw [if_pos hw]
  obtain ⟨v', w', hr, h2, h3, h4⟩ := run_app2 (P := P) w e t o.type i z ht hi hz hs1 hs2 hzs hown hm hsrc hlen hB (c := c)
  unfold Oper.wp execOp
  simp only [ho, resolve, invoke, builtin, Sem.run_bind, Sem.run_pure, Result.andThen_ok, List.map_toArray, List.map_cons, List.map_nil, hs, hx, hr]
  exact h v' w' h2 h3 h4
end
/-- A slice of pairs, as a thing. -/
def prT (e : TypeId) (B : Nat) (v : Value) (l : List (Int × Int)) : Thing := ⟨fun w => Own2 e w B v l, v.ownBlock⟩
theorem prT_fine (e : TypeId) (B : Nat) (v : Value) (l : List (Int × Int)) : (prT e B v l).Fine :=
  ⟨fun S w w' t hn h => h.touch t hn, fun w g hg h => (h.lt hg).2⟩
end Go.Proofs.Ybulkaxc.M2
