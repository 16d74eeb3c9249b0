/-
  For the building of the digraph: what is appended, what came in.
-/
import Derived.Test.YbulkaxcDoorAny
namespace Go.Proofs.YbulkaxcDoor.Build
open Go Go.RowKit Go.Proofs.YbulkaxcDoor.Mem Go.Proofs.YbulkaxcDoor.Pl Go.Proofs.YbulkaxcDoor.RS Go.Proofs.YbulkaxcDoor.Dg Go.Proofs.YbulkaxcDoor.Cross
set_option linter.unusedVariables false

/-- A slice of arcs that came in: its pairs of bytes. -/
def Arcs (w : World) (a : Option Addr) (n : Nat) (xs : List (Nat × Nat)) : Prop :=
  xs.length = n ∧ ∀ (k f t : Nat), xs[k]? = some (f, t) → ∃ b off, a = some ⟨b, off, none⟩ ∧ w.cell? ⟨b, off + k * 2, none⟩ = some (.int .u8 (f : Int)) ∧ w.cell? ⟨b, off + k * 2 + 1, none⟩ = some (.int .u8 (t : Int)) ∧ f ≤ 255 ∧ t ≤ 255
theorem Arcs.keep {w w' : World} {a : Option Addr} {n : Nat} {xs : List (Nat × Nat)} (h : Arcs w a n xs) (t : Tch Non w w') : Arcs w' a n xs :=
  ⟨h.1, fun k f u hk => by
    obtain ⟨b, off, e, c1, c2, r⟩ := h.2 k f u hk
    exact ⟨b, off, e, t.cell c1 (fun h => h), t.cell c2 (fun h => h), r⟩⟩

def fsI (A : List (Nat × Nat)) : List Int := A.map (fun e => (e.1 : Int))
def tsI (A : List (Nat × Nat)) : List Int := A.map (fun e => (e.2 : Int))
theorem fsI_len (A : List (Nat × Nat)) : (fsI A).length = A.length := by simp [fsI]
theorem tsI_len (A : List (Nat × Nat)) : (tsI A).length = A.length := by simp [tsI]
theorem fsI_at {A : List (Nat × Nat)} {i f t : Nat} (h : A[i]? = some (f, t)) : (fsI A)[i]? = some (f : Int) := by simp [fsI, h]
theorem tsI_at {A : List (Nat × Nat)} {i f t : Nat} (h : A[i]? = some (f, t)) : (tsI A)[i]? = some (t : Int) := by simp [tsI, h]

/-- The arcs so far. -/
structure Acc (w0 w : World) (n N : Nat) (vf vt : Value) (A : List (Nat × Nat)) : Prop where
  f : Own .i32 21 w w0.heap.size vf (fsI A)
  t : Own .i32 21 w w0.heap.size vt (tsI A)
  sp : ∀ g, vf.ownBlock = some g → vt.ownBlock ≠ some g
  rg : ∀ a b, (a, b) ∈ A → a < 2 * n ∧ b < 2 * n
  len : A.length ≤ N
  fr : Tch Non w0 w
theorem Acc.keep {w0 w w' : World} {n N : Nat} {vf vt : Value} {A : List (Nat × Nat)} (h : Acc w0 w n N vf vt A) (t : Tch Non w w') : Acc w0 w' n N vf vt A :=
  ⟨h.f.keep t, h.t.keep t, h.sp, h.rg, h.len, h.fr.also t⟩
theorem Acc.more {w0 w : World} {n N N' : Nat} {vf vt : Value} {A : List (Nat × Nat)} (h : Acc w0 w n N vf vt A) (hN : N ≤ N') : Acc w0 w n N' vf vt A :=
  ⟨h.f, h.t, h.sp, h.rg, Nat.le_trans h.len hN, h.fr⟩
/-- The heads' row, behind the append of a tail. -/
theorem Acc.mid {w0 w W w1 : World} {n N : Nat} {vf vt : Value} {A : List (Nat × Nat)} (h : Acc w0 w n N vf vt A) (tW : Tch Non w W) (t1 : Tch (fun x => vf.ownBlock = some x) W w1) : Own .i32 21 w1 w0.heap.size vt (tsI A) :=
  (h.t.keep tW).touch t1 (fun g hg hs => h.sp g hs hg)
theorem Acc.step {w0 w W w1 W' w2 : World} {n N : Nat} {vf vt vf' vt' : Value} {A : List (Nat × Nat)} {a b : Nat} (h : Acc w0 w n N vf vt A) (tW : Tch Non w W) (h1 : Own .i32 21 w1 w0.heap.size vf' (fsI A ++ [(a : Int)])) (t1 : Tch (fun x => vf.ownBlock = some x) W w1) (f1 : Fr W vf vf') (tW' : Tch Non w1 W')
    (h2 : Own .i32 21 w2 w0.heap.size vt' (tsI A ++ [(b : Int)])) (t2 : Tch (fun x => vt.ownBlock = some x) W' w2) (f2 : Fr W' vt vt') (ha : a < 2 * n) (hb : b < 2 * n) : Acc w0 w2 n (N + 1) vf' vt' (A ++ [(a, b)]) := by
  have hne : ∀ g, vf'.ownBlock = some g → vt.ownBlock ≠ some g := fun g hg ht => by
    rcases f1 g hg with h3 | h3
    · exact h.sp g h3 ht
    · have := (h.t.lt ht).2
      have := tW.size
      omega
  refine ⟨?_, ?_, fun g hg ht => ?_, fun c d hcd => ?_, by have := h.len; simp; omega, ?_⟩
  · have e : fsI (A ++ [(a, b)]) = fsI A ++ [(a : Int)] := by simp [fsI]
    rw [e]
    exact (h1.keep tW').touch t2 (fun g hg hs => hne g hg hs)
  · have e : tsI (A ++ [(a, b)]) = tsI A ++ [(b : Int)] := by simp [tsI]
    rw [e]; exact h2
  · rcases f2 g ht with h3 | h3
    · exact hne g hg h3
    · have := (h1.lt hg).2
      have := tW'.size
      omega
  · rcases List.mem_append.1 hcd with h3 | h3
    · exact h.rg c d h3
    · have e : (c, d) = (a, b) := by simpa using h3
      cases e; exact ⟨ha, hb⟩
  · have s1 : Tch Non w0 w1 := (h.fr.also tW).trans t1 (fun x hx => .inr (h.f.lt hx).1)
    exact (s1.also tW').trans t2 (fun x hx => .inr (h.t.lt hx).1)

/-- The row of arcs. -/
def sixAt (cs : List Value) (k : Nat) : Prop := ∃ f t : Int, cs[k * 6]? = some (.int .i32 f) ∧ cs[k * 6 + 1]? = some (.int .i32 t) ∧ cs[k * 6 + 2]? = some (.int .u8 0) ∧ cs[k * 6 + 3]? = some (.int .i32 0) ∧ cs[k * 6 + 4]? = some (.int .i32 0) ∧ cs[k * 6 + 5]? = some (.int .i64 0)
def ArcB (w : World) (ga m : Nat) : Prop := ∃ cs, Blk w ga 64 cs ∧ cs.length = m * 6 ∧ ∀ k, k < m → sixAt cs k
theorem ArcB.keep {w w' : World} {ga m : Nat} (h : ArcB w ga m) (t : Tch Non w w') : ArcB w' ga m := by
  obtain ⟨cs, h1, h2⟩ := h
  exact ⟨cs, h1.keep t, h2⟩
theorem ArcB.other {w w' : World} {ga m g : Nat} (h : ArcB w ga m) (t : Tch (fun x => x = g) w w') (hn : ga ≠ g) : ArcB w' ga m := by
  obtain ⟨cs, h1, h2⟩ := h
  exact ⟨cs, h1.touch t hn, h2⟩
theorem ArcB.arcAt {w : World} {ga m k : Nat} {tag : Nat → Nat} (h : ArcB w ga m) (hk : k < m) (ht : tag ga = 0) : ArcAt w tag ga k := by
  obtain ⟨cs, h1, h2, h3⟩ := h
  obtain ⟨f, t, a0, a1, a2, a3, a4, a5⟩ := h3 k hk
  exact ⟨f, t, ⟨(h1.cell _).trans a0, ht⟩, ⟨(h1.cell _).trans a1, ht⟩, ⟨(h1.cell _).trans a2, ht⟩, ⟨(h1.cell _).trans a3, ht⟩, ⟨(h1.cell _).trans a4, ht⟩, ⟨(h1.cell _).trans a5, ht⟩⟩
theorem made_at (m i : Nat) (hi : i < m * 6) : (madeCells (Value.agg #[.int .i32 0, .int .i32 0, .int .u8 0, .int .i32 0, .int .i32 0, .int .i64 0]).cells (m * 6)).toList[i]? = some ((Value.agg #[.int .i32 0, .int .i32 0, .int .u8 0, .int .i32 0, .int .i32 0, .int .i64 0]).cells[i % 6]!) := by
  have e : (Value.agg #[.int .i32 0, .int .i32 0, .int .u8 0, .int .i32 0, .int .i32 0, .int .i64 0]).cells.size = 6 := rfl
  unfold madeCells
  rw [e]
  simp [hi]
theorem ArcB.made {w' : World} {B m g : Nat} (h : w'.ownsRow B 64 6 (.slice (some ⟨g, 0, none⟩) m m) m (madeCells (Value.agg #[.int .i32 0, .int .i32 0, .int .u8 0, .int .i32 0, .int .i32 0, .int .i64 0]).cells (m * 6)).toList) : ArcB w' g m := by
  rcases h.2 with ⟨e, _⟩ | ⟨g', cap, cur, e, _, hg, _, _, hcs, htk⟩
  · cases e
  · cases e
    have hl : cur.toList.length = m * 6 := by simpa using hcs
    have hc : cur.toList = (madeCells (Value.agg #[.int .i32 0, .int .i32 0, .int .u8 0, .int .i32 0, .int .i32 0, .int .i64 0]).cells (m * 6)).toList := by
      rw [← htk, List.take_of_length_le (by omega)]
    refine ⟨cur.toList, by unfold Blk; simpa using hg, hl, fun k hk => ⟨0, 0, ?_⟩⟩
    rw [hc]
    refine ⟨?_, ?_, ?_, ?_, ?_, ?_⟩
    · rw [made_at m (k * 6) (by omega), show k * 6 % 6 = 0 by omega]; rfl
    · rw [made_at m (k * 6 + 1) (by omega), show (k * 6 + 1) % 6 = 1 by omega]; rfl
    · rw [made_at m (k * 6 + 2) (by omega), show (k * 6 + 2) % 6 = 2 by omega]; rfl
    · rw [made_at m (k * 6 + 3) (by omega), show (k * 6 + 3) % 6 = 3 by omega]; rfl
    · rw [made_at m (k * 6 + 4) (by omega), show (k * 6 + 4) % 6 = 4 by omega]; rfl
    · rw [made_at m (k * 6 + 5) (by omega), show (k * 6 + 5) % 6 = 5 by omega]; rfl
/-- One arc is stored. -/
def put6 (w : World) (ga q : Nat) (f t : Int) : World :=
  (((((w.setCell ⟨ga, q * 6, none⟩ (.int .i32 f)).setCell ⟨ga, q * 6 + 1, none⟩ (.int .i32 t)).setCell ⟨ga, q * 6 + 2, none⟩ (.int .u8 0)).setCell ⟨ga, q * 6 + 3, none⟩ (.int .i32 0)).setCell ⟨ga, q * 6 + 4, none⟩ (.int .i32 0)).setCell ⟨ga, q * 6 + 5, none⟩ (.int .i64 0)
theorem put6_tch (w : World) (ga q : Nat) (f t : Int) : Tch (fun x => x = ga) w (put6 w ga q f t) :=
  ((((((Tch.refl (fun x => x = ga) w).setCell (p := ⟨ga, q * 6, none⟩) (.inl rfl) _).setCell (p := ⟨ga, q * 6 + 1, none⟩) (.inl rfl) _).setCell (p := ⟨ga, q * 6 + 2, none⟩) (.inl rfl) _).setCell (p := ⟨ga, q * 6 + 3, none⟩) (.inl rfl) _).setCell (p := ⟨ga, q * 6 + 4, none⟩) (.inl rfl) _).setCell (p := ⟨ga, q * 6 + 5, none⟩) (.inl rfl) _
theorem ArcB.put {w : World} {ga m q : Nat} (h : ArcB w ga m) (hq : q < m) (f t : Int) : ArcB (put6 w ga q f t) ga m := by
  obtain ⟨cs, h1, h2, h3⟩ := h
  refine ⟨_, (((((h1.set (q * 6) _).set (q * 6 + 1) _).set (q * 6 + 2) _).set (q * 6 + 3) _).set (q * 6 + 4) _).set (q * 6 + 5) _, by simpa using h2, fun k hk => ?_⟩
  by_cases e : k = q
  · subst e
    refine ⟨f, t, ?_, ?_, ?_, ?_, ?_, ?_⟩ <;> simp [List.getElem?_set, h2] <;> omega
  · obtain ⟨f', t', a0, a1, a2, a3, a4, a5⟩ := h3 k hk
    have n0 : ∀ r s : Nat, r < 6 → s < 6 → ¬ q * 6 + r = k * 6 + s := fun r s hr hs => by omega
    refine ⟨f', t', ?_, ?_, ?_, ?_, ?_, ?_⟩
    all_goals
      rw [List.getElem?_set_ne (by omega), List.getElem?_set_ne (by omega), List.getElem?_set_ne (by omega), List.getElem?_set_ne (by omega), List.getElem?_set_ne (by omega), List.getElem?_set_ne (by omega)]
      assumption
end Go.Proofs.YbulkaxcDoor.Build
