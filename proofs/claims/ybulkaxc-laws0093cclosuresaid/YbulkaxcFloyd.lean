/-
  WARSHALL's CLOSURE, PLAIN; what the law asks of the components. No Go in sight.
-/
import Derived.Test.YbulkaxcTarjan
namespace Go.Proofs.Ybulkaxc.Tj
set_option linter.unusedVariables false

/-- i leads to j in one or more steps, through nodes below k. -/
def Pk (E : Nat → Nat → Prop) : Nat → Nat → Nat → Prop
  | 0, i, j => E i j
  | k + 1, i, j => Pk E k i j ∨ (Pk E k i k ∧ Pk E k k j)
section
variable {E : Nat → Nat → Prop}
theorem Pk.up {k i j : Nat} (h : Pk E k i j) : Pk E (k + 1) i j := .inl h
theorem Pk.mono {k i j : Nat} (h : Pk E k i j) (n : Nat) : Pk E (k + n) i j := by
  induction n with
  | zero => exact h
  | succ n ih => exact ih.up
/-- A row that is its own middle does not turn. -/
theorem Pk.own {k j : Nat} : Pk E (k + 1) k j ↔ Pk E k k j := ⟨fun h => h.elim id (fun h => h.2), Pk.up⟩
theorem Pk.own' {k i : Nat} : Pk E (k + 1) i k ↔ Pk E k i k := ⟨fun h => h.elim id (fun h => h.1), Pk.up⟩
theorem Pk.trans : ∀ {k i m j : Nat}, m < k → Pk E k i m → Pk E k m j → Pk E k i j
  | 0, _, _, _, hm, _, _ => by omega
  | k + 1, i, m, j, hm, h1, h2 => by
    by_cases e : m = k
    · subst e
      exact .inr ⟨Pk.own'.1 h1, Pk.own.1 h2⟩
    · have hm' : m < k := by omega
      rcases h1 with h1 | ⟨h1, h1'⟩
      · rcases h2 with h2 | ⟨h2, h2'⟩
        · exact .inl (Pk.trans hm' h1 h2)
        · exact .inr ⟨Pk.trans hm' h1 h2, h2'⟩
      · rcases h2 with h2 | ⟨h2, h2'⟩
        · exact .inr ⟨h1, Pk.trans hm' h1' h2⟩
        · exact .inr ⟨h1, h2'⟩
/-- In one or more steps. -/
def Plus (E : Nat → Nat → Prop) (i j : Nat) : Prop := ∃ c, E i c ∧ Reach E c j
theorem Plus.reach {i j : Nat} (h : Plus E i j) : Reach E i j := by
  obtain ⟨c, h1, h2⟩ := h
  exact (Reach.one h1).trans h2
theorem Plus.trans {i j k : Nat} (h : Plus E i j) (h' : Plus E j k) : Plus E i k := by
  obtain ⟨c, h1, h2⟩ := h
  exact ⟨c, h1, h2.trans h'.reach⟩
theorem Pk.plus : ∀ {k i j : Nat}, Pk E k i j → Plus E i j
  | 0, i, j, h => ⟨j, h, Reach.refl _⟩
  | k + 1, i, j, h => by
    rcases h with h | ⟨h1, h2⟩
    · exact Pk.plus h
    · exact (Pk.plus h1).trans (Pk.plus h2)
theorem pk_iff {N : Nat} (hE : ∀ a b, E a b → a < N ∧ b < N) (i j : Nat) : Pk E N i j ↔ Plus E i j := by
  constructor
  · exact Pk.plus
  rintro ⟨c, h1, h2⟩
  have up0 : ∀ a b, E a b → Pk E N a b := fun a b h => by have := Pk.mono (E := E) (k := 0) (i := a) (j := b) h N; rwa [Nat.zero_add] at this
  exact h2 (fun j => Pk E N i j) (fun x y hx e => Pk.trans (hE _ _ e).1 hx (up0 _ _ e)) (up0 i _ h1)
theorem Reach.plus_of_ne {i j : Nat} (h : Reach E i j) (hn : i ≠ j) : Plus E i j := (h.head).resolve_left hn

/-- What the law asks of the components: the closure of the part. -/
theorem closure_iff {s : St} (h : Inv E s) (hp : s.path = []) {nn : Nat} (pt : Nat → Prop) (hr' : ∀ x, x < nn → 0 < s.idx x) (u : Nat) (hu : u < nn) :
    (s.cyc u ∧ ∃ v, v < nn ∧ pt v ∧ s.cyc v ∧ s.comp v = s.comp u) ↔ (Plus E u u ∧ ∃ v, v < nn ∧ pt v ∧ Plus E v v ∧ (v = u ∨ (Plus E u v ∧ Plus E v u))) := by
  have hs := h.fin hp
  have hn : ∀ x, x ∉ s.stk := fun x hm => by rw [hs] at hm; simp at hm
  have hc : ∀ x, x < nn → (s.cyc x ↔ Plus E x x) := fun x hx => h.cy x (hr' x hx) (hn x)
  rw [hc u hu]
  refine and_congr_right fun hpu => exists_congr fun v => ?_
  constructor
  · rintro ⟨h1, h2, h3, h4⟩
    have h5 := (h.c1 v u (hr' v h1) (hn v) (hr' u hu) (hn u)).1 h4
    refine ⟨h1, h2, (hc v h1).1 h3, ?_⟩
    by_cases e : v = u
    · exact .inl e
    · exact .inr ⟨h5.2.plus_of_ne (fun e2 => e e2.symm), h5.1.plus_of_ne e⟩
  · rintro ⟨h1, h2, h3, h4⟩
    refine ⟨h1, h2, (hc v h1).2 h3, (h.c1 v u (hr' v h1) (hn v) (hr' u hu) (hn u)).2 ?_⟩
    rcases h4 with rfl | ⟨h4, h5⟩
    · exact ⟨Reach.refl _, Reach.refl _⟩
    · exact ⟨h5.reach, h4.reach⟩
end
end Go.Proofs.Ybulkaxc.Tj
