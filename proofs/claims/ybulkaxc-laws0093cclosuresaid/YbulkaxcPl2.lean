/-
  THE PLAIN LAW: reaching through even places: by relaxing, by a search forward, by a search back. No Go in sight.
-/
namespace Go.Proofs.Ybulkaxc.Pl2
set_option linter.unusedVariables false

/-- x can be reached from y along nb, through even places: every set that holds y and is closed holds x. -/
def Rn (nb : Nat → Nat → Prop) (y x : Nat) : Prop := ∀ S : Nat → Prop, S y → (∀ a b, S a → nb a b → b % 2 = 0 → S b) → S x
theorem Rn.refl (nb : Nat → Nat → Prop) (y : Nat) : Rn nb y y := fun _ h _ => h
theorem Rn.step {nb : Nat → Nat → Prop} {y a b : Nat} (h : Rn nb y a) (e : nb a b) (hb : b % 2 = 0) : Rn nb y b := fun S hy hc => hc a b (h S hy hc) e hb

abbrev fwd (A : List (Nat × Nat)) (a b : Nat) : Prop := (a, b) ∈ A
abbrev bwd (A : List (Nat × Nat)) (a b : Nat) : Prop := (b, a) ∈ A
abbrev R (A : List (Nat × Nat)) (y x : Nat) : Prop := Rn (fwd A) y x

/-- Back from x to y is forward from y to x. -/
theorem back_iff (A : List (Nat × Nat)) (x y : Nat) (hx : x % 2 = 0) (hy : y % 2 = 0) : Rn (bwd A) x y ↔ R A y x := by
  constructor
  · intro h
    refine (h (fun b => b % 2 = 0 ∧ R A b x) ⟨hx, Rn.refl _ _⟩ ?_).2
    intro a b ⟨ha, hR⟩ e hb
    refine ⟨hb, fun S hs hc => hR S (hc b a hs e ha) hc⟩
  · intro h
    refine (h (fun b => b % 2 = 0 ∧ (Rn (bwd A) x b → Rn (bwd A) x y)) ⟨hy, fun h => h⟩ ?_).2 (Rn.refl _ _)
    intro a b ⟨ha, hR⟩ e hb
    exact ⟨hb, fun h => hR (h.step e ha)⟩

/-! ### Relaxing -/
def rel1 (r : List Bool) (e : Nat × Nat) : List Bool := if r.getD e.1 false = true ∧ e.2 % 2 = 0 then r.set e.2 true else r
def pass (A : List (Nat × Nat)) (r : List Bool) : List Bool := A.foldl rel1 r
def iter (A : List (Nat × Nat)) (r : List Bool) : Nat → List Bool
  | 0 => r
  | n + 1 => pass A (iter A r n)

/-- r holds no more than r'. -/
def Le (r r' : List Bool) : Prop := r.length = r'.length ∧ ∀ p : Nat, r[p]? = some true → r'[p]? = some true
theorem Le.refl (r : List Bool) : Le r r := ⟨rfl, fun _ h => h⟩
theorem Le.trans {a b c : List Bool} (h : Le a b) (k : Le b c) : Le a c := ⟨h.1.trans k.1, fun p hp => k.2 p (h.2 p hp)⟩
theorem Le.antisymm {a b : List Bool} (h : Le a b) (k : Le b a) : a = b := by
  apply List.ext_getElem?
  intro p
  by_cases hp : p < a.length
  · have hpb : p < b.length := by rw [← h.1]; exact hp
    rw [List.getElem?_eq_getElem hp, List.getElem?_eq_getElem hpb]
    cases ha : a[p] with
    | true =>
      have := h.2 p (by rw [List.getElem?_eq_getElem hp, ha])
      rw [List.getElem?_eq_getElem hpb] at this
      rw [this]
    | false =>
      cases hb : b[p] with
      | false => rfl
      | true =>
        have := k.2 p (by rw [List.getElem?_eq_getElem hpb, hb])
        rw [List.getElem?_eq_getElem hp, ha] at this
        cases this
  · rw [List.getElem?_eq_none (by omega), List.getElem?_eq_none (by rw [← h.1]; omega)]
theorem rel1_le (r : List Bool) (e : Nat × Nat) : Le r (rel1 r e) := by
  unfold rel1
  split
  · refine ⟨by simp, fun p hp => ?_⟩
    rw [List.getElem?_set]
    split
    · rename_i h
      rw [if_pos (by rw [h]; exact (List.getElem?_eq_some_iff.1 hp).1)]
    · exact hp
  · exact Le.refl _
theorem pass_le (A : List (Nat × Nat)) : ∀ r, Le r (pass A r) := by
  induction A with
  | nil => intro r; exact Le.refl _
  | cons e A ih => intro r; exact (rel1_le r e).trans (ih (rel1 r e))
theorem pass_fix (A : List (Nat × Nat)) : ∀ r, pass A r = r → ∀ e ∈ A, rel1 r e = r := by
  induction A with
  | nil => intro r _ e he; cases he
  | cons a A ih =>
    intro r h e he
    have h1 : rel1 r a = r := by
      have h2 : Le (rel1 r a) r := by
        have h3 := pass_le A (rel1 r a)
        have h4 : pass A (rel1 r a) = r := h
        rw [h4] at h3; exact h3
      exact (Le.antisymm (rel1_le r a) h2).symm
    rcases List.mem_cons.1 he with rfl | he
    · exact h1
    · exact ih r (by have h4 : pass A (rel1 r a) = r := h; rw [h1] at h4; exact h4) e he
/-- Closed: no arc leads out. -/
def Closed (A : List (Nat × Nat)) (r : List Bool) : Prop := ∀ a b, (a, b) ∈ A → b % 2 = 0 → r[a]? = some true → b < r.length → r[b]? = some true
theorem closed_of_fix {A : List (Nat × Nat)} {r : List Bool} (h : pass A r = r) : Closed A r := by
  intro a b he hb ha hl
  have h1 := pass_fix A r h (a, b) he
  unfold rel1 at h1
  have hg : r.getD a false = true := by rw [List.getD_eq_getElem?_getD, ha]; rfl
  rw [if_pos ⟨hg, hb⟩] at h1
  rw [← h1, List.getElem?_set_self (by exact hl)]
theorem rel1_closed {A : List (Nat × Nat)} {r : List Bool} (h : Closed A r) {e : Nat × Nat} (he : e ∈ A) : rel1 r e = r := by
  unfold rel1
  split
  · rename_i hc
    obtain ⟨a, b⟩ := e
    have ha : r[a]? = some true := by
      have := hc.1
      rw [List.getD_eq_getElem?_getD] at this
      cases h1 : r[a]? with
      | none => simp [h1] at this
      | some v => simp [h1] at this; rw [this]
    by_cases hl : b < r.length
    · have := h a b he hc.2 ha hl
      apply List.ext_getElem?
      intro p
      rw [List.getElem?_set]
      split
      · rename_i h1
        have h1' : b = p := h1
        subst h1'
        rw [this]
      · rfl
    · exact List.set_eq_of_length_le (by omega)
  · rfl
theorem pass_closed {A : List (Nat × Nat)} {r : List Bool} (h : Closed A r) : pass A r = r := by
  have : ∀ B : List (Nat × Nat), (∀ e ∈ B, e ∈ A) → B.foldl rel1 r = r := by
    intro B
    induction B with
    | nil => intro _; rfl
    | cons e B ih =>
      intro hB
      rw [List.foldl_cons, rel1_closed h (hB e (by simp))]
      exact ih (fun x hx => hB x (by simp [hx]))
  exact this A (fun _ h => h)
theorem count_lt : ∀ (a b : List Bool), Le a b → a ≠ b → a.count true < b.count true
  | [], [], _, hn => absurd rfl hn
  | [], _ :: _, h, _ => by have := h.1; simp at this
  | _ :: _, [], h, _ => by have := h.1; simp at this
  | x :: a, y :: b, h, hn => by
    have ht : Le a b := ⟨by have := h.1; simpa using this, fun p hp => by have := h.2 (p + 1) (by simpa using hp); simpa using this⟩
    have h0 := h.2 0
    simp only [List.getElem?_cons_zero, Option.some.injEq] at h0
    by_cases e : a = b
    · subst e
      cases x <;> cases y <;> simp_all
    · have := count_lt a b ht e
      cases x <;> cases y <;> simp_all <;> omega
theorem iter_length (A : List (Nat × Nat)) (r : List Bool) (n : Nat) : (iter A r n).length = r.length := by
  induction n with
  | zero => rfl
  | succ n ih => rw [← ih]; exact (pass_le A (iter A r n)).1.symm
theorem iter_grows (A : List (Nat × Nat)) (r : List Bool) (h1 : 1 ≤ r.count true) (n : Nat) : Closed A (iter A r n) ∨ n + 1 ≤ (iter A r n).count true := by
  induction n with
  | zero => exact .inr h1
  | succ n ih =>
    by_cases hc : pass A (iter A r n) = iter A r n
    · left
      show Closed A (pass A (iter A r n))
      rw [hc]
      exact closed_of_fix hc
    · rcases ih with ih | ih
      · exact absurd (pass_closed ih) hc
      · right
        have := count_lt _ _ (pass_le A (iter A r n)) (fun e => hc e.symm)
        show n + 1 + 1 ≤ (pass A (iter A r n)).count true
        omega
theorem iter_closed (A : List (Nat × Nat)) (r : List Bool) (h1 : 1 ≤ r.count true) : Closed A (iter A r r.length) := by
  rcases iter_grows A r h1 r.length with h | h
  · exact h
  · have := List.count_le_length (a := true) (l := iter A r r.length)
    rw [iter_length] at this
    omega
theorem rel1_sound {A : List (Nat × Nat)} {y : Nat} {r : List Bool} (h : ∀ p, r[p]? = some true → R A y p) {e : Nat × Nat} (he : e ∈ A) : ∀ p, (rel1 r e)[p]? = some true → R A y p := by
  intro p hp
  unfold rel1 at hp
  split at hp
  · rename_i hc
    rw [List.getElem?_set] at hp
    split at hp
    · rename_i h1
      rw [← h1]
      refine (h e.1 ?_).step he hc.2
      have := hc.1
      rw [List.getD_eq_getElem?_getD] at this
      cases h2 : r[e.1]? with
      | none => simp [h2] at this
      | some v => simp [h2] at this; rw [this]
    · exact h p hp
  · exact h p hp
theorem pass_sound {A : List (Nat × Nat)} {y : Nat} {r : List Bool} (h : ∀ p, r[p]? = some true → R A y p) : ∀ p, (pass A r)[p]? = some true → R A y p := by
  have : ∀ (B : List (Nat × Nat)) (r : List Bool), (∀ e ∈ B, e ∈ A) → (∀ p, r[p]? = some true → R A y p) → ∀ p, (B.foldl rel1 r)[p]? = some true → R A y p := by
    intro B
    induction B with
    | nil => intro r _ h; exact h
    | cons e B ih => intro r hB h; exact ih (rel1 r e) (fun x hx => hB x (by simp [hx])) (rel1_sound h (hB e (by simp)))
  exact this A r (fun _ h => h) h
theorem iter_sound {A : List (Nat × Nat)} {y : Nat} {r : List Bool} (h : ∀ p, r[p]? = some true → R A y p) (n : Nat) : ∀ p, (iter A r n)[p]? = some true → R A y p := by
  induction n with
  | zero => exact h
  | succ n ih => exact pass_sound ih
theorem iter_le (A : List (Nat × Nat)) (r : List Bool) (n : Nat) : Le r (iter A r n) := by
  induction n with
  | zero => exact Le.refl _
  | succ n ih => exact ih.trans (pass_le A _)

/-- What the relaxing finds. -/
def init (P y : Nat) : List Bool := (List.replicate P false).set y true
theorem relax_iff (A : List (Nat × Nat)) (P y x : Nat) (hA : ∀ a b, (a, b) ∈ A → a < P ∧ b < P) (hy : y < P) (hx : x < P) : (iter A (init P y) P)[x]? = some true ↔ R A y x := by
  have hl : (init P y).length = P := by simp [init]
  have hi : (init P y)[y]? = some true := by unfold init; rw [List.getElem?_set_self (by simpa using hy)]
  constructor
  · refine iter_sound (fun p hp => ?_) P x
    unfold init at hp
    rw [List.getElem?_set] at hp
    split at hp
    · rename_i h; rw [← h]; exact Rn.refl _ _
    · rw [List.getElem?_replicate] at hp
      split at hp
      · cases hp
      · cases hp
  · intro h
    have hc := iter_closed A (init P y) (List.count_pos_iff.2 (List.mem_of_getElem? hi))
    rw [hl] at hc
    refine (h (fun p => p < P → (iter A (init P y) P)[p]? = some true) (fun _ => (iter_le A _ P).2 y hi) ?_) hx
    intro a b ha e hb hbl
    exact hc a b e hb (ha (hA a b e).1) (by rw [iter_length, hl]; exact hbl)

/-! ### Arcs laid by their tails -/
/-- How many of the numbers lie below f. -/
def below (fs : List Nat) (f : Nat) : Nat := fs.countP (· < f)
theorem below_zero (fs : List Nat) : below fs 0 = 0 := by simp [below]
theorem below_succ (fs : List Nat) (f : Nat) : below fs (f + 1) = below fs f + fs.count f := by
  unfold below
  induction fs with
  | nil => simp
  | cons x xs ih =>
    simp only [List.countP_cons, List.count_cons, ih]
    by_cases h1 : x < f
    · have : x < f + 1 := by omega
      have h3 : ¬ x = f := by omega
      simp [h1, this, h3]; omega
    · by_cases h2 : x = f
      · subst h2; simp; omega
      · have : ¬ x < f + 1 := by omega
        simp [h1, h2, this]
theorem below_le (fs : List Nat) (f : Nat) : below fs f ≤ fs.length := List.countP_le_length
theorem count_take_lt {fs : List Nat} {k f : Nat} (h : fs[k]? = some f) : (fs.take k).count f + 1 ≤ fs.count f := by
  have e : fs = fs.take k ++ fs.drop k := (List.take_append_drop k fs).symm
  have e2 : fs.drop k = f :: fs.drop (k + 1) := by
    obtain ⟨hk, rfl⟩ := List.getElem?_eq_some_iff.1 h
    exact (List.getElem_cons_drop hk).symm
  have e3 : fs.count f = (fs.take k).count f + (fs.drop k).count f := by
    conv => lhs; rw [e]
    rw [List.count_append]
  rw [e3, e2, List.count_cons_self]; omega
/-- The place at which the k-th number goes lies inside the row. -/
theorem place_lt {fs : List Nat} {k f : Nat} (h : fs[k]? = some f) : below fs f + (fs.take k).count f < fs.length := by
  have h1 := count_take_lt h
  have h2 := below_succ fs f
  have h3 := below_le fs (f + 1)
  omega
theorem count_snoc {fs : List Nat} {k f : Nat} (h : fs[k]? = some f) (x : Nat) : (fs.take (k + 1)).count x = (fs.take k).count x + if f = x then 1 else 0 := by
  have : fs.take (k + 1) = fs.take k ++ [f] := by rw [List.take_add_one, h]; rfl
  rw [this, List.count_append]
  by_cases e : f = x
  · simp [e]
  · simp [e]

theorem nth_occ (p : Nat) : ∀ (fs : List Nat) (r : Nat), r < fs.count p → ∃ i : Nat, fs[i]? = some p ∧ (fs.take i).count p = r
  | [], r, h => by simp at h
  | f :: fs, r, h => by
    by_cases e : f = p
    · subst e
      cases r with
      | zero => exact ⟨0, by simp, by simp⟩
      | succ r =>
        rw [List.count_cons_self] at h
        obtain ⟨i, h1, h2⟩ := nth_occ f fs r (by omega)
        exact ⟨i + 1, by simpa using h1, by rw [List.take_succ_cons, List.count_cons_self, h2]⟩
    · rw [List.count_cons_of_ne e] at h
      obtain ⟨i, h1, h2⟩ := nth_occ p fs r h
      exact ⟨i + 1, by simpa using h1, by rw [List.take_succ_cons, List.count_cons_of_ne e, h2]⟩

def fsOf (A : List (Nat × Nat)) : List Nat := A.map (·.1)
theorem fsOf_at {A : List (Nat × Nat)} {i f t : Nat} (h : A[i]? = some (f, t)) : (fsOf A)[i]? = some f := by
  unfold fsOf; rw [List.getElem?_map, h]; rfl
/-- The arcs, laid by their tails: starts and heads. -/
structure CSR (A : List (Nat × Nat)) (P : Nat) (st hd : List Int) : Prop where
  starts : ∀ q : Nat, q ≤ P → st[q]? = some ((below (fsOf A) q : Nat) : Int)
  heads : ∀ i f t : Nat, A[i]? = some (f, t) → hd[below (fsOf A) f + ((fsOf A).take i).count f]? = some (t : Int)
  len : hd.length = A.length
theorem CSR.seg_of {A : List (Nat × Nat)} {P : Nat} {st hd : List Int} (h : CSR A P st hd) {p k : Nat} (h1 : below (fsOf A) p ≤ k) (h2 : k < below (fsOf A) (p + 1)) : ∃ t : Nat, (p, t) ∈ A ∧ hd[k]? = some (t : Int) := by
  rw [below_succ] at h2
  obtain ⟨i, e1, e2⟩ := nth_occ p (fsOf A) (k - below (fsOf A) p) (by omega)
  unfold fsOf at e1
  rw [List.getElem?_map, Option.map_eq_some_iff] at e1
  obtain ⟨⟨f, t⟩, e3, e4⟩ := e1
  have e4' : f = p := e4
  subst e4'
  have := h.heads i f t e3
  rw [e2, show below (fsOf A) f + (k - below (fsOf A) f) = k by omega] at this
  exact ⟨t, List.mem_of_getElem? e3, this⟩
theorem CSR.of_arc {A : List (Nat × Nat)} {P : Nat} {st hd : List Int} (h : CSR A P st hd) {p t : Nat} (ha : (p, t) ∈ A) : ∃ k, below (fsOf A) p ≤ k ∧ k < below (fsOf A) (p + 1) ∧ hd[k]? = some (t : Int) := by
  obtain ⟨i, hi⟩ := List.getElem?_of_mem ha
  refine ⟨_, Nat.le_add_right _ _, ?_, h.heads i p t hi⟩
  have := count_take_lt (fsOf_at hi)
  rw [below_succ]; omega

/-! ### The search: marks and a stack -/
/-- mk: what is marked; stk: what is still to be looked at; done: the place at hand and the neighbours of it that have been looked at. -/
structure Dfs (nb : Nat → Nat → Prop) (y : Nat) (mk : Nat → Prop) (stk : Nat → Prop) : Prop where
  root : mk y
  sound : ∀ p, mk p → Rn nb y p
  sub : ∀ p, stk p → mk p
  closed : ∀ a b, mk a → ¬ stk a → nb a b → b % 2 = 0 → mk b
theorem Dfs.done {nb : Nat → Nat → Prop} {y : Nat} {mk stk : Nat → Prop} (h : Dfs nb y mk stk) (hs : ∀ p, ¬ stk p) (x : Nat) : mk x ↔ Rn nb y x :=
  ⟨h.sound x, fun hx => hx mk h.root (fun a b ha e hb => h.closed a b ha (hs a) e hb)⟩
end Go.Proofs.Ybulkaxc.Pl2
