/-
  TARJAN's WALK, PLAIN: strongly connected components by one depth-first walk. No Go in sight.
-/
namespace Go.Proofs.Ybulkaxc.Tj
set_option linter.unusedVariables false

/-- a leads to b along arcs, in no or more steps: each set that no arc leaves, with a in it, holds b. -/
def Reach (E : Nat → Nat → Prop) (a b : Nat) : Prop := ∀ S : Nat → Prop, (∀ x y, S x → E x y → S y) → S a → S b
theorem Reach.refl {E : Nat → Nat → Prop} (a : Nat) : Reach E a a := fun S _ h => h
theorem Reach.tail {E : Nat → Nat → Prop} {a b c : Nat} (h : Reach E a b) (e : E b c) : Reach E a c := fun S hS ha => hS b c (h S hS ha) e
theorem Reach.trans {E : Nat → Nat → Prop} {a b c : Nat} (h : Reach E a b) (k : Reach E b c) : Reach E a c := fun S hS ha => k S hS (h S hS ha)
theorem Reach.one {E : Nat → Nat → Prop} {a b : Nat} (h : E a b) : Reach E a b := (Reach.refl a).tail h
/-- A set that no arc leaves holds all that it leads to. -/
theorem Reach.closed {E : Nat → Nat → Prop} {S : Nat → Prop} (hS : ∀ a b, S a → E a b → S b) {a b : Nat} (h : Reach E a b) (ha : S a) : S b := h S hS ha
theorem Reach.head {E : Nat → Nat → Prop} {a b : Nat} (h : Reach E a b) : a = b ∨ ∃ c, E a c ∧ Reach E c b := by
  refine h (fun b => a = b ∨ ∃ c, E a c ∧ Reach E c b) (fun x y hx e => ?_) (.inl rfl)
  rcases hx with rfl | ⟨c, h1, h2⟩
  · exact .inr ⟨_, e, Reach.refl _⟩
  · exact .inr ⟨c, h1, h2.tail e⟩
/-- On a cycle. -/
def Cyc (E : Nat → Nat → Prop) (x : Nat) : Prop := ∃ y, E x y ∧ Reach E y x

structure St where
  idx : Nat → Nat
  low : Nat → Nat
  comp : Nat → Nat
  cyc : Nat → Prop
  stk : List Nat
  path : List Nat
  done : Nat → Nat → Prop
  reached : Nat
  comps : Nat

structure Inv (E : Nat → Nat → Prop) (s : St) : Prop where
  srt : s.stk.Pairwise (fun a b => s.idx a < s.idx b)
  pos : ∀ x ∈ s.stk, 0 < s.idx x
  le : ∀ x, s.idx x ≤ s.reached
  inj : ∀ x y, 0 < s.idx x → s.idx x = s.idx y → x = y
  psrt : s.path.Pairwise (fun a b => s.idx a < s.idx b)
  sub : ∀ p ∈ s.path, p ∈ s.stk
  i3 : ∀ x ∈ s.stk, ∀ y ∈ s.stk, s.idx x ≤ s.idx y → Reach E x y
  i4 : ∀ y ∈ s.stk, ∃ p ∈ s.path, s.idx p ≤ s.idx y ∧ Reach E y p
  i5 : ∀ x, 0 < s.idx x → x ∉ s.stk → ∀ y, E x y → 0 < s.idx y ∧ y ∉ s.stk
  i6 : ∀ x ∈ s.stk, x ∉ s.path → ∀ y, E x y → s.done x y
  dn : ∀ x y, s.done x y → E x y ∧ 0 < s.idx y
  l1 : ∀ p ∈ s.path, s.low p ≤ s.idx p ∧ ∃ y ∈ s.stk, s.idx y = s.low p ∧ Reach E p y
  l2 : ∀ x ∈ s.stk, ∀ y ∈ s.stk, s.done x y → ∀ p ∈ s.path, s.idx p ≤ s.idx x → (∀ p' ∈ s.path, s.idx p' ≤ s.idx x → s.idx p' ≤ s.idx p) → s.low p ≤ s.idx y
  c1 : ∀ x y, 0 < s.idx x → x ∉ s.stk → 0 < s.idx y → y ∉ s.stk → (s.comp x = s.comp y ↔ Reach E x y ∧ Reach E y x)
  c2 : ∀ x, 0 < s.idx x → x ∉ s.stk → s.comp x < s.comps
  cy : ∀ x, 0 < s.idx x → x ∉ s.stk → (s.cyc x ↔ Cyc E x)
  cs : ∀ x ∈ s.stk, s.cyc x ↔ s.done x x
  cw : ∀ x, s.idx x = 0 → ¬ s.cyc x
  dw : ∀ x y, s.done x y → 0 < s.idx x

def upd {α : Type} (f : Nat → α) (a : Nat) (v : α) : Nat → α := fun x => if x = a then v else f x
theorem upd_same {α : Type} (f : Nat → α) (a : Nat) (v : α) : upd f a v a = v := if_pos rfl
theorem upd_ne {α : Type} (f : Nat → α) {a x : Nat} (v : α) (h : x ≠ a) : upd f a v x = f x := if_neg h

/-- Nothing has been reached. -/
def init : St := ⟨fun _ => 0, fun _ => 0, fun _ => 0, fun _ => False, [], [], fun _ _ => False, 0, 0⟩
theorem Inv.init (E : Nat → Nat → Prop) : Inv E init := by
  refine ⟨List.Pairwise.nil, ?_, fun _ => Nat.le_refl _, ?_, List.Pairwise.nil, ?_, ?_, ?_, ?_, ?_, ?_, ?_, ?_, ?_, ?_, ?_, ?_, ?_, ?_⟩ <;> simp [Tj.init]

section
variable {E : Nat → Nat → Prop} {s : St}

/-- A node is reached: as a root, or along an arc from the last of the path. -/
def visit (s : St) (q : Nat) : St := { s with idx := upd s.idx q (s.reached + 1), low := upd s.low q (s.reached + 1), stk := s.stk ++ [q], path := s.path ++ [q], reached := s.reached + 1 }
theorem Inv.last {pre : List Nat} {p : Nat} (h : Inv E s) (hp : s.path = pre ++ [p]) : ∀ p' ∈ s.path, s.idx p' ≤ s.idx p := by
  intro p' hm
  have hs := h.psrt
  rw [hp] at hm hs
  rcases List.mem_append.1 hm with h1 | h1
  · exact Nat.le_of_lt ((List.pairwise_append.1 hs).2.2 p' h1 p (by simp))
  · have : p' = p := by simpa using h1
    rw [this]; exact Nat.le_refl _
theorem Inv.visit {q : Nat} (h : Inv E s) (hq : s.idx q = 0) (hfrom : s.path = [] ∨ ∃ pre p, s.path = pre ++ [p] ∧ E p q) : Inv E (Tj.visit s q) := by
  have hqs : q ∉ s.stk := fun hm => by have := h.pos q hm; omega
  have hqp : q ∉ s.path := fun hm => hqs (h.sub q hm)
  have hne : ∀ x ∈ s.stk, x ≠ q := fun x hx e => hqs (e ▸ hx)
  have hi : ∀ x ∈ s.stk, upd s.idx q (s.reached + 1) x = s.idx x := fun x hx => upd_ne _ _ (hne x hx)
  have hself : upd s.idx q (s.reached + 1) q = s.reached + 1 := upd_same _ _ _
  have hsp : ∀ x ∈ s.path, x ∈ s.stk := h.sub
  -- all on the stack lead to q
  have hto : ∀ x ∈ s.stk, Reach E x q := by
    intro x hx
    rcases hfrom with he | ⟨pre, p, hp, hE⟩
    · obtain ⟨p, hp, _⟩ := h.i4 x hx
      rw [he] at hp; simp at hp
    · have hps : p ∈ s.stk := h.sub p (by rw [hp]; simp)
      obtain ⟨p', hp', h1, h2⟩ := h.i4 x hx
      exact (h2.trans (h.i3 p' (h.sub p' hp') p hps (h.last hp p' hp'))).tail hE
  have hblk : ∀ x, 0 < upd s.idx q (s.reached + 1) x → x ∉ s.stk ++ [q] → x ≠ q ∧ 0 < s.idx x ∧ x ∉ s.stk := by
    intro x h1 h2
    have hxq : x ≠ q := fun e => h2 (by simp [e])
    rw [upd_ne _ _ hxq] at h1
    exact ⟨hxq, h1, fun hm => h2 (by simp [hm])⟩
  constructor
  · show (s.stk ++ [q]).Pairwise _
    rw [List.pairwise_append]
    refine ⟨h.srt.imp_of_mem (fun ha hb hab => by show upd _ _ _ _ < upd _ _ _ _; rw [hi _ ha, hi _ hb]; exact hab), List.pairwise_singleton _ _, fun a ha b hb => ?_⟩
    have : b = q := by simpa using hb
    subst this
    show upd _ _ _ a < upd _ _ _ b
    rw [hi a ha, hself]
    have := h.le a; omega
  · intro x hx
    rcases List.mem_append.1 hx with h1 | h1
    · show 0 < upd _ _ _ x
      rw [hi x h1]; exact h.pos x h1
    · have : x = q := by simpa using h1
      subst this
      show 0 < upd _ _ _ x
      rw [hself]; omega
  · intro x
    show upd _ _ _ x ≤ s.reached + 1
    by_cases e : x = q
    · rw [e, hself]; exact Nat.le_refl _
    · rw [upd_ne _ _ e]; have := h.le x; omega
  · intro x y hx hxy
    have hx' : 0 < upd s.idx q (s.reached + 1) x := hx
    have hxy' : upd s.idx q (s.reached + 1) x = upd s.idx q (s.reached + 1) y := hxy
    by_cases e1 : x = q
    · by_cases e2 : y = q
      · rw [e1, e2]
      · rw [e1, hself, upd_ne _ _ e2] at hxy'
        have := h.le y; omega
    · rw [upd_ne _ _ e1] at hx' hxy'
      by_cases e2 : y = q
      · rw [e2, hself] at hxy'
        have := h.le x; omega
      · rw [upd_ne _ _ e2] at hxy'
        exact h.inj x y hx' hxy'
  · show (s.path ++ [q]).Pairwise _
    rw [List.pairwise_append]
    refine ⟨h.psrt.imp_of_mem (fun ha hb hab => by show upd _ _ _ _ < upd _ _ _ _; rw [hi _ (hsp _ ha), hi _ (hsp _ hb)]; exact hab), List.pairwise_singleton _ _, fun a ha b hb => ?_⟩
    have : b = q := by simpa using hb
    subst this
    show upd _ _ _ a < upd _ _ _ b
    rw [hi a (hsp a ha), hself]
    have := h.le a; omega
  · intro p hp
    rcases List.mem_append.1 hp with h1 | h1
    · exact List.mem_append_left _ (h.sub p h1)
    · exact List.mem_append_right _ h1
  · intro x hx y hy hxy
    have hxy' : upd s.idx q (s.reached + 1) x ≤ upd s.idx q (s.reached + 1) y := hxy
    rcases List.mem_append.1 hx with h1 | h1
    · rcases List.mem_append.1 hy with h2 | h2
      · rw [hi x h1, hi y h2] at hxy'
        exact h.i3 x h1 y h2 hxy'
      · have : y = q := by simpa using h2
        subst this
        exact hto x h1
    · have e : x = q := by simpa using h1
      subst e
      rcases List.mem_append.1 hy with h2 | h2
      · rw [hself, hi y h2] at hxy'
        have := h.le y; omega
      · have e : y = x := by simpa using h2
        rw [e]; exact Reach.refl _
  · intro y hy
    rcases List.mem_append.1 hy with h1 | h1
    · obtain ⟨p, hp, h2, h3⟩ := h.i4 y h1
      refine ⟨p, List.mem_append_left _ hp, ?_, h3⟩
      show upd _ _ _ p ≤ upd _ _ _ y
      rw [hi p (hsp p hp), hi y h1]; exact h2
    · have e : y = q := by simpa using h1
      subst e
      exact ⟨y, List.mem_append_right _ (by simp), Nat.le_refl _, Reach.refl _⟩
  · intro x hx hn y hE
    obtain ⟨hxq, h1, h2⟩ := hblk x hx hn
    obtain ⟨h3, h4⟩ := h.i5 x h1 h2 y hE
    have hyq : y ≠ q := fun e => by rw [e, hq] at h3; omega
    refine ⟨?_, fun hm => ?_⟩
    · show 0 < upd _ _ _ y
      rw [upd_ne _ _ hyq]; exact h3
    · rcases List.mem_append.1 hm with h5 | h5
      · exact h4 h5
      · exact hyq (by simpa using h5)
  · intro x hx hn y hE
    rcases List.mem_append.1 hx with h1 | h1
    · exact h.i6 x h1 (fun hm => hn (List.mem_append_left _ hm)) y hE
    · exact absurd (List.mem_append_right _ h1) hn
  · intro x y hd
    obtain ⟨h1, h2⟩ := h.dn x y hd
    refine ⟨h1, ?_⟩
    show 0 < upd _ _ _ y
    by_cases e : y = q
    · rw [e, hself]; omega
    · rw [upd_ne _ _ e]; exact h2
  · intro p hp
    show upd _ _ _ p ≤ upd _ _ _ p ∧ ∃ y ∈ s.stk ++ [q], upd _ _ _ y = upd _ _ _ p ∧ _
    rcases List.mem_append.1 hp with h1 | h1
    · have hpq := hne p (hsp p h1)
      obtain ⟨h2, y, h3, h4, h5⟩ := h.l1 p h1
      rw [upd_ne _ _ hpq, upd_ne _ _ hpq]
      exact ⟨h2, y, List.mem_append_left _ h3, by rw [hi y h3]; exact h4, h5⟩
    · have e : p = q := by simpa using h1
      subst e
      rw [upd_same, upd_same]
      exact ⟨Nat.le_refl _, p, List.mem_append_right _ (by simp), by rw [upd_same], Reach.refl _⟩
  · intro x hx y hy hd p hp hpx hmax
    have hxs : x ∈ s.stk := by
      rcases List.mem_append.1 hx with h1 | h1
      · exact h1
      · have e : x = q := by simpa using h1
        have := h.dw x y hd
        rw [e, hq] at this; omega
    have hys : y ∈ s.stk := by
      rcases List.mem_append.1 hy with h1 | h1
      · exact h1
      · have e : y = q := by simpa using h1
        have := (h.dn x y hd).2
        rw [e, hq] at this; omega
    have hpx' : upd s.idx q (s.reached + 1) p ≤ upd s.idx q (s.reached + 1) x := hpx
    have hps : p ∈ s.path := by
      rcases List.mem_append.1 hp with h1 | h1
      · exact h1
      · have e : p = q := by simpa using h1
        rw [e, hself, hi x hxs] at hpx'
        have := h.le x; omega
    show upd _ _ _ p ≤ upd _ _ _ y
    rw [upd_ne _ _ (hne p (hsp p hps)), hi y hys]
    rw [hi p (hsp p hps), hi x hxs] at hpx'
    refine h.l2 x hxs y hys hd p hps hpx' (fun p' hp' hle => ?_)
    have := hmax p' (List.mem_append_left _ hp') (by show upd _ _ _ p' ≤ upd _ _ _ x; rw [hi p' (hsp p' hp'), hi x hxs]; exact hle)
    have this' : upd s.idx q (s.reached + 1) p' ≤ upd s.idx q (s.reached + 1) p := this
    rw [hi p' (hsp p' hp'), hi p (hsp p hps)] at this'
    exact this'
  · intro x y hx hxn hy hyn
    obtain ⟨a1, a2, a3⟩ := hblk x hx hxn
    obtain ⟨b1, b2, b3⟩ := hblk y hy hyn
    exact h.c1 x y a2 a3 b2 b3
  · intro x hx hxn
    obtain ⟨a1, a2, a3⟩ := hblk x hx hxn
    exact h.c2 x a2 a3
  · intro x hx hxn
    obtain ⟨a1, a2, a3⟩ := hblk x hx hxn
    exact h.cy x a2 a3
  · intro x hx
    rcases List.mem_append.1 hx with h1 | h1
    · exact h.cs x h1
    · have e : x = q := by simpa using h1
      subst e
      exact ⟨fun hc => absurd hc (h.cw x hq), fun hd => by have := h.dw x x hd; omega⟩
  · intro x hx
    have hx' : upd s.idx q (s.reached + 1) x = 0 := hx
    by_cases e : x = q
    · rw [e, hself] at hx'; omega
    · rw [upd_ne _ _ e] at hx'; exact h.cw x hx'
  · intro x y hd
    show 0 < upd _ _ _ x
    by_cases e : x = q
    · rw [e, hself]; omega
    · rw [upd_ne _ _ e]; exact h.dw x y hd

/-- An arc has been looked at. -/
def mark (s : St) (p q : Nat) : St := { s with done := fun x y => s.done x y ∨ (x = p ∧ y = q), cyc := fun x => s.cyc x ∨ (x = p ∧ q = p) }
theorem Inv.owner {pre : List Nat} {p : Nat} (h : Inv E s) (hp : p ∈ s.path) {p' : Nat} (hp' : p' ∈ s.path) (h1 : s.idx p' ≤ s.idx p) (h2 : s.idx p ≤ s.idx p') : p' = p :=
  h.inj p' p (h.pos p' (h.sub p' hp')) (by omega)
theorem Inv.mark {p q : Nat} (h : Inv E s) (hp : p ∈ s.path) (hE : E p q) (hq : 0 < s.idx q) (hl : q ∈ s.stk → s.low p ≤ s.idx q) : Inv E (Tj.mark s p q) := by
  have hps := h.sub p hp
  refine ⟨h.srt, h.pos, h.le, h.inj, h.psrt, h.sub, h.i3, h.i4, h.i5, fun x hx hn y hy => .inl (h.i6 x hx hn y hy), ?_, h.l1, ?_, h.c1, h.c2, ?_, ?_, ?_, ?_⟩
  · rintro x y (hd | ⟨rfl, rfl⟩)
    · exact h.dn x y hd
    · exact ⟨hE, hq⟩
  · rintro x hx y hy (hd | ⟨rfl, rfl⟩) p' hp' hle hmax
    · exact h.l2 x hx y hy hd p' hp' hle hmax
    · have e : p' = x := h.inj p' x (h.pos p' (h.sub p' hp')) (Nat.le_antisymm hle (hmax x hp (Nat.le_refl _)))
      rw [e]; exact hl hy
  · intro x hx hn
    have hxp : x ≠ p := fun e => hn (e ▸ hps)
    show (s.cyc x ∨ (x = p ∧ q = p)) ↔ _
    rw [← h.cy x hx hn]
    exact ⟨fun h1 => h1.resolve_right (fun h2 => hxp h2.1), .inl⟩
  · intro x hx
    show (s.cyc x ∨ (x = p ∧ q = p)) ↔ (s.done x x ∨ (x = p ∧ x = q))
    rw [h.cs x hx]
    constructor
    · rintro (h1 | ⟨rfl, h2⟩)
      · exact .inl h1
      · exact .inr ⟨rfl, h2.symm⟩
    · rintro (h1 | ⟨rfl, h2⟩)
      · exact .inl h1
      · exact .inr ⟨rfl, h2.symm⟩
  · rintro x hx (h1 | ⟨rfl, _⟩)
    · exact h.cw x hx h1
    · have := h.pos x hps
      have hx' : s.idx x = 0 := hx
      omega
  · rintro x y (hd | ⟨rfl, rfl⟩)
    · exact h.dw x y hd
    · exact h.pos x hps

/-- low is lowered to that of a node on the stack. -/
def lower (s : St) (p v : Nat) : St := { s with low := upd s.low p (min (s.low p) v) }
theorem lower_le (p v x : Nat) : (lower s p v).low x ≤ s.low x := by
  show upd _ _ _ x ≤ _
  by_cases e : x = p
  · rw [e, upd_same]; exact Nat.min_le_left _ _
  · rw [upd_ne _ _ e]; exact Nat.le_refl _
theorem Inv.lower {p q : Nat} (h : Inv E s) (hp : p ∈ s.path) (hq : q ∈ s.stk) (hr : Reach E p q) : Inv E (Tj.lower s p (s.idx q)) := by
  refine ⟨h.srt, h.pos, h.le, h.inj, h.psrt, h.sub, h.i3, h.i4, h.i5, h.i6, h.dn, fun p' hp' => ?_, fun x hx y hy hd p' hp' hle hmax => Nat.le_trans (lower_le p _ p') (h.l2 x hx y hy hd p' hp' hle hmax), h.c1, h.c2, h.cy, h.cs, h.cw, h.dw⟩
  obtain ⟨h1, y, h2, h3, h4⟩ := h.l1 p' hp'
  show upd _ _ _ p' ≤ _ ∧ ∃ y ∈ s.stk, s.idx y = upd _ _ _ p' ∧ _
  by_cases e : p' = p
  · subst e
    rw [upd_same]
    refine ⟨Nat.le_trans (Nat.min_le_left _ _) h1, ?_⟩
    rcases Nat.le_total (s.low p') (s.idx q) with hle | hle
    · exact ⟨y, h2, by rw [Nat.min_eq_left hle]; exact h3, h4⟩
    · exact ⟨q, hq, by rw [Nat.min_eq_right hle], hr⟩
  · rw [upd_ne _ _ e]
    exact ⟨h1, y, h2, h3, h4⟩

/-- The last of the path is left; its low goes to the one before it. -/
def leave (s : St) (pre : List Nat) (p : Nat) : St := { s with path := pre, low := match pre.getLast? with | some c => upd s.low c (min (s.low c) (s.low p)) | none => s.low }
theorem leave_le (pre : List Nat) (p x : Nat) : (leave s pre p).low x ≤ s.low x := by
  unfold leave
  dsimp only
  cases pre.getLast? with
  | some c =>
    show upd _ _ _ x ≤ _
    by_cases e : x = c
    · rw [e, upd_same]; exact Nat.min_le_left _ _
    · rw [upd_ne _ _ e]; exact Nat.le_refl _
  | none => exact Nat.le_refl _
theorem Inv.leave {pre : List Nat} {p : Nat} (h : Inv E s) (hp : s.path = pre ++ [p]) (hall : ∀ y, E p y → s.done p y) (hlow : s.low p < s.idx p) : Inv E (Tj.leave s pre p) := by
  have hpp : p ∈ s.path := by rw [hp]; simp
  have hps := h.sub p hpp
  have hpre : ∀ x ∈ pre, x ∈ s.path := fun x hx => by rw [hp]; exact List.mem_append_left _ hx
  have hlt : ∀ x ∈ pre, s.idx x < s.idx p := fun x hx => by
    have hs := h.psrt
    rw [hp] at hs
    exact (List.pairwise_append.1 hs).2.2 x hx p (by simp)
  have hor : ∀ x ∈ s.path, x ∈ pre ∨ x = p := fun x hx => by rw [hp] at hx; simpa using hx
  obtain ⟨_, y0, hy0, hy1, hy2⟩ := h.l1 p hpp
  obtain ⟨pi, hpi, hpi1, hpi2⟩ := h.i4 y0 hy0
  have hpi3 : pi ∈ pre := (hor pi hpi).resolve_right (fun e => by rw [e] at hpi1; omega)
  obtain ⟨c, hc⟩ : ∃ c, pre.getLast? = some c := by
    cases hg : pre.getLast? with
    | some c => exact ⟨c, rfl⟩
    | none => rw [List.getLast?_eq_none_iff] at hg; rw [hg] at hpi3; simp at hpi3
  have hcm : c ∈ pre := List.mem_of_getLast? hc
  have hcmax : ∀ x ∈ pre, s.idx x ≤ s.idx c := by
    intro x hx
    obtain ⟨pre', rfl⟩ := List.getLast?_eq_some_iff.1 hc
    have hs := h.psrt
    rw [hp] at hs
    have hs2 := (List.pairwise_append.1 hs).1
    rcases List.mem_append.1 hx with h1 | h1
    · exact Nat.le_of_lt ((List.pairwise_append.1 hs2).2.2 x h1 c (by simp))
    · have : x = c := by simpa using h1
      rw [this]; exact Nat.le_refl _
  have hlc : (Tj.leave s pre p).low = upd s.low c (min (s.low c) (s.low p)) := by unfold Tj.leave; dsimp only; rw [hc]
  refine ⟨h.srt, h.pos, h.le, h.inj, ?_, fun x hx => h.sub x (hpre x hx), h.i3, fun y hy => ?_, h.i5, fun x hx hn y hy => ?_, h.dn, fun p' hp' => ?_, fun x hx y hy hd p' hp' hle hmax => ?_, h.c1, h.c2, h.cy, h.cs, h.cw, h.dw⟩
  · have hs := h.psrt
    rw [hp] at hs
    exact (List.pairwise_append.1 hs).1
  · obtain ⟨p', h1, h2, h3⟩ := h.i4 y hy
    rcases hor p' h1 with h4 | rfl
    · exact ⟨p', h4, h2, h3⟩
    · exact ⟨pi, hpi3, by show s.idx pi ≤ s.idx y; omega, (h3.trans hy2).trans hpi2⟩
  · by_cases e : x = p
    · rw [e] at hy ⊢; exact hall y hy
    · exact h.i6 x hx (fun hm => (hor x hm).elim hn e) y hy
  · have hp'' : p' ∈ pre := hp'
    obtain ⟨h1, y, h2, h3, h4⟩ := h.l1 p' (hpre p' hp'')
    rw [hlc]
    by_cases e : p' = c
    · subst e
      rw [upd_same]
      refine ⟨Nat.le_trans (Nat.min_le_left _ _) h1, ?_⟩
      rcases Nat.le_total (s.low p') (s.low p) with hle | hle
      · exact ⟨y, h2, by rw [Nat.min_eq_left hle]; exact h3, h4⟩
      · exact ⟨y0, hy0, by rw [Nat.min_eq_right hle]; exact hy1, (h.i3 p' (h.sub p' (hpre p' hp'')) p hps (Nat.le_of_lt (hlt p' hp''))).trans hy2⟩
    · rw [upd_ne _ _ e]
      exact ⟨h1, y, h2, h3, h4⟩
  · have hp'' : p' ∈ pre := hp'
    by_cases hx2 : s.idx p ≤ s.idx x
    · have h1 := h.l2 x hx y hy hd p hpp hx2 (fun q hq hql => (hor q hq).elim (fun h3 => Nat.le_of_lt (hlt q h3)) (fun h3 => by rw [h3]; exact Nat.le_refl _))
      have hc2 := hmax c hcm (by show s.idx c ≤ s.idx x; have := hlt c hcm; omega)
      have e : p' = c := h.inj p' c (h.pos p' (h.sub p' (hpre p' hp''))) (Nat.le_antisymm (hcmax p' hp'') hc2)
      rw [hlc, e, upd_same]
      exact Nat.le_trans (Nat.min_le_right _ _) h1
    · refine Nat.le_trans (leave_le pre p p') (h.l2 x hx y hy hd p' (hpre p' hp'') hle (fun q hq hql => ?_))
      rcases hor q hq with h3 | rfl
      · exact hmax q h3 hql
      · exact absurd hql hx2

/-- The last of the path is left, and its component is closed. -/
def close (s : St) (pre a : List Nat) (p : Nat) (b : List Nat) : St :=
  { s with stk := a, path := pre, comp := fun x => if x ∈ p :: b then s.comps else s.comp x, cyc := fun x => s.cyc x ∨ (x ∈ p :: b ∧ b ≠ []), comps := s.comps + 1, low := (leave s pre p).low }
theorem Inv.close {pre a b : List Nat} {p : Nat} (h : Inv E s) (hp : s.path = pre ++ [p]) (hs : s.stk = a ++ p :: b) (hall : ∀ y, E p y → s.done p y) (hlow : s.low p = s.idx p) : Inv E (Tj.close s pre a p b) := by
  have hpp : p ∈ s.path := by rw [hp]; simp
  have hps := h.sub p hpp
  have hpre : ∀ x ∈ pre, x ∈ s.path := fun x hx => by rw [hp]; exact List.mem_append_left _ hx
  have hps2 := h.psrt
  rw [hp] at hps2
  have hlt : ∀ x ∈ pre, s.idx x < s.idx p := fun x hx => (List.pairwise_append.1 hps2).2.2 x hx p (by simp)
  have hor : ∀ x ∈ s.path, x ∈ pre ∨ x = p := fun x hx => by rw [hp] at hx; simpa using hx
  have hpm : ∀ x ∈ s.path, s.idx x ≤ s.idx p := h.last hp
  have hsrt := h.srt
  rw [hs] at hsrt
  have sa : a.Pairwise (fun a b => s.idx a < s.idx b) := (List.pairwise_append.1 hsrt).1
  have sb := (List.pairwise_append.1 hsrt).2.1
  have sab := (List.pairwise_append.1 hsrt).2.2
  have ma : ∀ x ∈ a, x ∈ s.stk := fun x hx => by rw [hs]; exact List.mem_append_left _ hx
  have mb : ∀ x ∈ p :: b, x ∈ s.stk := fun x hx => by rw [hs]; exact List.mem_append_right _ hx
  have la : ∀ x ∈ a, s.idx x < s.idx p := fun x hx => sab x hx p (by simp)
  have lb : ∀ x ∈ p :: b, s.idx p ≤ s.idx x := fun x hx => by
    rcases List.mem_cons.1 hx with rfl | h1
    · exact Nat.le_refl _
    · exact Nat.le_of_lt ((List.pairwise_cons.1 sb).1 x h1)
  have part : ∀ x ∈ s.stk, x ∈ a ∨ x ∈ p :: b := fun x hx => by rw [hs] at hx; exact List.mem_append.1 hx
  have inA : ∀ x ∈ s.stk, s.idx x < s.idx p → x ∈ a := fun x hx hl => (part x hx).resolve_right (fun hm => by have := lb x hm; omega)
  have inB : ∀ x ∈ s.stk, s.idx p ≤ s.idx x → x ∈ p :: b := fun x hx hl => (part x hx).resolve_left (fun hm => by have := la x hm; omega)
  have disj : ∀ x ∈ p :: b, x ∉ a := fun x hx hm => by have := la x hm; have := lb x hx; omega
  have hlw : (Tj.leave s pre p).low = s.low := by
    unfold Tj.leave
    dsimp only
    cases hc : pre.getLast? with
    | none => rfl
    | some c =>
      have hcm : c ∈ pre := List.mem_of_getLast? hc
      have h1 := (h.l1 c (hpre c hcm)).1
      have h2 := hlt c hcm
      show upd _ _ _ = _
      funext x
      by_cases e : x = c
      · rw [e, upd_same, Nat.min_eq_left (by omega)]
      · rw [upd_ne _ _ e]
  -- the segment's arcs have all been looked at
  have sd : ∀ x ∈ p :: b, ∀ y, E x y → s.done x y := fun x hx y hy => by
    by_cases e : x = p
    · rw [e] at hy ⊢; exact hall y hy
    · refine h.i6 x (mb x hx) (fun hm => e ?_) y hy
      exact h.inj x p (h.pos x (mb x hx)) (Nat.le_antisymm (hpm x hm) (lb x hx))
  -- they lead into the segment, or to what is done with
  have st : ∀ x y, x ∈ p :: b → E x y → y ∈ p :: b ∨ (0 < s.idx y ∧ y ∉ s.stk) := fun x y hx hy => by
    have hd := sd x hx y hy
    have h0 := (h.dn x y hd).2
    by_cases hm : y ∈ s.stk
    · left
      refine inB y hm ?_
      rw [← hlow]
      exact h.l2 x (mb x hx) y hm hd p hpp (lb x hx) (fun p' hp' _ => hpm p' hp')
    · exact .inr ⟨h0, hm⟩
  have cl : ∀ x y, (x ∈ p :: b ∨ (0 < s.idx x ∧ x ∉ s.stk)) → E x y → (y ∈ p :: b ∨ (0 < s.idx y ∧ y ∉ s.stk)) := fun x y hx hy => by
    rcases hx with hx | ⟨h1, h2⟩
    · exact st x y hx hy
    · exact .inr (h.i5 x h1 h2 y hy)
  have bl : ∀ x y, (0 < s.idx x ∧ x ∉ s.stk) → E x y → (0 < s.idx y ∧ y ∉ s.stk) := fun x y ⟨h1, h2⟩ hy => h.i5 x h1 h2 y hy
  have tp : ∀ x ∈ p :: b, Reach E x p := fun x hx => by
    obtain ⟨p', h1, _, h3⟩ := h.i4 x (mb x hx)
    rcases Reach.closed (S := fun z => z ∈ p :: b ∨ (0 < s.idx z ∧ z ∉ s.stk)) cl h3 (.inl hx) with h4 | h4
    · have e : p' = p := h.inj p' p (h.pos p' (h.sub p' h1)) (Nat.le_antisymm (hpm p' h1) (lb p' h4))
      rw [← e]; exact h3
    · exact absurd (h.sub p' h1) h4.2
  have fp : ∀ x ∈ p :: b, Reach E p x := fun x hx => h.i3 p hps x (mb x hx) (lb x hx)
  have nb : ∀ x y, (0 < s.idx y ∧ y ∉ s.stk) → x ∈ s.stk → ¬ Reach E y x := fun x y hy hx hr => (Reach.closed (S := fun z => 0 < s.idx z ∧ z ∉ s.stk) bl hr hy).2 hx
  have bk : ∀ x, 0 < s.idx x → x ∉ a → x ∈ p :: b ∨ x ∉ s.stk := fun x h0 hn => by
    by_cases hm : x ∈ s.stk
    · exact .inl ((part x hm).resolve_left hn)
    · exact .inr hm
  have nseg : ∀ x, x ∉ s.stk → x ∉ p :: b := fun x hn hm => hn (mb x hm)
  refine ⟨sa, fun x hx => h.pos x (ma x hx), h.le, h.inj, (List.pairwise_append.1 hps2).1, fun x hx => inA x (h.sub x (hpre x hx)) (hlt x hx), fun x hx y hy => h.i3 x (ma x hx) y (ma y hy), fun y hy => ?_, fun x h0 hn y hy => ?_, fun x hx hn y hy => ?_, h.dn, fun p' hp' => ?_, fun x hx y hy hd p' hp' hle hmax => ?_, fun x y hx hxn hy hyn => ?_, fun x hx hxn => ?_, fun x hx hxn => ?_, fun x hx => ?_, fun x hx => ?_, h.dw⟩
  · obtain ⟨p', h1, h2, h3⟩ := h.i4 y (ma y hy)
    have h4 := la y hy
    exact ⟨p', (hor p' h1).resolve_right (fun e => by rw [e] at h2; omega), h2, h3⟩
  · have hx : x ∈ p :: b ∨ (0 < s.idx x ∧ x ∉ s.stk) := (bk x h0 hn).imp id (fun h1 => ⟨h0, h1⟩)
    rcases cl x y hx hy with h1 | ⟨h1, h2⟩
    · exact ⟨h.pos y (mb y h1), disj y h1⟩
    · exact ⟨h1, fun hm => h2 (ma y hm)⟩
  · refine h.i6 x (ma x hx) (fun hm => ?_) y hy
    rcases hor x hm with h1 | h1
    · exact hn h1
    · have := la x hx; rw [h1] at this; omega
  · have hp'' : p' ∈ pre := hp'
    obtain ⟨h1, y, h2, h3, h4⟩ := h.l1 p' (hpre p' hp'')
    have h5 := hlt p' hp''
    show (Tj.leave s pre p).low p' ≤ _ ∧ ∃ y ∈ a, s.idx y = (Tj.leave s pre p).low p' ∧ _
    rw [hlw]
    exact ⟨h1, y, inA y h2 (by omega), h3, h4⟩
  · show (Tj.leave s pre p).low p' ≤ s.idx y
    rw [hlw]
    refine h.l2 x (ma x hx) y (ma y hy) hd p' (hpre p' hp') hle (fun q hq hql => ?_)
    rcases hor q hq with h1 | h1
    · exact hmax q h1 hql
    · have := la x hx; rw [h1] at hql; omega
  · show (if x ∈ p :: b then s.comps else s.comp x) = (if y ∈ p :: b then s.comps else s.comp y) ↔ _
    rcases bk x hx hxn with h1 | h1
    · rw [if_pos h1]
      rcases bk y hy hyn with h2 | h2
      · rw [if_pos h2]
        exact ⟨fun _ => ⟨(tp x h1).trans (fp y h2), (tp y h2).trans (fp x h1)⟩, fun _ => rfl⟩
      · rw [if_neg (nseg y h2)]
        have h3 := h.c2 y hy h2
        exact ⟨fun e => by omega, fun e => absurd e.2 (nb x y ⟨hy, h2⟩ (mb x h1))⟩
    · rw [if_neg (nseg x h1)]
      rcases bk y hy hyn with h2 | h2
      · rw [if_pos h2]
        have h3 := h.c2 x hx h1
        exact ⟨fun e => by omega, fun e => absurd e.1 (nb y x ⟨hx, h1⟩ (mb y h2))⟩
      · rw [if_neg (nseg y h2)]
        exact h.c1 x y hx h1 hy h2
  · show (if x ∈ p :: b then s.comps else s.comp x) < s.comps + 1
    rcases bk x hx hxn with h1 | h1
    · rw [if_pos h1]; omega
    · rw [if_neg (nseg x h1)]
      have := h.c2 x hx h1; omega
  · show (s.cyc x ∨ (x ∈ p :: b ∧ b ≠ [])) ↔ _
    rcases bk x hx hxn with h1 | h1
    · rw [h.cs x (mb x h1)]
      constructor
      · rintro (hd | ⟨_, hb⟩)
        · exact ⟨x, (h.dn x x hd).1, Reach.refl _⟩
        · by_cases e : x = p
          · obtain ⟨z, hz⟩ := List.exists_mem_of_ne_nil b hb
            have hz' : z ∈ p :: b := List.mem_cons_of_mem _ hz
            have hzp : z ≠ p := fun e2 => by have := (List.pairwise_cons.1 sb).1 z hz; rw [e2] at this; omega
            rcases (fp z hz').head with h3 | ⟨c, h3, h4⟩
            · exact absurd h3.symm hzp
            · rw [e]; exact ⟨c, h3, h4.trans (tp z hz')⟩
          · rcases (tp x h1).head with h3 | ⟨c, h3, h4⟩
            · exact absurd h3 e
            · exact ⟨c, h3, h4.trans (fp x h1)⟩
      · rintro ⟨y, hy, hr⟩
        rcases st x y h1 hy with h3 | h3
        · by_cases hb : b = []
          · subst hb
            have e1 : x = p := by simpa using h1
            have e2 : y = p := by simpa using h3
            rw [e2, ← e1] at hy
            exact .inl (sd x h1 x hy)
          · exact .inr ⟨h1, hb⟩
        · exact absurd hr (nb x y h3 (mb x h1))
    · rw [← h.cy x hx h1]
      exact ⟨fun h2 => h2.resolve_right (fun h3 => nseg x h1 h3.1), .inl⟩
  · show (s.cyc x ∨ (x ∈ p :: b ∧ b ≠ [])) ↔ s.done x x
    rw [← h.cs x (ma x hx)]
    exact ⟨fun h2 => h2.resolve_right (fun h3 => disj x h3.1 hx), .inl⟩
  · rintro (h1 | ⟨h1, _⟩)
    · exact h.cw x hx h1
    · have h2 := h.pos x (mb x h1)
      have h3 : s.idx x = 0 := hx
      omega

/-- At the end. -/
theorem Inv.fin (h : Inv E s) (hp : s.path = []) : s.stk = [] := by
  cases hs : s.stk with
  | nil => rfl
  | cons x l =>
    obtain ⟨p, h1, _⟩ := h.i4 x (by rw [hs]; simp)
    rw [hp] at h1; simp at h1
end
end Go.Proofs.Ybulkaxc.Tj
