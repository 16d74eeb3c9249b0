/-
  'components' in memory against the plain walk: the relation and its steps. No Go in sight but the lists.
-/
import Derived.Test.YbulkaxcCs
import Derived.Test.YbulkaxcFloyd
import Derived.Test.YbulkaxcLay2
namespace Go.Proofs.Ybulkaxc.Cm
open Go Go.Proofs.Ybulkaxc.Tj Go.Proofs.Ybulkaxc.Pl2
set_option linter.unusedVariables false

/-- A function with the least number, where there is one. -/
theorem least_fun {α : Type} (R : α → Nat → Prop) : ∃ f : α → Nat, ∀ a, (∃ m, R a m) → R a (f a) ∧ ∀ m, R a m → f a ≤ m := by
  have h : ∀ a, ∃ k, (∃ m, R a m) → R a k ∧ ∀ m, R a m → k ≤ m := by
    intro a
    by_cases e : ∃ m, R a m
    · obtain ⟨m, hm⟩ := e
      have : ∀ N m, m ≤ N → R a m → ∃ k, R a k ∧ ∀ m, R a m → k ≤ m := by
        intro N
        induction N with
        | zero => intro m h1 h2; exact ⟨m, h2, fun k _ => by omega⟩
        | succ N ih =>
          intro m h1 h2
          by_cases e2 : ∃ k, k ≤ N ∧ R a k
          · obtain ⟨k, k1, k2⟩ := e2
            exact ih k k1 k2
          · exact ⟨m, h2, fun k hk => by
              rcases Nat.lt_or_ge k m with h3 | h3
              · exact absurd ⟨k, by omega, hk⟩ e2
              · exact h3⟩
      obtain ⟨k, k1, k2⟩ := this m m (Nat.le_refl _) hm
      exact ⟨k, fun _ => ⟨k1, k2⟩⟩
    · exact ⟨0, fun h => absurd h e⟩
  exact Classical.skolem.1 h

/-- The sum of the first n. -/
def sumR (f : Nat → Nat) : Nat → Nat
  | 0 => 0
  | n + 1 => sumR f n + f n
theorem sumR_congr {f f' : Nat → Nat} : ∀ n, (∀ x, x < n → f' x = f x) → sumR f' n = sumR f n
  | 0, _ => rfl
  | n + 1, h => by
    show sumR f' n + f' n = sumR f n + f n
    rw [sumR_congr n (fun x hx => h x (by omega)), h n (by omega)]
theorem sumR_turn {f f' : Nat → Nat} {p a : Nat} (h1 : f' p + a = f p) (h2 : ∀ x, x ≠ p → f' x = f x) : ∀ n, p < n → sumR f' n + a = sumR f n
  | 0, h => by omega
  | n + 1, h => by
    show sumR f' n + f' n + a = sumR f n + f n
    by_cases e : p = n
    · subst e
      rw [sumR_congr p (fun x hx => h2 x (by omega))]; omega
    · have := sumR_turn h1 h2 n (by omega)
      rw [h2 n (fun e2 => e e2.symm)]; omega
theorem sumR_zero {f : Nat → Nat} : ∀ n, sumR f n = 0 → ∀ x, x < n → f x = 0
  | 0, _, x, hx => by omega
  | n + 1, h, x, hx => by
    have h' : sumR f n + f n = 0 := h
    by_cases e : x = n
    · rw [e]; omega
    · exact sumR_zero n (by omega) x (by omega)

/-- How many nodes are not reached; their weights; the weight of the calls. -/
def white (t : St) (n : Nat) : Nat := sumR (fun x => if t.idx x = 0 then 1 else 0) n
def wts (A : List (Nat × Nat)) (t : St) (n : Nat) : Nat := sumR (fun x => if t.idx x = 0 then (below (fsOf A) (x + 1) - below (fsOf A) x) + 1 else 0) n
def clt (A : List (Nat × Nat)) (c : List (Nat × Nat)) : Nat := (c.map (fun x => below (fsOf A) (x.1 + 1) - x.2 + 1)).sum
def ms (A : List (Nat × Nat)) (n : Nat) (t : St) (c : List (Nat × Nat)) : Nat := wts A t n + clt A c
def castP (c : List (Nat × Nat)) : List (Int × Int) := c.map (fun x => ((x.1 : Int), (x.2 : Int)))
def castN (l : List Nat) : List Int := l.map (fun x : Nat => (x : Int))
def EA (A : List (Nat × Nat)) (a b : Nat) : Prop := (a, b) ∈ A

structure Rl (A : List (Nat × Nat)) (n : Nat) (hd : List Int) (s : CV) (t : St) (c : List (Nat × Nat)) : Prop where
  inv : Inv (EA A) t
  idx : ∀ x, x < n → s.li[x]? = some ((t.idx x : Nat) : Int)
  low : ∀ x, x < n → s.ll[x]? = some ((t.low x : Nat) : Int)
  com : ∀ x, x < n → s.lm[x]? = some ((t.comp x : Nat) : Int)
  cyc : ∀ x, x < n → ∃ b : Bool, s.ly[x]? = some b ∧ (b = true ↔ t.cyc x)
  ons : ∀ x, x < n → ∃ b : Bool, s.lo[x]? = some b ∧ (b = true ↔ x ∈ t.stk)
  ni : s.li.length = n
  nl : s.ll.length = n
  nm : s.lm.length = n
  ny : s.ly.length = n
  no : s.lo.length = n
  stk : s.stk = castN t.stk
  cal : s.cal = castP c
  path : t.path = c.map Prod.fst
  nxt : ∀ x ∈ c, below (fsOf A) x.1 ≤ x.2 ∧ x.2 ≤ below (fsOf A) (x.1 + 1) ∧ ∀ j, below (fsOf A) x.1 ≤ j → j < x.2 → ∀ y : Nat, hd[j]? = some (y : Int) → t.done x.1 y
  out : ∀ x, 0 < t.idx x → x < n
  rc : s.rc = t.reached
  cnt : t.reached + white t n = n
  bst : t.comps + t.stk.length ≤ t.reached
  bpa : t.path.length ≤ t.reached
  x4 : s.x4 = s.v4
  x6 : s.x6 = s.v6

theorem upd_at {l : List Int} {n p : Nat} {f : Nat → Nat} {v : Nat} (hl : l.length = n) (h : ∀ x, x < n → l[x]? = some ((f x : Nat) : Int)) (hp : p < n) : ∀ x, x < n → (l.set p (v : Int))[x]? = some ((upd f p v x : Nat) : Int) := by
  intro x hx
  rw [set_at (by omega)]
  by_cases e : p = x
  · subst e; rw [if_pos rfl, upd_same]
  · rw [if_neg e, upd_ne _ _ (Ne.symm e)]; exact h x hx
theorem bset {l : List Bool} {n p : Nat} {P P' : Nat → Prop} {v : Bool} (hl : l.length = n) (h : ∀ x, x < n → ∃ b : Bool, l[x]? = some b ∧ (b = true ↔ P x)) (hp : p < n) (h1 : v = true ↔ P' p) (h2 : ∀ x, x ≠ p → (P' x ↔ P x)) :
    ∀ x, x < n → ∃ b : Bool, (l.set p v)[x]? = some b ∧ (b = true ↔ P' x) := by
  intro x hx
  rw [List.getElem?_set]
  by_cases e : p = x
  · subst e; exact ⟨v, by rw [if_pos rfl, if_pos (by omega)], h1⟩
  · rw [if_neg e]
    obtain ⟨b, b1, b2⟩ := h x hx
    exact ⟨b, b1, b2.trans (h2 x (Ne.symm e)).symm⟩

section
variable {A : List (Nat × Nat)} {n : Nat} {hd : List Int} {s : CV} {t : St} {c : List (Nat × Nat)}
theorem below_up (p : Nat) : below (fsOf A) p ≤ below (fsOf A) (p + 1) := below_mono _ (by omega)
theorem castN_snoc (l : List Nat) (p : Nat) : castN (l ++ [p]) = castN l ++ [(p : Int)] := by simp [castN]
theorem castP_snoc (l : List (Nat × Nat)) (p k : Nat) : castP (l ++ [(p, k)]) = castP l ++ [((p : Int), (k : Int))] := by simp [castP]
theorem castN_len (l : List Nat) : (castN l).length = l.length := by simp [castN]
theorem castP_len (l : List (Nat × Nat)) : (castP l).length = l.length := by simp [castP]

theorem Rl.visit {p : Nat} (h : Rl A n hd s t c) (hp : p < n) (hq : t.idx p = 0) (hfrom : c = [] ∨ ∃ pre q k, c = pre ++ [(q, k)] ∧ (q, p) ∈ A) (v4 v6 : Value) :
    Rl A n hd ⟨s.rc + 1, s.li.set p ((s.rc : Int) + 1), s.ll.set p ((s.rc : Int) + 1), s.lm, s.lo.set p true, s.ly, v4, v4, s.stk ++ [(p : Int)], v6, v6, s.cal ++ [((p : Int), ((below (fsOf A) p : Nat) : Int))]⟩ (Tj.visit t p) (c ++ [(p, below (fsOf A) p)]) := by
  have er : (s.rc : Int) + 1 = ((t.reached + 1 : Nat) : Int) := by rw [h.rc]; rfl
  refine ⟨h.inv.visit hq ?_, ?_, ?_, h.com, h.cyc, ?_, by simpa using h.ni, by simpa using h.nl, h.nm, h.ny, by simpa using h.no, ?_, ?_, ?_, ?_, ?_, ?_, ?_, ?_, ?_, rfl, rfl⟩
  · rcases hfrom with rfl | ⟨pre, q, k, rfl, hA⟩
    · exact .inl (by rw [h.path]; rfl)
    · exact .inr ⟨pre.map Prod.fst, q, by rw [h.path]; simp, hA⟩
  · show ∀ x, x < n → (s.li.set p ((s.rc : Int) + 1))[x]? = _
    rw [er]; exact upd_at h.ni h.idx hp
  · show ∀ x, x < n → (s.ll.set p ((s.rc : Int) + 1))[x]? = _
    rw [er]; exact upd_at h.nl h.low hp
  · refine bset h.no h.ons hp ?_ ?_
    · show true = true ↔ p ∈ t.stk ++ [p]; simp
    · intro x hx; show x ∈ t.stk ++ [p] ↔ _; simp [hx]
  · show s.stk ++ [(p : Int)] = castN (t.stk ++ [p])
    rw [castN_snoc, h.stk]
  · show s.cal ++ _ = _
    rw [castP_snoc, h.cal]
  · show t.path ++ [p] = _
    rw [h.path]; simp
  · intro x hx
    rcases List.mem_append.1 hx with h1 | h1
    · exact h.nxt x h1
    · have : x = (p, below (fsOf A) p) := by simpa using h1
      subst this
      exact ⟨Nat.le_refl _, below_up _, fun j h1 h2 => by dsimp only at h1 h2; omega⟩
  · intro x hx
    have hx' : 0 < upd t.idx p (t.reached + 1) x := hx
    by_cases e : x = p
    · rw [e]; exact hp
    · rw [upd_ne _ _ e] at hx'; exact h.out x hx'
  · show s.rc + 1 = t.reached + 1
    rw [h.rc]
  · have := sumR_turn (f := fun x => if t.idx x = 0 then 1 else 0) (f' := fun x => if upd t.idx p (t.reached + 1) x = 0 then 1 else 0) (p := p) (a := 1) (by simp only [upd_same, hq]; simp) (fun x hx => by simp only [upd_ne _ _ hx]) n hp
    have h0 := h.cnt
    show t.reached + 1 + sumR (fun x => if upd t.idx p (t.reached + 1) x = 0 then 1 else 0) n = n
    unfold white at h0
    omega
  · show t.comps + (t.stk ++ [p]).length ≤ t.reached + 1
    have := h.bst
    simp; omega
  · show (t.path ++ [p]).length ≤ t.reached + 1
    have := h.bpa
    simp; omega
theorem clt_append (a b : List (Nat × Nat)) : clt A (a ++ b) = clt A a + clt A b := by unfold clt; simp
theorem clt_cons (x : Nat × Nat) (b : List (Nat × Nat)) : clt A (x :: b) = (below (fsOf A) (x.1 + 1) - x.2 + 1) + clt A b := by unfold clt; simp
theorem ms_visit {p : Nat} (hp : p < n) (hq : t.idx p = 0) : ms A n (Tj.visit t p) (c ++ [(p, below (fsOf A) p)]) = ms A n t c := by
  unfold ms
  rw [clt_append, clt_cons]
  have := sumR_turn (f := fun x => if t.idx x = 0 then (below (fsOf A) (x + 1) - below (fsOf A) x) + 1 else 0) (f' := fun x => if upd t.idx p (t.reached + 1) x = 0 then (below (fsOf A) (x + 1) - below (fsOf A) x) + 1 else 0) (p := p) (a := (below (fsOf A) (p + 1) - below (fsOf A) p) + 1) (by simp only [upd_same, hq]; simp) (fun x hx => by simp only [upd_ne _ _ hx]) n hp
  show sumR (fun x => if upd t.idx p (t.reached + 1) x = 0 then (below (fsOf A) (x + 1) - below (fsOf A) x) + 1 else 0) n + _ = _
  unfold wts
  have e : clt A [] = 0 := rfl
  rw [e]
  dsimp only
  omega

theorem Rl.mark {pre post : List (Nat × Nat)} {p k q : Nat} (h : Rl A n hd s t c) (hc : c = pre ++ (p, k) :: post) (hA : (p, q) ∈ A) (hk : k < below (fsOf A) (p + 1)) (hhd : hd[k]? = some (q : Int)) (hq : 0 < t.idx q) (hl : q ∈ t.stk → t.low p ≤ t.idx q) (ly : List Bool) (v6 : Value)
    (hly : (q = p ∧ ly = s.ly.set p true) ∨ (q ≠ p ∧ ly = s.ly)) :
    Rl A n hd { s with ly := ly, cal := castP (pre ++ (p, k + 1) :: post), x6 := v6, v6 := v6 } (Tj.mark t p q) (pre ++ (p, k + 1) :: post) := by
  have hpp : p ∈ t.path := by rw [h.path, hc]; simp
  have hpn : p < n := h.out p (h.inv.pos p (h.inv.sub p hpp))
  refine ⟨h.inv.mark hpp hA hq hl, h.idx, h.low, h.com, ?_, h.ons, h.ni, h.nl, h.nm, ?_, h.no, h.stk, rfl, ?_, ?_, h.out, h.rc, h.cnt, h.bst, h.bpa, h.x4, rfl⟩
  · show ∀ x, x < n → ∃ b : Bool, ly[x]? = some b ∧ (b = true ↔ (t.cyc x ∨ (x = p ∧ q = p)))
    rcases hly with ⟨e, rfl⟩ | ⟨e, rfl⟩
    · refine bset h.ny h.cyc hpn ?_ ?_
      · simp [e]
      · intro x hx; simp [hx]
    · intro x hx
      obtain ⟨b, b1, b2⟩ := h.cyc x hx
      exact ⟨b, b1, by rw [b2]; simp [e]⟩
  · show ly.length = n
    rcases hly with ⟨e, rfl⟩ | ⟨e, rfl⟩
    · rw [List.length_set]; exact h.ny
    · exact h.ny
  · show t.path = _
    rw [h.path, hc]; simp
  · intro x hx
    have old : x ∈ c → below (fsOf A) x.1 ≤ x.2 ∧ x.2 ≤ below (fsOf A) (x.1 + 1) ∧ ∀ j, below (fsOf A) x.1 ≤ j → j < x.2 → ∀ y : Nat, hd[j]? = some (y : Int) → (Tj.mark t p q).done x.1 y := fun hx => by
      obtain ⟨h1, h2, h3⟩ := h.nxt x hx
      exact ⟨h1, h2, fun j j1 j2 y hy => .inl (h3 j j1 j2 y hy)⟩
    rcases List.mem_append.1 hx with h1 | h1
    · exact old (by rw [hc]; exact List.mem_append_left _ h1)
    · rcases List.mem_cons.1 h1 with rfl | h1
      · obtain ⟨h1, h2, h3⟩ := h.nxt (p, k) (by rw [hc]; simp)
        refine ⟨by show _ ≤ k + 1; exact Nat.le_succ_of_le h1, hk, fun j j1 j2 y hy => ?_⟩
        by_cases e : j = k
        · subst e
          rw [hhd] at hy
          have : q = y := by have := Option.some.inj hy; omega
          subst this
          exact .inr ⟨rfl, rfl⟩
        · have j2' : j < k + 1 := j2
          exact .inl (h3 j j1 (by show j < k; omega) y hy)
      · exact old (by rw [hc]; simp [h1])
theorem ms_mark {pre post : List (Nat × Nat)} {p k q : Nat} (hk : k < below (fsOf A) (p + 1)) : ms A n (Tj.mark t p q) (pre ++ (p, k + 1) :: post) < ms A n t (pre ++ (p, k) :: post) := by
  unfold ms
  have e : wts A (Tj.mark t p q) n = wts A t n := rfl
  rw [e, clt_append, clt_append, clt_cons, clt_cons]
  dsimp only
  omega
theorem Rl.lower {p q : Nat} (h : Rl A n hd s t c) (hp : p ∈ t.path) (hq : q ∈ t.stk) (hA : (p, q) ∈ A) : Rl A n hd { s with ll := s.ll.set p ((min (t.low p) (t.idx q) : Nat) : Int) } (Tj.lower t p (t.idx q)) c := by
  have hpn : p < n := h.out p (h.inv.pos p (h.inv.sub p hp))
  refine ⟨h.inv.lower hp hq (Reach.one hA), h.idx, upd_at h.nl h.low hpn, h.com, h.cyc, h.ons, h.ni, by show (s.ll.set _ _).length = n; rw [List.length_set]; exact h.nl, h.nm, h.ny, h.no, h.stk, h.cal, h.path, h.nxt, h.out, h.rc, h.cnt, h.bst, h.bpa, h.x4, h.x6⟩

/-- The low numbers behind the leaving of p. -/
theorem low_nil {p : Nat} (h : ∀ x, x < n → s.ll[x]? = some ((t.low x : Nat) : Int)) : ∀ x, x < n → s.ll[x]? = some (((leave t [] p).low x : Nat) : Int) := h
theorem low_snoc {p cl : Nat} {pre : List Nat} (hn : s.ll.length = n) (hc : cl < n) (h : ∀ x, x < n → s.ll[x]? = some ((t.low x : Nat) : Int)) :
    ∀ x, x < n → (s.ll.set cl ((min (t.low cl) (t.low p) : Nat) : Int))[x]? = some (((leave t (pre ++ [cl]) p).low x : Nat) : Int) := by
  have e : (leave t (pre ++ [cl]) p).low = upd t.low cl (min (t.low cl) (t.low p)) := by
    unfold leave
    simp
  rw [e]
  exact upd_at hn h hc
theorem Rl.all {p k : Nat} {pre : List (Nat × Nat)} {st : List Int} (h : Rl A n hd s t c) (hcsr : CSR A n st hd) (hc : c = pre ++ [(p, k)]) (hk : ¬ k < below (fsOf A) (p + 1)) : ∀ y, EA A p y → t.done p y := by
  intro y hy
  obtain ⟨j, j1, j2, j3⟩ := hcsr.of_arc hy
  obtain ⟨h1, h2, h3⟩ := h.nxt (p, k) (by rw [hc]; simp)
  exact h3 j j1 (by dsimp only at h2 ⊢; omega) y j3
theorem Rl.leave {p k : Nat} {pre : List (Nat × Nat)} {st : List Int} (h : Rl A n hd s t c) (hcsr : CSR A n st hd) (hc : c = pre ++ [(p, k)]) (hk : ¬ k < below (fsOf A) (p + 1)) (hlow : t.low p < t.idx p) (ll : List Int) (v6 : Value)
    (hll : ll.length = n) (hlo : ∀ x, x < n → ll[x]? = some (((Tj.leave t (pre.map Prod.fst) p).low x : Nat) : Int)) :
    Rl A n hd { s with ll := ll, cal := castP pre, x6 := v6, v6 := v6 } (Tj.leave t (pre.map Prod.fst) p) pre := by
  have hp : t.path = pre.map Prod.fst ++ [p] := by rw [h.path, hc]; simp
  refine ⟨h.inv.leave hp (h.all hcsr hc hk) hlow, h.idx, hlo, h.com, h.cyc, h.ons, h.ni, hll, h.nm, h.ny, h.no, h.stk, rfl, rfl, fun x hx => h.nxt x (by rw [hc]; simp [hx]), h.out, h.rc, h.cnt, h.bst, ?_, h.x4, rfl⟩
  have := h.bpa
  rw [hp] at this
  show (pre.map Prod.fst).length ≤ t.reached
  simp at this ⊢
  omega
theorem ms_leave {p k : Nat} {pre : List (Nat × Nat)} : ms A n (Tj.leave t (pre.map Prod.fst) p) pre < ms A n t (pre ++ [(p, k)]) := by
  unfold ms
  have e : wts A (Tj.leave t (pre.map Prod.fst) p) n = wts A t n := rfl
  rw [e, clt_append, clt_cons]
  omega
theorem ms_close {p k : Nat} {pre : List (Nat × Nat)} {a b : List Nat} : ms A n (Tj.close t (pre.map Prod.fst) a p b) pre < ms A n t (pre ++ [(p, k)]) := by
  unfold ms
  have e : wts A (Tj.close t (pre.map Prod.fst) a p b) n = wts A t n := rfl
  rw [e, clt_append, clt_cons]
  omega

/-- While the component is closed: the first j of its nodes (seg) have been written. -/
structure Cl (n : Nat) (s : CV) (t : St) (seg : List Nat) (two : Prop) (j : Nat) : Prop where
  com : ∀ x, x < n → s.lm[x]? = some (((if x ∈ seg.take j then t.comps else t.comp x : Nat)) : Int)
  cyc : ∀ x, x < n → ∃ b : Bool, s.ly[x]? = some b ∧ (b = true ↔ (t.cyc x ∨ (x ∈ seg.take j ∧ two)))
  ons : ∀ x, x < n → ∃ b : Bool, s.lo[x]? = some b ∧ (b = true ↔ (x ∈ t.stk ∧ x ∉ seg.take j))
  nm : s.lm.length = n
  ny : s.ly.length = n
  no : s.lo.length = n
theorem Cl.start {seg : List Nat} {two : Prop} (h : Rl A n hd s t c) : Cl n s t seg two 0 := by
  refine ⟨fun x hx => by simpa using h.com x hx, fun x hx => ?_, fun x hx => ?_, h.nm, h.ny, h.no⟩
  · obtain ⟨b, b1, b2⟩ := h.cyc x hx
    exact ⟨b, b1, by simpa using b2⟩
  · obtain ⟨b, b1, b2⟩ := h.ons x hx
    exact ⟨b, b1, by simpa using b2⟩
theorem mem_take_snoc {seg : List Nat} {j q x : Nat} (hq : seg[j]? = some q) : x ∈ seg.take (j + 1) ↔ x ∈ seg.take j ∨ x = q := by
  rw [List.take_add_one, hq]
  simp
theorem Cl.step {seg : List Nat} {two : Prop} {j q : Nat} {y yc : Bool} (h : Cl n s t seg two j) (hq : seg[j]? = some q) (hn : q < n) (hy : s.ly[q]? = some y) (hyc : yc = true ↔ (y = true ∨ two)) :
    Cl n { s with lm := s.lm.set q ((t.comps : Nat) : Int), lo := s.lo.set q false, ly := s.ly.set q yc } t seg two (j + 1) := by
  refine ⟨?_, ?_, ?_, by simpa using h.nm, by simpa using h.ny, by simpa using h.no⟩
  · intro x hx
    show (s.lm.set q _)[x]? = _
    rw [set_at (by rw [h.nm]; exact hn)]
    by_cases e : q = x
    · subst e; rw [if_pos rfl, if_pos ((mem_take_snoc hq).2 (.inr rfl))]
    · rw [if_neg e, h.com x hx]
      have : x ∈ seg.take (j + 1) ↔ x ∈ seg.take j := by rw [mem_take_snoc hq]; exact ⟨fun h => h.resolve_right (fun e2 => e e2.symm), .inl⟩
      by_cases e2 : x ∈ seg.take j
      · rw [if_pos e2, if_pos (this.2 e2)]
      · rw [if_neg e2, if_neg (fun h => e2 (this.1 h))]
  · refine bset h.ny h.cyc hn ?_ ?_
    · obtain ⟨b, b1, b2⟩ := h.cyc q hn
      rw [hy] at b1
      cases b1
      rw [hyc, b2]
      have : q ∈ seg.take (j + 1) := (mem_take_snoc hq).2 (.inr rfl)
      constructor
      · rintro ((h1 | h1) | h1)
        · exact .inl h1
        · exact .inr ⟨this, h1.2⟩
        · exact .inr ⟨this, h1⟩
      · rintro (h1 | h1)
        · exact .inl (.inl h1)
        · exact .inr h1.2
    · intro x hx
      rw [mem_take_snoc hq]
      simp [hx]
  · refine bset h.no h.ons hn ?_ ?_
    · constructor
      · intro h; cases h
      · intro h; exact absurd ((mem_take_snoc hq).2 (.inr rfl)) h.2
    · intro x hx
      rw [mem_take_snoc hq]
      simp [hx]
theorem Rl.close {p k : Nat} {pre : List (Nat × Nat)} {a b : List Nat} {st : List Int} {s' : CV} (h : Rl A n hd s t c) (hcsr : CSR A n st hd) (hc : c = pre ++ [(p, k)]) (hk : ¬ k < below (fsOf A) (p + 1)) (hlow : t.low p = t.idx p) (hs : t.stk = a ++ p :: b)
    (ll : List Int) (v6 v4 : Value) (hll : ll.length = n) (hlo : ∀ x, x < n → ll[x]? = some (((Tj.leave t (pre.map Prod.fst) p).low x : Nat) : Int)) (hcl : Cl n s' t (p :: b) (b ≠ []) (p :: b).length) :
    Rl A n hd ⟨s.rc, s.li, ll, s'.lm, s'.lo, s'.ly, v4, v4, castN a, v6, v6, castP pre⟩ (Tj.close t (pre.map Prod.fst) a p b) pre := by
  have hp : t.path = pre.map Prod.fst ++ [p] := by rw [h.path, hc]; simp
  have hseg : (p :: b).take (p :: b).length = p :: b := List.take_length
  have hnd : ∀ x, x ∈ a → x ∉ p :: b := by
    intro x hx hx2
    have hsrt := h.inv.srt
    rw [hs] at hsrt
    have := (List.pairwise_append.1 hsrt).2.2 x hx x hx2
    omega
  refine ⟨h.inv.close hp hs (h.all hcsr hc hk) hlow, h.idx, hlo, ?_, ?_, ?_, h.ni, hll, hcl.nm, hcl.ny, hcl.no, rfl, rfl, rfl, fun x hx => h.nxt x (by rw [hc]; simp [hx]), h.out, h.rc, h.cnt, ?_, ?_, rfl, rfl⟩
  · have := hcl.com
    rw [hseg] at this
    exact this
  · have := hcl.cyc
    rw [hseg] at this
    exact this
  · intro x hx
    obtain ⟨b', b1, b2⟩ := hcl.ons x hx
    rw [hseg, hs] at b2
    refine ⟨b', b1, b2.trans ?_⟩
    show _ ↔ x ∈ a
    constructor
    · rintro ⟨h1, h2⟩
      exact (List.mem_append.1 h1).resolve_right h2
    · intro h1
      exact ⟨List.mem_append_left _ h1, hnd x h1⟩
  · have := h.bst
    rw [hs] at this
    show t.comps + 1 + a.length ≤ t.reached
    simp at this
    omega
  · have := h.bpa
    rw [hp] at this
    show (pre.map Prod.fst).length ≤ t.reached
    simp at this ⊢
    omega
theorem Rl.fin (h : Rl A n hd s t c) (hw : ∀ x, x < n → 0 < t.idx x) : t.reached = n := by
  have : white t n = 0 := by
    have e : white t n = sumR (fun _ => 0) n := sumR_congr n (fun x hx => by rw [if_neg (by have := hw x hx; omega)])
    rw [e]
    clear e h hw
    induction n with
    | zero => rfl
    | succ n ih => exact ih
  have := h.cnt
  omega
theorem Rl.start (n : Nat) (hd : List Int) (A : List (Nat × Nat)) : Rl A n hd ⟨0, List.replicate n 0, List.replicate n 0, List.replicate n 0, List.replicate n false, List.replicate n false, .slice none 0 0, .slice none 0 0, [], .slice none 0 0, .slice none 0 0, []⟩ Tj.init [] := by
  have h0 : ∀ x, x < n → (List.replicate n (0 : Int))[x]? = some 0 := fun x hx => by rw [List.getElem?_replicate, if_pos hx]
  have h1 : ∀ x, x < n → (List.replicate n false)[x]? = some false := fun x hx => by rw [List.getElem?_replicate, if_pos hx]
  refine ⟨Inv.init _, h0, h0, h0, fun x hx => ⟨false, h1 x hx, by simp [Tj.init]⟩, fun x hx => ⟨false, h1 x hx, by simp [Tj.init]⟩, by simp, by simp, by simp, by simp, by simp, rfl, rfl, rfl, fun x hx => by simp at hx, fun x hx => by simp [Tj.init] at hx, rfl, ?_, Nat.le_refl _, Nat.le_refl _, rfl, rfl⟩
  show 0 + white Tj.init n = n
  rw [Nat.zero_add]
  clear h0 h1
  induction n with
  | zero => rfl
  | succ n ih =>
    show sumR _ n + 1 = n + 1
    have : sumR (fun x => if Tj.init.idx x = 0 then 1 else 0) n = n := ih
    rw [this]
end
end Go.Proofs.Ybulkaxc.Cm
