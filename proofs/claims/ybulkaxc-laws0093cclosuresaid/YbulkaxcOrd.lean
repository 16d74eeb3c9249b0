/-
  A LAW ON A REGION THAT DRAWS ITS ORDER: a condition on the world that holds up to one operation z (the first store). Of no program.
-/
import Derived.OrdersHeld
import Derived.RegionTactic
namespace Go.Proofs.Ybulkaxc.Ord
open Go
set_option linter.unusedVariables false
section
variable {P : Program} {md : Region.Mode} {ops : Array Oper} {Q : Exit → Act → World → Prop} {C : World → Prop} {z : Nat}

/-- Whatever comes up from here on; and C holds behind each operation that comes up ahead of number z. -/
def AnyC (P : Program) (md : Region.Mode) (ops : Array Oper) (Q : Exit → Act → World → Prop) (C : World → Prop) (z : Nat) : Nat → Array Bool → Act → World → Prop
  | 0, l, a, w => Region.ready md ops l = [] ∧ Q .normal a w
  | f + 1, l, a, w => (Region.ready md ops l = [] → Q .normal a w) ∧
    ∀ j ∈ Region.ready md ops l, wpOp P ops Q j (fun b u => (j ≠ z → l.getD z true = false → C u) ∧ AnyC P md ops Q C z f (l.setIfInBounds j true) b u) a w

theorem AnyC.any : ∀ (f : Nat) (l : Array Bool) (a : Act) (w : World), AnyC P md ops Q C z f l a w → wpAny P md ops Q f l a w
  | 0, _, _, _, h => h
  | f + 1, l, _, _, h => ⟨h.1, fun j hj => wpOp_mono (fun b u hu => AnyC.any f _ b u hu.2) (h.2 j hj)⟩

/-- Number z waits for number i. -/
def waits (md : Region.Mode) (ops : Array Oper) (z i : Nat) : Bool := match ops[z]? with
  | some o => o.after.any (fun e => Region.binds md e && e.on == i)
  | none => false
theorem waits_spec {i : Nat} {o : Oper} (h : waits md ops z i = true) (ho : ops[z]? = some o) : ∃ e ∈ o.after, Region.binds md e = true ∧ e.on = i := by
  unfold waits at h
  rw [ho] at h
  have h' : o.after.any (fun e => Region.binds md e && e.on == i) = true := h
  rw [Array.any_eq_true'] at h'
  obtain ⟨e, he, h2⟩ := h'
  rw [Bool.and_eq_true, beq_iff_eq] at h2
  exact ⟨e, he, h2⟩
theorem listed_no {l : Array Bool} {i : Nat} (h0 : l.getD i true = false) (h1 : l.getD i false = true) : False := by
  rcases Nat.lt_or_ge i l.size with h | h
  · rw [Array.getD_eq_getD_getElem?, Array.getElem?_eq_getElem h, Option.getD_some] at h0 h1
    rw [h0] at h1; cases h1
  · rw [Array.getD_eq_getD_getElem?, Array.getElem?_eq_none h, Option.getD_none] at h1
    cases h1
/-- One that comes up while i has not does not wait for i. -/
theorem no_wait {l : Array Bool} {i j : Nat} {o : Oper} (hr : i ∈ Region.ready md ops l) (hj : j ∈ Region.ready md ops l) (ho : ops[j]? = some o) : ∀ e ∈ o.after, Region.binds md e = true → e.on ≠ i := by
  intro e he hb heq
  obtain ⟨_, o', ho', hall⟩ := mem_ready.1 hj
  rw [ho] at ho'
  cases ho'
  have h1 := hall e he hb
  rw [heq] at h1
  exact listed_no (mem_ready.1 hr).1 h1

/-- Number i may be taken first, if z waits for it and it yields wherever C holds. -/
theorem AnyC.first {i : Nat} {oi : Oper} {v : Value} (hi : ops[i]? = some oi) (hsel : ∀ (j : Nat) (o : Oper) cs b, ops[j]? = some o → o.op ≠ .select cs b)
    (hQ : ∀ c a w, Q (.panic c) (a.put oi.dst v) w → Q (.panic c) a w) (hz : waits md ops z i = true) : ∀ (f : Nat) (l : Array Bool) (a : Act) (w : World),
      (∀ j oj, ops[j]? = some oj → j ≠ i → l.getD j true = false → (∀ e ∈ oj.after, Region.binds md e = true → e.on ≠ i) → oi.apart ops oj = true) →
      i ∈ Region.ready md ops l → l.getD z true = false → YieldsIf P ops C oi v a → C w → AnyC P md ops Q C z f (l.setIfInBounds i true) (a.put oi.dst v) w → AnyC P md ops Q C z (f + 1) l a w := by
  have hne : ∀ (l : Array Bool) (j : Nat), i ∈ Region.ready md ops l → j ∈ Region.ready md ops l → j ≠ z := by
    intro l j hr hj e
    subst e
    obtain ⟨_, o, ho, _⟩ := mem_ready.1 hj
    obtain ⟨e, he, hb, hon⟩ := waits_spec hz ho
    exact no_wait hr hj ho e he hb hon
  intro f
  induction f with
  | zero =>
    intro l a w _ hr hl hy hC H
    constructor
    · intro h0; rw [h0] at hr; cases hr
    · intro j hj
      by_cases e : j = i
      · subst e
        exact hy.wpOp hi hC ⟨fun _ _ => hC, H⟩
      · have h2 := ready_mono hj e
        rw [H.1] at h2; cases h2
  | succ f ih =>
    intro l a w hfree hr hl hy hC H
    constructor
    · intro h0; rw [h0] at hr; cases hr
    · intro j hj
      by_cases e : j = i
      · subst e
        exact hy.wpOp hi hC ⟨fun _ _ => hC, H⟩
      · obtain ⟨hun, oj, hoj, _⟩ := mem_ready.1 hj
        have hjz := hne l j hr hj
        have hiz := hne l i hr hr
        have hput := wpOp_putIf hoj (hfree j oj hoj e hun (no_wait hr hj hoj)) (fun cs b => hsel i oi cs b hi) (fun cs b => hsel j oj cs b hoj) hQ hy (H.2 j (ready_mono hj e))
        refine wpOp_mono (fun b u hu => ?_) hput
        have hCu : C u := hu.2.1 hjz (by rw [getD_set_ne true hiz]; exact hl)
        refine ⟨fun _ _ => hCu, ih (l.setIfInBounds j true) b u (fun k ok hk hki hkun hno => hfree k ok hk hki ?_ hno) (ready_mono hr (Ne.symm e)) (by rw [getD_set_ne true hjz]; exact hl) hu.1 hCu ?_⟩
        · by_cases hjk : j = k
          · subst hjk; exact hun
          · rw [getD_set_ne true hjk] at hkun; exact hkun
        · rw [Array.setIfInBounds_comm _ _ e]; exact hu.2.2

theorem AnyC.take {i : Nat} {oi : Oper} {v : Value} {f : Nat} {l : Array Bool} {a : Act} {w : World} (hi : ops[i]? = some oi)
    (hs : Region.noSelect ops = true) (hf : Region.free md ops l i = true) (hr : (Region.ready md ops l).contains i = true) (hz : waits md ops z i = true) (hl : l.getD z true = false)
    (hQ : ∀ c a w, Q (.panic c) (a.put oi.dst v) w → Q (.panic c) a w) (hy : YieldsIf P ops C oi v a) (hC : C w)
    (h : AnyC P md ops Q C z f (l.setIfInBounds i true) (a.put oi.dst v) w) : AnyC P md ops Q C z (f + 1) l a w :=
  AnyC.first hi (Region.noSelect_spec hs) hQ hz f l a w (Region.free_spec hi hf) (by simpa using hr) hl hy hC h

/-- Number i may be taken first, if it yields in whatever world. -/
theorem AnyC.firstP {i : Nat} {oi : Oper} {v : Value} (hi : ops[i]? = some oi) (hsel : ∀ (j : Nat) (o : Oper) cs b, ops[j]? = some o → o.op ≠ .select cs b)
    (hQ : ∀ c a w, Q (.panic c) (a.put oi.dst v) w → Q (.panic c) a w) (hiz : i ≠ z) : ∀ (f : Nat) (l : Array Bool) (a : Act) (w : World),
      (∀ j oj, ops[j]? = some oj → j ≠ i → l.getD j true = false → (∀ e ∈ oj.after, Region.binds md e = true → e.on ≠ i) → oi.apart ops oj = true) →
      i ∈ Region.ready md ops l → YieldsIf P ops (fun _ => True) oi v a → (l.getD z true = false → C w) → AnyC P md ops Q C z f (l.setIfInBounds i true) (a.put oi.dst v) w → AnyC P md ops Q C z (f + 1) l a w := by
  intro f
  induction f with
  | zero =>
    intro l a w _ hr hy hC H
    constructor
    · intro h0; rw [h0] at hr; cases hr
    · intro j hj
      by_cases e : j = i
      · subst e
        exact hy.wpOp hi trivial ⟨fun _ => hC, H⟩
      · have h2 := ready_mono hj e
        rw [H.1] at h2; cases h2
  | succ f ih =>
    intro l a w hfree hr hy hC H
    constructor
    · intro h0; rw [h0] at hr; cases hr
    · intro j hj
      by_cases e : j = i
      · subst e
        exact hy.wpOp hi trivial ⟨fun _ => hC, H⟩
      · obtain ⟨hun, oj, hoj, _⟩ := mem_ready.1 hj
        have hput := wpOp_putIf hoj (hfree j oj hoj e hun (no_wait hr hj hoj)) (fun cs b => hsel i oi cs b hi) (fun cs b => hsel j oj cs b hoj) hQ hy (H.2 j (ready_mono hj e))
        refine wpOp_mono (fun b u hu => ?_) hput
        have hCu : j ≠ z → l.getD z true = false → C u := fun h1 h2 => hu.2.1 h1 (by rw [getD_set_ne true hiz]; exact h2)
        refine ⟨hCu, ih (l.setIfInBounds j true) b u (fun k ok hk hki hkun hno => hfree k ok hk hki ?_ hno) (ready_mono hr (Ne.symm e)) hu.1 (fun h1 => ?_) ?_⟩
        · by_cases hjk : j = k
          · subst hjk; exact hun
          · rw [getD_set_ne true hjk] at hkun; exact hkun
        · by_cases hjz : j = z
          · subst hjz
            exfalso
            have hlt : j < l.size := by
              rcases Nat.lt_or_ge j l.size with h | h
              · exact h
              · rw [Array.getD_eq_getD_getElem?, Array.getElem?_eq_none h, Option.getD_none] at hun; cases hun
            rw [Array.getD_eq_getD_getElem?, Array.getElem?_setIfInBounds_self_of_lt hlt, Option.getD_some] at h1
            cases h1
          · exact hCu hjz (by rw [getD_set_ne true hjz] at h1; exact h1)
        · rw [Array.setIfInBounds_comm _ _ e]; exact hu.2.2
theorem AnyC.takeP {i : Nat} {oi : Oper} {v : Value} {f : Nat} {l : Array Bool} {a : Act} {w : World} (hi : ops[i]? = some oi)
    (hs : Region.noSelect ops = true) (hf : Region.free md ops l i = true) (hr : (Region.ready md ops l).contains i = true) (hiz : i ≠ z)
    (hQ : ∀ c a w, Q (.panic c) (a.put oi.dst v) w → Q (.panic c) a w) (hy : YieldsIf P ops (fun _ => True) oi v a) (hC : l.getD z true = false → C w)
    (h : AnyC P md ops Q C z f (l.setIfInBounds i true) (a.put oi.dst v) w) : AnyC P md ops Q C z (f + 1) l a w :=
  AnyC.firstP hi (Region.noSelect_spec hs) hQ hiz f l a w (Region.free_spec hi hf) (by simpa using hr) hy hC h

theorem AnyC.one {i : Nat} {o : Oper} {f : Nat} {l : Array Bool} {a : Act} {w : World} (hr : Region.ready md ops l = [i]) (ho : ops[i]? = some o)
    (h : ∀ K : Act → World → Prop, (∀ b u, (i ≠ z → l.getD z true = false → C u) → AnyC P md ops Q C z f (l.setIfInBounds i true) b u → K b u) → if Region.wanted o (yielded ops a.tmps) = true then Oper.wp P o a w K Q else K (a.put o.dst undef) w) : AnyC P md ops Q C z (f + 1) l a w := by
  refine ⟨(fun h0 => by rw [hr] at h0; cases h0), fun j hj => ?_⟩
  rw [hr] at hj
  obtain rfl : j = i := by simpa using hj
  exact wpOp_step ho (fun K hK => h K (fun b u h1 h2 => hK b u ⟨h1, h2⟩))
theorem AnyC.two {i j : Nat} {o p : Oper} {f : Nat} {l : Array Bool} {a : Act} {w : World} (hr : Region.ready md ops l = [i, j]) (ho : ops[i]? = some o) (hp : ops[j]? = some p)
    (h : ∀ K : Act → World → Prop, (∀ b u, (i ≠ z → l.getD z true = false → C u) → AnyC P md ops Q C z f (l.setIfInBounds i true) b u → K b u) → if Region.wanted o (yielded ops a.tmps) = true then Oper.wp P o a w K Q else K (a.put o.dst undef) w)
    (h' : ∀ K : Act → World → Prop, (∀ b u, (j ≠ z → l.getD z true = false → C u) → AnyC P md ops Q C z f (l.setIfInBounds j true) b u → K b u) → if Region.wanted p (yielded ops a.tmps) = true then Oper.wp P p a w K Q else K (a.put p.dst undef) w) : AnyC P md ops Q C z (f + 1) l a w := by
  refine ⟨(fun h0 => by rw [hr] at h0; cases h0), fun k hk => ?_⟩
  rw [hr] at hk
  rcases List.mem_cons.1 hk with rfl | hk
  · exact wpOp_step ho (fun K hK => h K (fun b u h1 h2 => hK b u ⟨h1, h2⟩))
  · obtain rfl : k = j := by simpa using hk
    exact wpOp_step hp (fun K hK => h' K (fun b u h1 h2 => hK b u ⟨h1, h2⟩))
theorem AnyC.done {l : Array Bool} {a : Act} {w : World} (hr : Region.ready md ops l = []) (h : Q .normal a w) : ∀ f, AnyC P md ops Q C z f l a w
  | 0 => ⟨hr, h⟩
  | _ + 1 => ⟨fun _ => h, by rw [hr]; simp⟩
theorem AnyC.begin {id : Nat} {a : Act} {w : World} (hm : P.follows .mixedOrders = true) (h : AnyC P .any ops Q C z ops.size (Array.replicate ops.size false) a w.drew) : (Code.region id ops true).wp P Q a w :=
  wp_region_any hm (AnyC.any _ _ _ _ h)
end
end Go.Proofs.Ybulkaxc.Ord
