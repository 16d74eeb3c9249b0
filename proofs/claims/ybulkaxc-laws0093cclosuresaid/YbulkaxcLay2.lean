/-
  LAYING ARCS BY THEIR TAILS: counts, sums, and the filling. No Go in sight.
-/
import Derived.Test.YbulkaxcPl2
namespace Go.Proofs.Ybulkaxc.Pl2
set_option linter.unusedVariables false

theorem set_at {l : List Int} {i j : Nat} {x : Int} (hi : i < l.length) : (l.set i x)[j]? = if i = j then some x else l[j]? := by
  rw [List.getElem?_set]
  split
  · rename_i e; subst e; simp
  · rfl

/-- The counts of the first k. -/
structure Cnt (fs : List Nat) (P k : Nat) (l : List Int) : Prop where
  len : l.length = P + 1
  zero : l[0]? = some 0
  at_ : ∀ q : Nat, q < P → l[q + 1]? = some (((fs.take k).count q : Nat) : Int)
theorem Cnt.start (fs : List Nat) (P : Nat) : Cnt fs P 0 (List.replicate (P + 1) 0) :=
  ⟨by simp, by simp, fun q hq => by rw [List.getElem?_replicate, if_pos (by omega)]; simp⟩
theorem Cnt.step {fs : List Nat} {P k f : Nat} {l : List Int} (h : Cnt fs P k l) (hf : fs[k]? = some f) (hP : f < P) : Cnt fs P (k + 1) (l.set (f + 1) ((((fs.take k).count f : Nat) : Int) + 1)) := by
  refine ⟨by simpa using h.len, ?_, fun q hq => ?_⟩
  · rw [set_at (by rw [h.len]; omega), if_neg (by omega)]; exact h.zero
  · rw [set_at (by rw [h.len]; omega), count_snoc hf]
    by_cases e : f = q
    · subst e; simp
    · rw [if_neg (by omega), if_neg e, h.at_ q hq]; simp

/-- The sums up to q, the counts behind it. -/
structure Pre (fs : List Nat) (P q : Nat) (l : List Int) : Prop where
  len : l.length = P + 1
  lo : ∀ r : Nat, r ≤ q → l[r]? = some ((below fs r : Nat) : Int)
  hi : ∀ r : Nat, q ≤ r → r < P → l[r + 1]? = some ((fs.count r : Nat) : Int)
theorem Cnt.pre {fs : List Nat} {P : Nat} {l : List Int} (h : Cnt fs P fs.length l) : Pre fs P 0 l :=
  ⟨h.len, fun r hr => by obtain rfl : r = 0 := by omega
                         rw [below_zero, h.zero]; rfl, fun r _ hr => by rw [h.at_ r hr, List.take_length]⟩
theorem Pre.step {fs : List Nat} {P q : Nat} {l : List Int} (h : Pre fs P q l) (hq : q < P) : Pre fs P (q + 1) (l.set (q + 1) (((fs.count q : Nat) : Int) + ((below fs q : Nat) : Int))) := by
  refine ⟨by simpa using h.len, fun r hr => ?_, fun r h1 h2 => ?_⟩
  · rw [set_at (by rw [h.len]; omega)]
    by_cases e : q + 1 = r
    · subst e; rw [if_pos rfl, below_succ]; congr 1; omega
    · rw [if_neg e]; exact h.lo r (by omega)
  · rw [set_at (by rw [h.len]; omega), if_neg (by omega)]; exact h.hi r (by omega) h2

/-- The first k are laid. -/
structure Fil (A : List (Nat × Nat)) (P k : Nat) (fl hd : List Int) : Prop where
  lf : fl.length = P
  lh : hd.length = A.length
  fat : ∀ f : Nat, f < P → fl[f]? = some ((below (fsOf A) f + ((fsOf A).take k).count f : Nat) : Int)
  hat : ∀ i f t : Nat, i < k → A[i]? = some (f, t) → hd[below (fsOf A) f + ((fsOf A).take i).count f]? = some (t : Int)
theorem count_mono (fs : List Nat) (f : Nat) {i k : Nat} (h : i ≤ k) : (fs.take i).count f ≤ (fs.take k).count f :=
  List.Sublist.count_le _ (List.take_sublist_take_left h)
theorem below_mono (fs : List Nat) {a b : Nat} (h : a ≤ b) : below fs a ≤ below fs b := by
  unfold below
  apply List.countP_mono_left
  intro x _ hx
  simp at hx ⊢
  omega
/-- Two arcs go to two places. -/
theorem place_inj {fs : List Nat} {i k f g : Nat} (hik : i < k) (hi : fs[i]? = some f) (hk : fs[k]? = some g) : below fs f + (fs.take i).count f ≠ below fs g + (fs.take k).count g := by
  have h1 := count_take_lt hi
  have h2 := count_take_lt hk
  have b1 := below_succ fs f
  have b2 := below_succ fs g
  rcases Nat.lt_trichotomy f g with h | h | h
  · have := below_mono fs (show f + 1 ≤ g by omega)
    omega
  · subst h
    have h3 := count_mono fs f (show i + 1 ≤ k by omega)
    rw [count_snoc hi] at h3
    simp at h3
    omega
  · have := below_mono fs (show g + 1 ≤ f by omega)
    omega
theorem Fil.step {A : List (Nat × Nat)} {P k f t : Nat} {fl hd : List Int} (h : Fil A P k fl hd) (hk : A[k]? = some (f, t)) (hf : f < P) {x : Nat} (hx : x = below (fsOf A) f + ((fsOf A).take k).count f) : Fil A P (k + 1) (fl.set f ((x : Int) + 1)) (hd.set x (t : Int)) := by
  subst hx
  have hfs := fsOf_at hk
  have hpl : below (fsOf A) f + ((fsOf A).take k).count f < hd.length := by
    have := place_lt hfs
    rw [h.lh]; unfold fsOf at *; simpa using this
  refine ⟨by simpa using h.lf, by simpa using h.lh, fun g hg => ?_, fun i g u hi hA => ?_⟩
  · rw [set_at (by rw [h.lf]; exact hf), count_snoc hfs]
    by_cases e : f = g
    · subst e; simp; omega
    · rw [if_neg e, if_neg e, h.fat g hg]; simp
  · rw [set_at hpl]
    by_cases e : i = k
    · subst e
      rw [hk] at hA
      cases hA
      rw [if_pos rfl]
    · have hik : i < k := by omega
      rw [if_neg (fun e => place_inj hik (fsOf_at hA) hfs e.symm)]
      exact h.hat i g u hik hA
theorem Fil.start {A : List (Nat × Nat)} {P : Nat} {st hd : List Int} (h : Pre (fsOf A) P P st) (hl : hd.length = A.length) : Fil A P 0 (st.take P) hd :=
  ⟨by rw [List.length_take, h.len]; omega, hl, fun f hf => by rw [List.getElem?_take, if_pos hf, h.lo f (by omega)]; simp, fun i f t hi => by omega⟩
theorem Fil.csr {A : List (Nat × Nat)} {P : Nat} {st fl hd : List Int} (h : Fil A P A.length fl hd) (hp : Pre (fsOf A) P P st) : CSR A P st hd :=
  ⟨fun q hq => hp.lo q hq, fun i f t hi => h.hat i f t (List.getElem?_eq_some_iff.1 hi).1 hi, h.lh⟩
end Go.Proofs.Ybulkaxc.Pl2
