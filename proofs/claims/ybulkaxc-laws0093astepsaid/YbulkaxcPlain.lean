/-
  LawS0093AStep: the plain law: counting up to 'old' and counting 'old' down to nought hand on the same places.
-/
import Derived.Test.YbulkaxcStep2
namespace Go.Proofs.Ybulkaxc.Seg
open Go Go.RowKit Go.Proofs.Ybulkaxc.Step
set_option linter.unusedVariables false

/-- The law's own reckoning: one target x is seen. -/
def see (txn : Int) (old : List Int) (st : List Int × List Int × List Int) (x : Int) : List Int × List Int × List Int :=
  (st.1.set x.toNat (st.1.getD x.toNat 0 + 1),
   if st.1.getD x.toNat 0 + 1 = old.getD x.toNat 0 ∧ txn ≤ x then st.2.1 ++ [x] else st.2.1,
   if st.1.getD x.toNat 0 + 1 = old.getD x.toNat 0 ∧ ¬ txn ≤ x then st.2.2 ++ [x] else st.2.2)

theorem see_snoc (txn : Int) (old xs : List Int) (st : List Int × List Int × List Int) {k : Nat} {x : Int} (h : xs[k]? = some x) : (xs.take (k + 1)).foldl (see txn old) st = see txn old ((xs.take k).foldl (see txn old) st) x := by
  have : xs.take (k + 1) = xs.take k ++ [x] := by
    rw [List.take_add_one, h]; rfl
  rw [this, List.foldl_append]; rfl

theorem see_hitY (txn : Int) (old : List Int) (st : List Int × List Int × List Int) (x : Nat) {s y : Int} (hs : st.1[x]? = some s) (hy : old[x]? = some y) (he : s + 1 = y) :
    see txn old st x = (st.1.set x (s + 1), if txn ≤ x then st.2.1 ++ [(x : Int)] else st.2.1, if txn ≤ x then st.2.2 else st.2.2 ++ [(x : Int)]) := by
  have e1 : st.1.getD x 0 = s := by rw [List.getD_eq_getElem?_getD, hs]; rfl
  have e2 : old.getD x 0 = y := by rw [List.getD_eq_getElem?_getD, hy]; rfl
  unfold see
  simp only [Int.toNat_natCast, e1, e2, he, true_and]
  by_cases h : txn ≤ x <;> simp [h]
theorem see_hitN (txn : Int) (old : List Int) (st : List Int × List Int × List Int) (x : Nat) {s y : Int} (hs : st.1[x]? = some s) (hy : old[x]? = some y) (he : ¬ s + 1 = y) :
    see txn old st x = (st.1.set x (s + 1), st.2.1, st.2.2) := by
  have e1 : st.1.getD x 0 = s := by rw [List.getD_eq_getElem?_getD, hs]; rfl
  have e2 : old.getD x 0 = y := by rw [List.getD_eq_getElem?_getD, hy]; rfl
  unfold see
  simp only [Int.toNat_natCast, e1, e2, he, false_and, if_false]

/-- The joint: what holds of both reckonings behind the same targets. n: how many. -/
structure Joint (old : List Int) (n : Nat) (a b : List Int × List Int × List Int) : Prop where
  la : a.1.length = old.length
  lb : b.1.length = old.length
  ind : ∀ (k : Nat) (x y z : Int), a.1[k]? = some x → old[k]? = some y → b.1[k]? = some z → x = wrap32 (y - z)
  bd : ∀ (k : Nat) (z : Int), b.1[k]? = some z → 0 ≤ z ∧ z ≤ n
  pts : a.2.1 = b.2.1
  lg : a.2.2 = b.2.2

theorem wrap32_sub (y z : Int) : wrap32 (wrap32 (y - z) - 1) = wrap32 (y - (z + 1)) := by
  unfold wrap32; omega
theorem wrap32_zero (y s : Int) (hy : -2147483648 ≤ y ∧ y ≤ 2147483647) (hs : 0 ≤ s ∧ s ≤ 1000000) : wrap32 (y - s) = 0 ↔ s = y := by
  unfold wrap32; omega

theorem Joint.step {old : List Int} {n : Nat} {a b : List Int × List Int × List Int} (h : Joint old n a b) (ho : ∀ y ∈ old, -2147483648 ≤ y ∧ y ≤ 2147483647) (hn : n ≤ 100000) (txn : Int) (x : Nat) (hx : x < old.length) : Joint old (n + 1) (hit txn a x) (see txn old b x) := by
  have ax : x < a.1.length := by rw [h.la]; exact hx
  have bx : x < b.1.length := by rw [h.lb]; exact hx
  have ha : a.1[x]? = some a.1[x] := List.getElem?_eq_getElem ax
  have hb : b.1[x]? = some b.1[x] := List.getElem?_eq_getElem bx
  have hc : old[x]? = some old[x] := List.getElem?_eq_getElem hx
  have h1 := h.ind x _ _ _ ha hc hb
  have h2 := h.bd x _ hb
  have h3 := ho _ (List.mem_of_getElem? hc)
  have hz : wrap32 (a.1[x] - 1) = 0 ↔ b.1[x] + 1 = old[x] := by
    rw [h1, wrap32_sub]
    exact wrap32_zero _ _ h3 (by omega)
  have hind : ∀ (k : Nat) (p y z : Int), (a.1.set x (wrap32 (a.1[x] - 1)))[k]? = some p → old[k]? = some y → (b.1.set x (b.1[x] + 1))[k]? = some z → p = wrap32 (y - z) := by
    intro k p y z hp hy hz'
    by_cases hk : x = k
    · subst hk
      rw [List.getElem?_set_self (by rw [h.la]; exact hx)] at hp
      rw [List.getElem?_set_self (by rw [h.lb]; exact hx)] at hz'
      cases hp; cases hz'
      rw [hc] at hy; cases hy
      rw [h1, wrap32_sub]
    · rw [List.getElem?_set_ne hk] at hp hz'
      exact h.ind k p y z hp hy hz'
  have hbd : ∀ (k : Nat) (z : Int), (b.1.set x (b.1[x] + 1))[k]? = some z → 0 ≤ z ∧ z ≤ ((n + 1 : Nat) : Int) := by
    intro k z hz'
    by_cases hk : x = k
    · subst hk
      rw [List.getElem?_set_self (by rw [h.lb]; exact hx)] at hz'
      cases hz'; omega
    · rw [List.getElem?_set_ne hk] at hz'
      have := h.bd k z hz'; omega
  by_cases he : b.1[x] + 1 = old[x]
  · rw [hit_zero txn a x ha (hz.2 he), see_hitY txn old b x hb hc he]
    exact ⟨by simpa using h.la, by simpa using h.lb, hind, hbd, by dsimp only; rw [h.pts], by dsimp only; rw [h.lg]⟩
  · rw [hit_non txn a x ha (fun e => he (hz.1 e)), see_hitN txn old b x hb hc he]
    exact ⟨by simpa using h.la, by simpa using h.lb, hind, hbd, h.pts, h.lg⟩

theorem joint (old : List Int) (ho : ∀ y ∈ old, -2147483648 ≤ y ∧ y ≤ 2147483647) (pt : List Int) (txn : Int) (xs : List Int) (hx : ∀ x ∈ xs, 0 ≤ x ∧ x < old.length) (hl : xs.length ≤ 100000) :
    ∀ k, k ≤ xs.length → Joint old k ((xs.take k).foldl (hit txn) (old, pt, [])) ((xs.take k).foldl (see txn old) (List.replicate old.length 0, pt, [])) := by
  intro k
  induction k with
  | zero =>
    intro _
    refine ⟨rfl, by simp, ?_, ?_, rfl, rfl⟩
    · intro k x y z h1 h2 h3
      simp only [List.take_zero, List.foldl_nil] at h1 h3
      rw [h1] at h2; cases h2
      rw [List.getElem?_replicate] at h3
      split at h3
      · cases h3
        have := ho _ (List.mem_of_getElem? h1)
        unfold wrap32; omega
      · cases h3
    · intro k z h
      simp only [List.take_zero, List.foldl_nil, List.getElem?_replicate] at h
      split at h
      · cases h; omega
      · cases h
  | succ k ih =>
    intro hk
    have hj := ih (by omega)
    have hxk : xs[k]? = some xs[k] := List.getElem?_eq_getElem (by omega)
    rw [hits_snoc txn xs _ hxk, see_snoc txn old xs _ hxk]
    have hb := hx _ (List.mem_of_getElem? hxk)
    obtain ⟨x, hx'⟩ := Int.eq_ofNat_of_zero_le hb.1
    rw [hx'] at hb ⊢
    exact hj.step ho (by omega) txn x (by omega)
end Go.Proofs.Ybulkaxc.Seg
