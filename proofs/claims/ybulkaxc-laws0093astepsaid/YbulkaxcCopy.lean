/-
  copy of a whole row of int32; counting in a list (of no program).
-/
import Derived.Test.YbulkaxcMem
import Derived.Laws.CopyOwn
namespace Go.Proofs.Ybulkaxc.Mem
open Go Go.RowKit
set_option linter.unusedVariables false

section
variable {P : Program} (w : World)
/-- 'copy(dst, src)', dst an owned row, src as long: the row then holds src's numbers. -/
theorem run_copy32 (t ty : TypeId) (ht : P.underlying t = some (.slice 21)) (hsz : (P.info? 21).map (·.size) = some 1)
    {B g n cs : Nat} {l news : List Int} {ad : Addr}
    (hown : Own w B (.slice (some ⟨g, 0, none⟩) n n) l) (hlen : news.length = n) (hsrc : ∀ j x, news[j]? = some x → w.cell? (ad.add j) = some (.int .i32 x)) :
    ∃ w', (Builtin.copy_ #[t, t] ty #[.slice (some ⟨g, 0, none⟩) n n, .slice (some ad) n cs]).run P w = .ok (goInt n) w' ∧ Own w' B (.slice (some ⟨g, 0, none⟩) n n) news ∧ Tch [g] w w' := by
  rcases hown.2 with ⟨e, _⟩ | ⟨g', cap, cur, e, hb, hg, hnc, hcm, hcs, htake⟩
  · cases e
  · cases e
    have hl := hown.len
    have hcs' : cur.size = l.length := by rw [hcs]; omega
    have hln : l.length = news.length := by omega
    have hnews : (news.map (Value.int .i32)).length = Nat.min l.length l.length := by simp [hln]
    have hrow : cur.toList.take 0 ++ news.map (Value.int .i32) ++ cur.toList.drop (0 + (news.map (Value.int .i32)).length) = news.map (Value.int .i32) := by
      rw [List.drop_of_length_le (by simp; omega)]; simp
    have hr := run_copy_row (P := P) w t t ty 21 g 0 l.length l.length ad l.length cs cur 21 (news.map (Value.int .i32)) ht hsz hg hnews (by
      intro j v hv
      rw [List.getElem?_map, Option.map_eq_some_iff] at hv
      obtain ⟨x, hx, rfl⟩ := hv
      exact hsrc j x hx) (by simp; omega) (ints_oneCell _ _)
    rw [hrow] at hr
    have hlm : (news.map (Value.int .i32)).length = l.length := by simp [hln]
    rw [hlm] at hr
    refine ⟨_, hr, ?_, ?_⟩
    · have e2 : l.length = news.length := hln
      unfold Own
      rw [e2]
      exact ⟨by simp, .inr ⟨g, news.length, (news.map (Value.int .i32)).toArray, rfl, hb, setRow_heap w g cur _ 21 (0, 0) hg, Nat.le_refl _, by rw [← hln]; exact hcm, by simp, by rw [List.take_of_length_le (by simp)]⟩⟩
    · exact ⟨rfl, rfl, rfl, by simp, fun k hk hn => setRow_other w g k _ (by simpa using hn)⟩
end

/-- How many of the numbers lie below f. -/
def below (fs : List Nat) (f : Nat) : Nat := fs.countP (· < f)
theorem below_zero (fs : List Nat) : below fs 0 = 0 := by simp [below]
theorem below_succ (fs : List Nat) (f : Nat) : below fs (f + 1) = below fs f + fs.count f := by
  unfold below
  induction fs with
  | nil => simp
  | cons x xs ih =>
    simp only [List.countP_cons, List.count_cons, ih]
    by_cases h1 : x < f
    · have : x < f + 1 := by omega
      have h3 : ¬ x = f := by omega
      simp [h1, this, h3]; omega
    · by_cases h2 : x = f
      · subst h2; simp; omega
      · have : ¬ x < f + 1 := by omega
        simp [h1, h2, this]
theorem below_le (fs : List Nat) (f : Nat) : below fs f ≤ fs.length := List.countP_le_length
theorem count_take_lt {fs : List Nat} {k f : Nat} (h : fs[k]? = some f) : (fs.take k).count f + 1 ≤ fs.count f := by
  have e : fs = fs.take k ++ fs.drop k := (List.take_append_drop k fs).symm
  have e2 : fs.drop k = f :: fs.drop (k + 1) := by
    obtain ⟨hk, rfl⟩ := List.getElem?_eq_some_iff.1 h
    exact (List.getElem_cons_drop hk).symm
  have e3 : fs.count f = (fs.take k).count f + (fs.drop k).count f := by
    conv => lhs; rw [e]
    rw [List.count_append]
  rw [e3, e2, List.count_cons_self]; omega
/-- The place at which the k-th number goes lies inside the row. -/
theorem place_lt {fs : List Nat} {k f : Nat} (h : fs[k]? = some f) : below fs f + (fs.take k).count f < fs.length := by
  have h1 := count_take_lt h
  have h2 := below_succ fs f
  have h3 := below_le fs (f + 1)
  omega
theorem count_snoc {fs : List Nat} {k f : Nat} (h : fs[k]? = some f) (x : Nat) : (fs.take (k + 1)).count x = (fs.take k).count x + if f = x then 1 else 0 := by
  have : fs.take (k + 1) = fs.take k ++ [f] := by rw [List.take_add_one, h]; rfl
  rw [this, List.count_append]
  by_cases e : f = x
  · simp [e]
  · simp [e]
end Go.Proofs.Ybulkaxc.Mem
