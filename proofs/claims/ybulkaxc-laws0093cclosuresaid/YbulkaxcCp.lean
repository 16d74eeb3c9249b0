/-
  copy onto an owned row; keys that came in.
-/
import Derived.Test.YbulkaxcLb2
import Derived.Laws.CopyOwn
namespace Go.Proofs.Ybulkaxc.Law
open Go Go.RowKit Go.Proofs.Ybulkaxc.M2 Go.Proofs.Ybulkaxc.Cm
set_option linter.unusedVariables false

theorem size21 : (Yba.prog.info? 21).map (·.size) = some 1 := by kernel_rfl
section
variable {P : Program} (w : World)
theorem run_copy (t ty : TypeId) (ht : P.underlying t = some (.slice 21)) (hsz : (P.info? 21).map (·.size) = some 1)
    {B g n cs m : Nat} {l news : List Int} {ad : Addr}
    (hown : Own .i32 21 w B (.slice (some ⟨g, 0, none⟩) n n) l) (hlen : news.length = n) (hm : n ≤ m) (hsrc : ∀ (j : Nat) (x : Int), news[j]? = some x → w.cell? (ad.add j) = some (.int .i32 x)) :
    ∃ w', (Builtin.copy_ #[t, t] ty #[.slice (some ⟨g, 0, none⟩) n n, .slice (some ad) m cs]).run P w = .ok (goInt n) w' ∧ Own .i32 21 w' B (.slice (some ⟨g, 0, none⟩) n n) news ∧ Tch (fun x => x = g) w w' := by
  rcases hown.2 with ⟨e, _⟩ | ⟨g', cap, cur, e, hb, hg, hnc, hcm, hcs, htake⟩
  · cases e
  · cases e
    have hl := hown.len
    have hcs' : cur.size = l.length := by rw [hcs]; omega
    have hln : l.length = news.length := by omega
    have hnews : (news.map (Value.int .i32)).length = Nat.min m l.length := by rw [List.length_map, ← hln]; exact (Nat.min_eq_right (by omega)).symm
    have hrow : cur.toList.take 0 ++ news.map (Value.int .i32) ++ cur.toList.drop (0 + (news.map (Value.int .i32)).length) = news.map (Value.int .i32) := by
      rw [List.drop_of_length_le (by simp; omega)]; simp
    have hr := run_copy_row (P := P) w t t ty 21 g 0 l.length l.length ad m cs cur 21 (news.map (Value.int .i32)) ht hsz hg hnews (by
      intro j v hv
      rw [List.getElem?_map, Option.map_eq_some_iff] at hv
      obtain ⟨x, hx, rfl⟩ := hv
      exact hsrc j x hx) (by simp; omega) (ints_oneCell _ _)
    rw [hrow] at hr
    have hlm : (news.map (Value.int .i32)).length = l.length := by simp [hln]
    rw [hlm] at hr
    refine ⟨_, hr, ?_, ?_⟩
    · have e2 : l.length = news.length := hln
      unfold Own
      rw [e2]
      exact ⟨by simp, .inr ⟨g, news.length, (news.map (Value.int .i32)).toArray, rfl, hb, setRow_heap w g cur _ 21 (0, 0) hg, Nat.le_refl _, by rw [← hln]; exact hcm, by simp, by rw [List.take_of_length_le (by simp)]⟩⟩
    · exact ⟨rfl, rfl, rfl, by simp, fun k hk hn => setRow_other w g k _ (by simpa using hn)⟩
end
/-- A slice of slices of bytes that can be read. -/
structure Ksrc (w : World) (v : Value) (kb : List (List Nat)) : Prop where
  len' : ∃ a n c, v = .slice a n c ∧ kb.length = n
  rd : ∀ i l, kb[i]? = some l → ∃ g o n c a' c', v = .slice (some ⟨g, o, none⟩) n c ∧ w.cell? ⟨g, o + i, none⟩ = some (.slice a' l.length c') ∧ Src .u8 w (.slice a' l.length c') (castN l)
theorem Ksrc.len {w : World} {a : Option Addr} {n c : Nat} {kb : List (List Nat)} (h : Ksrc w (.slice a n c) kb) : kb.length = n := by
  obtain ⟨a', n', c', e, h⟩ := h.len'
  cases e; exact h
theorem Ksrc.keep {w w' : World} {v : Value} {kb : List (List Nat)} (h : Ksrc w v kb) (t : Tch Non w w') : Ksrc w' v kb :=
  ⟨h.len', fun i l hi => by
    obtain ⟨g, o, n, c, a', c', e, h1, h2⟩ := h.rd i l hi
    refine ⟨g, o, n, c, a', c', e, t.cell h1 (fun h => h), ?_⟩
    rcases h2 with h2 | ⟨b, off, cap, hv, h2⟩
    · exact .inl h2
    · exact .inr ⟨b, off, cap, hv, fun i x hx => t.cell (h2 i x hx) (fun h => h)⟩⟩
theorem Bsrc.keep {w w' : World} {v : Value} {l : List Bool} (h : Bsrc w v l) (t : Tch Non w w') : Bsrc w' v l :=
  ⟨h.len', fun i b hi => by
    obtain ⟨g, o, n, c, e, hc⟩ := h.rd i b hi
    exact ⟨g, o, n, c, e, t.cell hc (fun h => h)⟩⟩
end Go.Proofs.Ybulkaxc.Law
