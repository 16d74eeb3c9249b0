/-
  The search's invariant, over its marks and its stack; what the search's stores do to its memory.
-/
import Derived.Test.YbulkaxcDoorDg
namespace Go.Proofs.YbulkaxcDoor.Sr
open Go Go.RowKit Go.Proofs.YbulkaxcDoor.Mem Go.Proofs.YbulkaxcDoor.Pl Go.Proofs.YbulkaxcDoor.RS
set_option linter.unusedVariables false

/-- How many are not marked. -/
def un (S : Int) (ml : List Int) : Nat := ml.countP (fun x => x != S)
theorem un_set {S : Int} {ml : List Int} {h : Nat} {x : Int} (hx : ml[h]? = some x) (hn : x ≠ S) : un S (ml.set h S) + 1 = un S ml := by
  unfold un
  obtain ⟨hl, rfl⟩ := List.getElem?_eq_some_iff.1 hx
  have hp : 0 < ml.countP (fun x => x != S) := List.countP_pos_iff.2 ⟨ml[h], List.getElem_mem hl, by simpa using hn⟩
  rw [List.countP_set hl]
  simp [hn]
  omega

structure So (nb : Nat → Nat → Prop) (y P : Nat) (S : Int) (ml sl : List Int) : Prop where
  len : ml.length = P
  le : ∀ (i : Nat) (x : Int), ml[i]? = some x → x ≤ S
  nat : ∀ v ∈ sl, ∃ q : Nat, v = (q : Int) ∧ q < P
  dfs : Dfs nb y (fun q => ml[q]? = some S) (fun q => (q : Int) ∈ sl)
structure Si (nb : Nat → Nat → Prop) (y P : Nat) (S : Int) (ml sl : List Int) (p : Nat) (done : Nat → Prop) : Prop where
  len : ml.length = P
  le : ∀ (i : Nat) (x : Int), ml[i]? = some x → x ≤ S
  nat : ∀ v ∈ sl, ∃ q : Nat, v = (q : Int) ∧ q < P
  root : ml[y]? = some S
  sound : ∀ q : Nat, ml[q]? = some S → Rn nb y q
  sub : ∀ q : Nat, (q : Int) ∈ sl → ml[q]? = some S
  closed : ∀ a b : Nat, ml[a]? = some S → ¬ (a : Int) ∈ sl → (a = p → done b) → nb a b → b % 2 = 0 → ml[b]? = some S
  pm : ml[p]? = some S

section
variable {nb : Nat → Nat → Prop} {y P : Nat} {S : Int} {ml sl : List Int} {p : Nat} {done : Nat → Prop}
theorem set_some {h q : Nat} (hl : h < ml.length) : (ml.set h S)[q]? = some S ↔ q = h ∨ ml[q]? = some S := by
  rw [List.getElem?_set]
  split
  · rename_i e
    subst e
    simp [hl]
  · rename_i e
    constructor
    · exact .inr
    · rintro (h1 | h1)
      · exact absurd h1.symm e
      · exact h1
theorem So.start (hl : ml.length = P) (hle : ∀ (i : Nat) (x : Int), ml[i]? = some x → x < S) (hy : y < P) : So nb y P S (ml.set y S) [(y : Int)] := by
  have hno : ∀ q : Nat, ml[q]? ≠ some S := fun q h => by have := hle q S h; omega
  refine ⟨by simpa using hl, fun i x hx => ?_, fun v hv => ⟨y, by simpa using hv, hy⟩, ⟨?_, fun q hq => ?_, fun q hq => ?_, fun a b ha hs => ?_⟩⟩
  · rw [List.getElem?_set] at hx
    split at hx
    · split at hx
      · cases hx; exact Int.le_refl _
      · cases hx
    · exact Int.le_of_lt (hle i x hx)
  · exact (set_some (by omega)).2 (.inl rfl)
  · rcases (set_some (by omega)).1 hq with h1 | h1
    · rw [h1]; exact Rn.refl _ _
    · exact absurd h1 (hno q)
  · have : q = y := by have : (q : Int) = (y : Int) := by simpa using hq
                       omega
    exact (set_some (by omega)).2 (.inl this)
  · rcases (set_some (by omega)).1 ha with h1 | h1
    · subst h1; simp at hs
    · exact absurd h1 (hno a)
theorem So.pop {l : List Int} {v : Int} (h : So nb y P S ml (l ++ [v])) : ∃ q : Nat, v = (q : Int) ∧ q < P ∧ Si nb y P S ml l q (fun _ => False) := by
  obtain ⟨q, rfl, hq⟩ := h.nat v (by simp)
  have hm := h.dfs.sub q (by simp)
  refine ⟨q, rfl, hq, h.len, h.le, fun v hv => h.nat v (by simp [hv]), h.dfs.root, h.dfs.sound, fun r hr => h.dfs.sub r (by simp [hr]), fun a b ha hs hd e hb => ?_, hm⟩
  by_cases hap : a = q
  · exact (hd hap).elim
  · refine h.dfs.closed a b ha ?_ e hb
    simp only [List.mem_append, List.mem_singleton, not_or]
    exact ⟨hs, by omega⟩
theorem Si.skip (h : Si nb y P S ml sl p done) {t : Nat} (ht : ml[t]? = some S ∨ t % 2 ≠ 0) : Si nb y P S ml sl p (fun b => done b ∨ b = t) := by
  refine ⟨h.len, h.le, h.nat, h.root, h.sound, h.sub, fun a b ha hs hd e hb => ?_, h.pm⟩
  by_cases hbt : b = t
  · subst hbt
    rcases ht with h1 | h1
    · exact h1
    · exact absurd hb h1
  · exact h.closed a b ha hs (fun hap => (hd hap).resolve_right hbt) e hb
theorem Si.push (h : Si nb y P S ml sl p done) {t : Nat} (ht : t < P) (he : t % 2 = 0) (hnb : nb p t) : Si nb y P S (ml.set t S) (sl ++ [(t : Int)]) p (fun b => done b ∨ b = t) := by
  have hl : t < ml.length := by rw [h.len]; exact ht
  refine ⟨by simpa using h.len, fun i x hx => ?_, fun v hv => ?_, (set_some hl).2 (.inr h.root), fun q hq => ?_, fun q hq => ?_, fun a b ha hs hd e hb => ?_, (set_some hl).2 (.inr h.pm)⟩
  · rw [List.getElem?_set] at hx
    split at hx
    · rename_i e
      cases hx; exact Int.le_refl _
    · exact h.le i x hx
  · rcases List.mem_append.1 hv with h1 | h1
    · exact h.nat v h1
    · exact ⟨t, by simpa using h1, ht⟩
  · rcases (set_some hl).1 hq with h1 | h1
    · rw [h1]; exact (h.sound p h.pm).step hnb he
    · exact h.sound q h1
  · rcases List.mem_append.1 hq with h1 | h1
    · exact (set_some hl).2 (.inr (h.sub q h1))
    · have : q = t := by have : (q : Int) = (t : Int) := by simpa using h1
                         omega
      exact (set_some hl).2 (.inl this)
  · by_cases hbt : b = t
    · exact (set_some hl).2 (.inl hbt)
    · rcases (set_some hl).1 ha with h1 | h1
      · subst h1; simp at hs
      · refine (set_some hl).2 (.inr (h.closed a b h1 (fun hm => hs (by simp [hm])) (fun hap => (hd hap).resolve_right hbt) e hb))
theorem Si.fin (h : Si nb y P S ml sl p done) (hd : ∀ b, nb p b → done b) : So nb y P S ml sl :=
  ⟨h.len, h.le, h.nat, ⟨h.root, h.sound, h.sub, fun a b ha hs e hb => h.closed a b ha hs (fun hap => hd b (by rw [← hap]; exact e)) e hb⟩⟩
end

/-! ### The measure, read out of the world -/
def ms (w : World) (grs g P : Nat) (S : Int) : Nat :=
  (match w.cell? ⟨grs, 5, none⟩ with | some (.slice _ n _) => n | _ => 0) + (List.range P).countP (fun p => match w.cell? ⟨g, p, none⟩ with | some (.int _ x) => x != S | _ => true)
theorem ms_eq {w : World} {grs g P : Nat} {S : Int} {a : Option Addr} {n c : Nat} {ml : List Int} (h : w.cell? ⟨grs, 5, none⟩ = some (.slice a n c)) (hl : ml.length = P) (hm : ∀ (i : Nat) (x : Int), ml[i]? = some x → w.cell? ⟨g, i, none⟩ = some (.int .i32 x)) : ms w grs g P S = n + un S ml := by
  unfold ms un
  rw [h]
  show n + _ = n + _
  congr 1
  subst hl
  have e : ml = (List.range ml.length).map (fun i => ml.getD i 0) := by
    apply List.ext_getElem
    · simp
    · intro i h1 h2
      simp [h1]
  conv => rhs; rw [e]
  rw [List.countP_map]
  apply List.countP_congr
  intro i hi
  have hi' := List.mem_range.1 hi
  have := hm i ml[i] (List.getElem?_eq_getElem hi')
  simp [this, hi', List.getD_eq_getElem?_getD]

/-! ### What the stores do -/
section
variable {w w1 : World} {B grs gd P : Nat} {tag : Nat → Nat} {s : Rs}
theorem own_not_grs (h : RS w B grs gd P tag s) (k : Nat) (hk : 2 ≤ k) {g : Nat} (hg : (s.val k).ownBlock = some g) : g ≠ grs := by
  intro e
  have := h.tv k g hg
  rw [e, h.tg] at this
  omega
/-- A slice has been appended to, cut or made, and is stored into its field. -/
theorem put (h : RS w B grs gd P tag s) (k j : Nat) (hk : 2 ≤ k) (v v' : Value) (s' : Rs) (hv : ∀ g, v.ownBlock = some g → (s.val k).ownBlock = some g)
    (t : Tch (fun x => v.ownBlock = some x) w w1) (hf : Fr w v v') (hval : s'.val k = v') (ho : ∀ i, i ≠ k → s'.val i = s.val i ∧ ∀ w, s'.own P B w i = s.own P B w i) (hkk : s'.own P B w1 k)
    (hc : s'.cells gd = (s.cells gd).set j v') : ∃ tag', RS (w1.setCell ⟨grs, j, none⟩ v') B grs gd P tag' s' ∧ TT tag w tag' (w1.setCell ⟨grs, j, none⟩ v') := by
  have hng : ∀ g, v'.ownBlock = some g → g ≠ grs := fun g hg => by
    rcases hf g hg with h1 | h1
    · exact own_not_grs h k hk (hv g h1)
    · have := h.blk.lt
      omega
  have hb := (h.blk.touch t (fun hm => own_not_grs h k hk (hv _ hm) rfl)).set j v'
  rw [← hc] at hb
  refine h.upd k hk s' (fun x => x = grs ∨ v.ownBlock = some x) ((t.mono (fun x hx => .inl (.inr hx))).setCell (.inl (.inl rfl)) v') (fun x hx => ?_) ho ?_ ?_ hb
  · rcases hx with h1 | h1
    · exact .inl h1
    · exact .inr (hv x h1)
  · refine Rs.own_touch ((Tch.refl (fun x => x = grs) w1).setCell (.inl rfl) v') k hkk (fun g hg => ?_)
    rw [hval] at hg
    exact hng g hg
  · rw [hval]
    intro g hg
    rcases hf g hg with h1 | h1
    · exact .inl (hv g h1)
    · exact .inr h1
/-- A number of a slice has been stored to. -/
theorem elem (h : RS w B grs gd P tag s) (k : Nat) (hk : 2 ≤ k) {g n c : Nat} (e : s.val k = .slice (some ⟨g, 0, none⟩) n c) (i : Nat) (x : Value) (s' : Rs) (hval : s'.val k = s.val k)
    (ho : ∀ i, i ≠ k → s'.val i = s.val i ∧ ∀ w, s'.own P B w i = s.own P B w i) (hkk : s'.own P B (w.setCell ⟨g, i, none⟩ x) k) (hc : s'.cells gd = s.cells gd) :
    ∃ tag', RS (w.setCell ⟨g, i, none⟩ x) B grs gd P tag' s' ∧ TT tag w tag' (w.setCell ⟨g, i, none⟩ x) := by
  have hg : (s.val k).ownBlock = some g := by rw [e]; rfl
  have hb := h.blk.touch ((Tch.refl (fun y => y = g) w).setCell (p := ⟨g, i, none⟩) (.inl rfl) x) (fun hm => own_not_grs h k hk hg hm.symm)
  rw [← hc] at hb
  refine h.upd k hk s' (fun y => y = g) ((Tch.refl (fun y => y = g) w).setCell (.inl rfl) x) (fun y hy => .inr (by rw [hy]; exact hg)) ho hkk ?_ hb
  rw [hval]
  exact Fr.refl _ _

theorem putSrch (h : RS w B grs gd P tag s) (x : Int) : RS (w.setCell ⟨grs, 4, none⟩ (.int .i32 x)) B grs gd P tag { s with srch := x } ∧ TT tag w tag (w.setCell ⟨grs, 4, none⟩ (.int .i32 x)) :=
  h.num { s with srch := x } ((Tch.refl (fun y => y = grs) w).setCell (.inl rfl) _) (fun i => ⟨rfl, fun _ => rfl⟩) (h.blk.set 4 _)
theorem putMarked (h : RS w B grs gd P tag s) (x : Int) : RS (w.setCell ⟨grs, 12, none⟩ (.int .i64 x)) B grs gd P tag { s with marked := x } ∧ TT tag w tag (w.setCell ⟨grs, 12, none⟩ (.int .i64 x)) :=
  h.num { s with marked := x } ((Tch.refl (fun y => y = grs) w).setCell (.inl rfl) _) (fun i => ⟨rfl, fun _ => rfl⟩) (h.blk.set 12 _)
theorem putOnw (h : RS w B grs gd P tag s) {g n c : Nat} (e : s.vo = .slice (some ⟨g, 0, none⟩) n c) (i : Nat) (x : Int) :
    ∃ tag', RS (w.setCell ⟨g, i, none⟩ (.int .i32 x)) B grs gd P tag' { s with onw := s.onw.set i x } ∧ TT tag w tag' (w.setCell ⟨g, i, none⟩ (.int .i32 x)) := by
  refine elem h 3 (by decide) e i (.int .i32 x) { s with onw := s.onw.set i x } rfl (fun i hi => ⟨rfl, fun w => ?_⟩) ?_ rfl
  · unfold Rs.own; split <;> first | rfl | exact absurd rfl hi
  · have := h.own 3
    simp only [Rs.own] at this ⊢
    rw [e] at this ⊢
    exact this.set i x
theorem putBeh (h : RS w B grs gd P tag s) {g n c : Nat} (e : s.vb = .slice (some ⟨g, 0, none⟩) n c) (i : Nat) (x : Int) :
    ∃ tag', RS (w.setCell ⟨g, i, none⟩ (.int .i32 x)) B grs gd P tag' { s with beh := s.beh.set i x } ∧ TT tag w tag' (w.setCell ⟨g, i, none⟩ (.int .i32 x)) := by
  refine elem h 4 (by decide) e i (.int .i32 x) { s with beh := s.beh.set i x } rfl (fun i hi => ⟨rfl, fun w => ?_⟩) ?_ rfl
  · unfold Rs.own; split <;> first | rfl | exact absurd rfl hi
  · have := h.own 4
    simp only [Rs.own] at this ⊢
    rw [e] at this ⊢
    exact this.set i x
theorem putStk (h : RS w B grs gd P tag s) (v v' : Value) (l : List Int) (hv : ∀ g, v.ownBlock = some g → s.vs.ownBlock = some g) (t : Tch (fun x => v.ownBlock = some x) w w1) (hf : Fr w v v') (ho : Own .i32 21 w1 B v' l) :
    ∃ tag', RS (w1.setCell ⟨grs, 5, none⟩ v') B grs gd P tag' { s with stk := l, vs := v' } ∧ TT tag w tag' (w1.setCell ⟨grs, 5, none⟩ v') := by
  refine put h 5 5 (by decide) v v' { s with stk := l, vs := v' } hv t hf rfl (fun i hi => ⟨?_, fun w => ?_⟩) ho rfl
  · unfold Rs.val; split <;> first | rfl | exact absurd rfl hi
  · unfold Rs.own; split <;> first | rfl | exact absurd rfl hi
end
end Go.Proofs.YbulkaxcDoor.Sr
