/-
  Where the walk of 'components' stands; visit over it.
-/
import Derived.Test.YbulkaxcInit
namespace Go.Proofs.Ybulkaxc.Cm
open Go Go.RowKit Go.Proofs.Ybulkaxc.M2 Go.Proofs.Ybulkaxc.Tj Go.Proofs.Ybulkaxc.Pl2
set_option linter.unusedVariables false

/-- Where the walk stands. -/
def St9 (w : World) (f : Fx) (A : List (Nat × Nat)) (gs gh m : Nat) (st hd : List Int) (wq : World) (t : St) (c : List (Nat × Nat)) : Prop :=
  ∃ tag s, Bag wq tag (T f s) ∧ TB (fun _ => 0) w tag wq ∧ Rl A f.n hd s t c ∧ RO wq tag gs (f.n + 1) st ∧ RO wq tag gh m hd
def Outr (w : World) (f : Fx) (A : List (Nat × Nat)) (gs gh m : Nat) (st hd : List Int) (k : Nat) (v : Value) (wq : World) : Prop :=
  ∃ t, v = .int .i32 ((t.comps : Nat) : Int) ∧ St9 w f A gs gh m st hd wq t [] ∧ ∀ x, x < k → 0 < t.idx x
def Inn (w : World) (f : Fx) (A : List (Nat × Nat)) (gs gh m : Nat) (st hd : List Int) (k : Nat) (a : Value × World) (mm : Nat) : Prop :=
  ∃ t c, a.1 = .int .i32 ((t.comps : Nat) : Int) ∧ St9 w f A gs gh m st hd a.2 t c ∧ (∀ x, x < k → 0 < t.idx x) ∧ mm = ms A f.n t c
/-- What components answers. -/
def CRet (w : World) (A : List (Nat × Nat)) (n : Nat) (e : Ending) (w' : World) : Prop :=
  ∃ gm gy lm ly t, e = .returned (.tuple #[.slice (some ⟨gm, 0, none⟩) n n, .slice (some ⟨gy, 0, none⟩) n n]) ∧ Own .i32 21 w' w.heap.size (.slice (some ⟨gm, 0, none⟩) n n) lm ∧ OwnB w' w.heap.size (.slice (some ⟨gy, 0, none⟩) n n) ly ∧ Tch Non w w' ∧
    Inv (EA A) t ∧ t.path = [] ∧ (∀ x, x < n → 0 < t.idx x) ∧ (∀ x, x < n → lm[x]? = some ((t.comp x : Nat) : Int)) ∧ (∀ x, x < n → ∃ b : Bool, ly[x]? = some b ∧ (b = true ↔ t.cyc x)) ∧ (∀ x, x < n → t.comp x < 100000)
theorem TB.toNon {w w' : World} {tag : Nat → Nat} (h : TB (fun _ => 0) w tag w') : Tch Non w w' := h.tch.mono (fun x hx => absurd rfl hx)

theorem Rl.small {A : List (Nat × Nat)} {n : Nat} {hd : List Int} {s : CV} {t : St} {c : List (Nat × Nat)} (h : Rl A n hd s t c) : t.reached ≤ n ∧ t.stk.length ≤ n ∧ c.length ≤ n ∧ t.comps ≤ n := by
  have h1 := h.cnt
  have h2 := h.bst
  have h3 := h.bpa
  rw [h.path, List.length_map] at h3
  omega

theorem visit_bag (w : World) (tag : Nat → Nat) (f : Fx) (s : CV) (p sp gs : Nat) (st : List Int) (hb : Bag w tag (T f s)) (hv : f.vst = .slice (some ⟨gs, 0, none⟩) (f.n + 1) (f.n + 1)) (hx4 : s.x4 = s.v4) (hx6 : s.x6 = s.v6)
    (hro : RO w tag gs (f.n + 1) st) (hB : f.B ≤ w.heap.size) (hp : p < f.n) (hr : s.rc < 100000) (hs4 : s.stk.length ≤ 100000) (hs6 : s.cal.length ≤ 100000) (hli : s.li.length = f.n) (hll : s.ll.length = f.n) (hlo : s.lo.length = f.n) (hn : f.n ≤ 100000) (hsp : st[p]? = some (sp : Int)) (hsl : sp ≤ 100000) :
    Calls Yba.prog 23 #[.int .i32 (p : Int), .pointer (some ⟨f.b1, 0, none⟩), .pointer (some ⟨f.b2, 0, none⟩), .pointer (some ⟨f.b3, 0, none⟩), .pointer (some ⟨f.b4, 0, none⟩), .pointer (some ⟨f.b5, 0, none⟩), .pointer (some ⟨f.b6, 0, none⟩), .pointer (some ⟨f.b7, 0, none⟩)] w
      fun e w' => ∃ v tag' v4 v6, e = .returned v ∧
        Bag w' tag' (T f ⟨s.rc + 1, s.li.set p ((s.rc : Int) + 1), s.ll.set p ((s.rc : Int) + 1), s.lm, s.lo.set p true, s.ly, v4, v4, s.stk ++ [(p : Int)], v6, v6, s.cal ++ [((p : Int), (sp : Int))]⟩) ∧ TB tag w tag' w' := by
  obtain ⟨B, n, b1, b2, b3, b4, b5, b6, b7, gi, gl, go, gm, gy, vst⟩ := f
  obtain ⟨rc, li, ll, lm, lo, ly, x4, v4, stk, x6, v6, cal⟩ := s
  dsimp only at *
  subst hv hx4 hx6
  obtain ⟨a4, n4, c4, e4⟩ := Own.slice (hb.say 10)
  obtain ⟨a6, n6, c6, e6⟩ := Own2.slice (hb.say 12)
  dsimp only at e4 e6
  subst e4 e6
  refine (visit_any w tag B n b1 b2 b3 b4 b5 b6 b7 gi gl go gm gy gs rc li ll lm lo ly a4 n4 c4 stk a6 n6 c6 cal p sp st hb hro hB hp hr hs4 hs6 hli hll hlo hn hsp hsl).mono ?_
  rintro e w' ⟨v, tag', a4', n4', c4', a6', n6', c6', he, h1, h2⟩
  exact ⟨v, tag', _, _, he, h1, h2⟩

theorem visit_root (w : World) (f : Fx) (A : List (Nat × Nat)) (gs gh m : Nat) (st hd : List Int) (wq : World) (t : St) (p : Nat) (h : St9 w f A gs gh m st hd wq t []) (hv : f.vst = .slice (some ⟨gs, 0, none⟩) (f.n + 1) (f.n + 1)) (hcsr : CSR A f.n st hd) (hm : A.length ≤ 100000) (hB : f.B ≤ w.heap.size) (hn : f.n ≤ 1000) (hp : p < f.n) (hq : t.idx p = 0) :
    Calls Yba.prog 23 #[.int .i32 (p : Int), .pointer (some ⟨f.b1, 0, none⟩), .pointer (some ⟨f.b2, 0, none⟩), .pointer (some ⟨f.b3, 0, none⟩), .pointer (some ⟨f.b4, 0, none⟩), .pointer (some ⟨f.b5, 0, none⟩), .pointer (some ⟨f.b6, 0, none⟩), .pointer (some ⟨f.b7, 0, none⟩)] wq
      fun e w' => ∃ v, e = .returned v ∧ St9 w f A gs gh m st hd w' (Tj.visit t p) [(p, below (fsOf A) p)] := by
  obtain ⟨tag, s, h1, h2, h3, h4, h5⟩ := h
  obtain ⟨k1, k2, k3, k4⟩ := h3.small
  have hbl := below_le (fsOf A) p
  have hfl : (fsOf A).length = A.length := by unfold fsOf; rw [List.length_map]
  refine (visit_bag wq tag f s p (below (fsOf A) p) gs st h1 hv h3.x4 h3.x6 h4 (Nat.le_trans hB h2.tch.size) hp (by rw [h3.rc]; omega) (by rw [h3.stk, castN_len]; omega) (by rw [h3.cal, castP_len]; omega) h3.ni h3.nl h3.no (by omega) (hcsr.starts p (by omega)) (by omega)).mono ?_
  rintro e w' ⟨v, tag', v4, v6, he, q1, q2⟩
  exact ⟨v, he, tag', _, q1, h2.trans q2, h3.visit hp hq (.inl rfl) v4 v6, h4.tb q2, h5.tb q2⟩

/-- A white node along an arc: the call's next arc has been counted already. -/
theorem visit_arc (w : World) (f : Fx) (A : List (Nat × Nat)) (gs gh m : Nat) (st hd : List Int) (wq : World) (tag : Nat → Nat) (s : CV) (t : St) (pre : List (Nat × Nat)) (p k q : Nat) (h1 : Bag wq tag (T f { s with cal := castP (pre ++ [(p, k + 1)]) })) (h2 : TB (fun _ => 0) w tag wq) (h3 : Rl A f.n hd s t (pre ++ [(p, k)])) (h4 : RO wq tag gs (f.n + 1) st) (h5 : RO wq tag gh m hd)
    (hv : f.vst = .slice (some ⟨gs, 0, none⟩) (f.n + 1) (f.n + 1)) (hcsr : CSR A f.n st hd) (hm : A.length ≤ 100000) (hB : f.B ≤ w.heap.size) (hn : f.n ≤ 1000) (hq : q < f.n) (hA : (p, q) ∈ A) (hk : k < below (fsOf A) (p + 1)) (hhd : hd[k]? = some (q : Int)) (hw : t.idx q = 0) :
    Calls Yba.prog 23 #[.int .i32 (q : Int), .pointer (some ⟨f.b1, 0, none⟩), .pointer (some ⟨f.b2, 0, none⟩), .pointer (some ⟨f.b3, 0, none⟩), .pointer (some ⟨f.b4, 0, none⟩), .pointer (some ⟨f.b5, 0, none⟩), .pointer (some ⟨f.b6, 0, none⟩), .pointer (some ⟨f.b7, 0, none⟩)] wq
      fun e w' => ∃ v, e = .returned v ∧ St9 w f A gs gh m st hd w' (Tj.mark (Tj.visit t q) p q) (pre ++ (p, k + 1) :: [(q, below (fsOf A) q)]) := by
  obtain ⟨k1, k2, k3, k4⟩ := h3.small
  have hbl := below_le (fsOf A) q
  have hfl : (fsOf A).length = A.length := by unfold fsOf; rw [List.length_map]
  have hps : 0 < t.idx p := h3.inv.pos p (h3.inv.sub p (by rw [h3.path]; simp))
  have hne : q ≠ p := fun e => by rw [e] at hw; omega
  refine (visit_bag wq tag f { s with cal := castP (pre ++ [(p, k + 1)]) } q (below (fsOf A) q) gs st h1 hv h3.x4 h3.x6 h4 (Nat.le_trans hB h2.tch.size) hq (by show s.rc < _; rw [h3.rc]; omega) (by show s.stk.length ≤ _; rw [h3.stk, castN_len]; omega) (by show (castP _).length ≤ _; rw [castP_len]; simp at k3 ⊢; omega) h3.ni h3.nl h3.no (by omega) (hcsr.starts q (by omega)) (by omega)).mono ?_
  rintro e w' ⟨v, tag', v4, v6, he, q1, q2⟩
  have r1 := h3.visit hq hw (.inr ⟨pre, p, k, rfl, hA⟩) v4 v6
  have r2 := r1.mark (pre := pre) (post := [(q, below (fsOf A) q)]) (p := p) (k := k) (q := q) (by simp) hA hk hhd (by show 0 < upd _ _ _ q; rw [upd_same]; omega) (fun _ => by
    show upd _ _ _ p ≤ upd _ _ _ q
    rw [upd_same, upd_ne _ _ (Ne.symm hne)]
    have := (h3.inv.l1 p (by rw [h3.path]; simp)).1
    have := h3.inv.le p
    omega) s.ly v6 (.inr ⟨hne, rfl⟩)
  refine ⟨v, he, tag', _, ?_, h2.trans q2, r2, h4.tb q2, h5.tb q2⟩
  have e : castP (pre ++ (p, k + 1) :: [(q, below (fsOf A) q)]) = castP (pre ++ [(p, k + 1)]) ++ [((q : Int), ((below (fsOf A) q : Nat) : Int))] := by
    rw [← castP_snoc]; simp
  show Bag w' tag' (T f ⟨_, _, _, _, _, _, _, _, _, _, _, castP (pre ++ (p, k + 1) :: [(q, below (fsOf A) q)])⟩)
  rw [e]
  exact q1
end Go.Proofs.Ybulkaxc.Cm
