/-
  (*sorter).release, (*sorter).step and the law's closure, by contracts.
-/
import Derived.Test.YbulkaxcSmall
import Derived.Test.YbulkaxcClone
import Derived.Deep.DeepCutAuto
import Derived.Laws.EntriesVeiled
namespace Go.Proofs.Ybulkaxc.Step
open Go.RowKit Go.Proofs.Ybulkaxc.Mem Go.Proofs.Ybulkaxc.Small Go.Proofs.Ybulkaxc.Clone
set_option linter.unusedVariables false

set_option maxHeartbeats 400000 in
theorem ready_any (B gl : Nat) (vl : Value) (lg : List Int) (q : Int) (w : World) (hl : Blk w gl 23 [vl]) (ho : Own w B vl lg) (hoff : Off vl gl) (hn : lg.length ≤ 100000) (hB : B ≤ w.heap.size) :
    Calls Yba.prog 6 #[.int .i32 q, .pointer (some ⟨gl, 0, none⟩)] w fun e w' => e = .returned (.tuple #[]) ∧ ∃ vl', Blk w' gl 23 [vl'] ∧ Own w' B vl' (lg ++ [q]) ∧ Off vl' gl ∧ Fr w vl vl' ∧ Tch (gl :: vl.ownBlock.toList) w w' := by
  obtain ⟨i0, hi, hz0, hz1, hz2⟩ := info_parts info21
  obtain ⟨al, nl, cl, rfl⟩ := ho.slice
  have hc : w.cell? ⟨gl, 0, none⟩ = some (.slice al nl cl) := hl.cell 0
  have HL := hide hl
  clear hl
  go_enter Yba.func6, Yba.ntmps6
  go_wp2_with (at_builtin; go_must (refine wpList_app32 (v := .slice al nl cl) _ rfl (.tmp 3) (.tmp 5) 23 rfl i0 Yba.underlying23 hi hz0 hz1 hz2 rfl (ho.alloc _) rfl (Src.one w q 1) (by simp only [List.length_cons, List.length_nil]; omega) (by simp only [World.size_alloc]; omega) ?_; intro v' w1 hown' hgrow hfr; obtain ⟨al', nl', cl', hv'⟩ := hown'.slice; subst hv'; have hc1 : w1.cell? ⟨gl, 0, none⟩ = some (.slice al nl cl) := ((HL.out.alloc _).apart hgrow hoff).cell 0; have hf1 : w1.frozen? ⟨gl, 0, none⟩ = false := ((HL.out.alloc _).apart hgrow hoff).frozen 0))
  go_end0
  have hlt := HL.out.lt
  have hoff' := hoff.fr (by simp; omega) hfr
  refine ⟨rfl, _, ((HL.out.alloc _).apart hgrow hoff).set 0 _, hown'.setOff _ hoff', hoff', hfr.of_alloc, ?_⟩
  exact Tch.setCell (((Tch.refl _ w).alloc _).trans hgrow (fun x hx => .inl (List.mem_cons_of_mem _ hx))) (by simp) _

/-- What the walks know of the digraph: it is only read. -/
structure DG (w : World) (gd : Nat) (n : Int) (L : Nat) : Prop where
  n1 : w.cell? ⟨gd, 1, none⟩ = some (.int .i32 n)
  l2 : ∃ al cl, w.cell? ⟨gd, 2, none⟩ = some (.slice al L cl)

theorem DG.touch {w w' : World} {gd : Nat} {n : Int} {L : Nat} (h : DG w gd n L) {S : List Nat} (t : Tch S w w') (hn : gd ∉ S) : DG w' gd n L := by
  obtain ⟨al, cl, h2⟩ := h.l2
  exact ⟨t.cell h.n1 hn, al, cl, t.cell h2 hn⟩

/-- The law's closure as a value. -/
abbrev fv (gl : Nat) : Value := .func (.func 6) #[] #[.pointer (some ⟨gl, 0, none⟩)]

/-- The sorter in memory: its block, the closure's variable, the four slices; all apart. -/
structure SW (w : World) (B gs gd gl : Nat) (vi vt vp vl : Value) (ind tk pts lg : List Int) : Prop where
  s0 : Blk w gs 39 [.pointer (some ⟨gd, 0, none⟩), vi, fv gl, vt, vp]
  l0 : Blk w gl 23 [vl]
  oi : Own w B vi ind
  ot : Own w B vt tk
  op : Own w B vp pts
  ol : Own w B vl lg
  hB : B ≤ w.heap.size
  gg : gs ≠ gl
  fi : Off vi gs ∧ Off vi gl
  ft : Off vt gs ∧ Off vt gl
  fp : Off vp gs ∧ Off vp gl
  fl : Off vl gs ∧ Off vl gl
  it : Sep vi vt
  ip : Sep vi vp
  il : Sep vi vl
  tp : Sep vt vp
  tl : Sep vt vl
  pl : Sep vp vl

/-- The blocks that the sorter may write. -/
def bls (gs gl : Nat) (vi vt vp vl : Value) : List Nat := gs :: gl :: (vi.ownBlock.toList ++ (vt.ownBlock.toList ++ (vp.ownBlock.toList ++ vl.ownBlock.toList)))

theorem SW.drewN {w : World} {B gs gd gl : Nat} {vi vt vp vl : Value} {ind tk pts lg : List Int} (h : SW w B gs gd gl vi vt vp vl ind tk pts lg) (q : Nat) : SW (w.drewN q) B gs gd gl vi vt vp vl ind tk pts lg :=
  ⟨h.s0, h.l0, h.oi, h.ot, h.op, h.ol, h.hB, h.gg, h.fi, h.ft, h.fp, h.fl, h.it, h.ip, h.il, h.tp, h.tl, h.pl⟩

/-- The points' slice has been appended to and stored back. -/
theorem SW.points {w w1 : World} {B gs gd gl : Nat} {vi vt vp vl vp' : Value} {ind tk pts lg pts' : List Int} (h : SW w B gs gd gl vi vt vp vl ind tk pts lg) {o : Obj}
    (t : Tch vp.ownBlock.toList (w.alloc o) w1) (ho : Own w1 B vp' pts') (f : Fr (w.alloc o) vp vp') :
    SW (w1.setCell ⟨gs, 4, none⟩ vp') B gs gd gl vi vt vp' vl ind tk pts' lg ∧ Tch (bls gs gl vi vt vp vl) w (w1.setCell ⟨gs, 4, none⟩ vp') ∧ Fr w vp vp' := by
  have hs := h.s0.lt
  have hl := h.l0.lt
  have f' := f.of_alloc
  have o1 := h.fp.1.fr hs f'
  have o2 := h.fp.2.fr hl f'
  refine ⟨⟨((h.s0.alloc _).apart t h.fp.1).set 4 _, ((h.l0.alloc _).apart t h.fp.2).other h.gg.symm _, ((h.oi.alloc _).apart t h.ip).setOff _ h.fi.1, ((h.ot.alloc _).apart t h.tp).setOff _ h.ft.1, ho.setOff _ o1, ((h.ol.alloc _).apart t h.pl.symm).setOff _ h.fl.1, ?_, h.gg, h.fi, h.ft, ⟨o1, o2⟩, h.fl, h.it, (h.ip.symm.fr h.oi f').symm, h.il, (h.tp.symm.fr h.ot f').symm, h.tl, h.pl.fr h.ol f'⟩, ?_, f'⟩
  · have := t.size
    have := h.hB
    simp [World.setCell] at *
    omega
  · exact Tch.setCell (((Tch.refl _ w).alloc _).trans t (fun x hx => .inl (by unfold bls; exact List.mem_cons_of_mem _ (List.mem_cons_of_mem _ (List.mem_append_right _ (List.mem_append_right _ (List.mem_append_left _ hx))))))) (.inl (by simp [bls])) _

theorem SW.log {w w1 : World} {B gs gd gl : Nat} {vi vt vp vl vl' : Value} {ind tk pts lg lg' : List Int} (h : SW w B gs gd gl vi vt vp vl ind tk pts lg)
    (t : Tch (gl :: vl.ownBlock.toList) w w1) (hb : Blk w1 gl 23 [vl']) (ho : Own w1 B vl' lg') (hoff : Off vl' gl) (f : Fr w vl vl') :
    SW w1 B gs gd gl vi vt vp vl' ind tk pts lg' ∧ Tch (bls gs gl vi vt vp vl) w w1 := by
  have hs := h.s0.lt
  have ap : ∀ u l, Own w B u l → Off u gl → Sep u vl → Own w1 B u l := fun u l hu h1 h2 => hu.touch t (fun g hg hm => by
    rcases List.mem_cons.1 hm with rfl | hm
    · exact h1 hg
    · exact h2 g hg (by simpa using hm))
  refine ⟨⟨h.s0.touch t (fun hm => by
    rcases List.mem_cons.1 hm with e | hm
    · exact h.gg e
    · exact h.fl.1 (by simpa using hm)), hb, ap _ _ h.oi h.fi.2 h.il, ap _ _ h.ot h.ft.2 h.tl, ap _ _ h.op h.fp.2 h.pl, ho, Nat.le_trans h.hB t.size, h.gg, h.fi, h.ft, h.fp, ⟨h.fl.1.fr hs f, hoff⟩, h.it, h.ip, (h.il.symm.fr h.oi f).symm, h.tp, (h.tl.symm.fr h.ot f).symm, (h.pl.symm.fr h.op f).symm⟩, ?_⟩
  exact t.mono (fun x hx => .inl (by
    unfold bls
    rcases List.mem_cons.1 hx with rfl | hx
    · simp
    · exact List.mem_cons_of_mem _ (List.mem_cons_of_mem _ (List.mem_append_right _ (List.mem_append_right _ (List.mem_append_right _ hx))))))

theorem SW.cells {w : World} {B gs gd gl : Nat} {vi vt vp vl : Value} {ind tk pts lg : List Int} (h : SW w B gs gd gl vi vt vp vl ind tk pts lg) :
    w.cell? ⟨gs, 0, none⟩ = some (.pointer (some ⟨gd, 0, none⟩)) ∧ w.cell? ⟨gs, 1, none⟩ = some vi ∧ w.cell? ⟨gs, 2, none⟩ = some (fv gl) ∧ w.cell? ⟨gs, 3, none⟩ = some vt ∧ w.cell? ⟨gs, 4, none⟩ = some vp ∧ ∀ k, w.frozen? ⟨gs, k, none⟩ = false :=
  ⟨h.s0.cell 0, h.s0.cell 1, h.s0.cell 2, h.s0.cell 3, h.s0.cell 4, h.s0.frozen⟩

set_option maxHeartbeats 400000 in
theorem release_point (B gs gd gl : Nat) (vi vt vp vl : Value) (ind tk pts lg : List Int) (n p : Int) (L : Nat) (w : World) (h : SW w B gs gd gl vi vt vp vl ind tk pts lg) (hd : DG w gd n L) (hL : L ≤ 100) (h1 : 0 ≤ n * (L : Int)) (h2 : n * (L : Int) ≤ 100000) (hlen : pts.length ≤ 100000) (hp : n * (L : Int) ≤ p) :
    Calls Yba.prog 11 #[.pointer (some ⟨gs, 0, none⟩), .int .i32 p] w fun e w' => e = .returned (.tuple #[]) ∧ ∃ vp', SW w' B gs gd gl vi vt vp' vl ind tk (pts ++ [p]) lg ∧ Tch (bls gs gl vi vt vp vl) w w' ∧ Fr w vp vp' := by
  obtain ⟨i0, hi, hz0, hz1, hz2⟩ := info_parts info21
  obtain ⟨al, nl, cl, rfl⟩ := h.op.slice
  obtain ⟨hc0, hc1, hc2, hc3, hc4, hcf⟩ := h.cells
  obtain ⟨dl, dc, hd2⟩ := hd.l2
  have hd1 := hd.n1
  have hB := h.hB
  have H := hide h
  clear h hd
  have hdec : decide (n * (L : Int) ≤ p) = true := by simpa using hp
  have C : Hid (∀ w', w'.cell? ⟨gd, 1, none⟩ = some (.int .i32 n) → w'.cell? ⟨gd, 2, none⟩ = some (.slice dl L dc) → Calls Yba.prog 12 #[.pointer (some ⟨gd, 0, none⟩), .int .i32 p] w' fun e w'' => e = .returned (.bool true) ∧ ∃ q, w'' = w'.drewN q) := by
    intro w' g1 g2
    have := isPoint_any gd p n dl L dc w' g1 g2 hL h1 h2
    rwa [hdec] at this
  clear hdec hc1 hc2 hc3
  go_enter Yba.func11, Yba.ntmps11
  go_wp2_with fail
  refine (C.out _ hd1 hd2).mono ?_
  rintro e w' ⟨rfl, q, rfl⟩
  go_wp2_with (at_builtin; go_must (refine wpList_app32 (v := .slice al nl cl) _ rfl (.tmp 14) (.tmp 16) 23 rfl i0 Yba.underlying23 hi hz0 hz1 hz2 rfl (by exact ((H.out.drewN q).op.alloc _)) rfl (by exact Src.one (w.drewN q) p 1) (by simp only [List.length_cons, List.length_nil]; omega) (by simp only [World.size_alloc, World.heap_drewN]; omega) ?_; intro v' w1 hown' hgrow hfr; obtain ⟨al', nl', cl', hv'⟩ := hown'.slice; subst hv'; have hx1 : w1.cell? ⟨gs, 4, none⟩ = some (.slice al nl cl) := (((H.out.drewN q).s0.alloc _).apart hgrow H.out.fp.1).cell 4; have hf1 : w1.frozen? ⟨gs, 4, none⟩ = false := (((H.out.drewN q).s0.alloc _).apart hgrow H.out.fp.1).frozen 4))
  go_end0
  have R := (H.out.drewN q).points hgrow hown' hfr
  exact ⟨rfl, _, R.1, R.2.1.undrewN, R.2.2⟩

set_option maxHeartbeats 400000 in
theorem release_txn (B gs gd gl : Nat) (vi vt vp vl : Value) (ind tk pts lg : List Int) (n p : Int) (L : Nat) (w : World) (h : SW w B gs gd gl vi vt vp vl ind tk pts lg) (hd : DG w gd n L) (hL : L ≤ 100) (h1 : 0 ≤ n * (L : Int)) (h2 : n * (L : Int) ≤ 100000) (hlen : lg.length ≤ 100000) (hp : ¬ n * (L : Int) ≤ p) :
    Calls Yba.prog 11 #[.pointer (some ⟨gs, 0, none⟩), .int .i32 p] w fun e w' => e = .returned (.tuple #[]) ∧ ∃ vl', SW w' B gs gd gl vi vt vp vl' ind tk pts (lg ++ [p]) ∧ Tch (bls gs gl vi vt vp vl) w w' ∧ Fr w vl vl' := by
  obtain ⟨hc0, hc1, hc2, hc3, hc4, hcf⟩ := h.cells
  obtain ⟨dl, dc, hd2⟩ := hd.l2
  have hd1 := hd.n1
  have hB := h.hB
  have H := hide h
  clear h hd
  have hdec : decide (n * (L : Int) ≤ p) = false := by simpa using hp
  have C : Hid (∀ w', w'.cell? ⟨gd, 1, none⟩ = some (.int .i32 n) → w'.cell? ⟨gd, 2, none⟩ = some (.slice dl L dc) → Calls Yba.prog 12 #[.pointer (some ⟨gd, 0, none⟩), .int .i32 p] w' fun e w'' => e = .returned (.bool false) ∧ ∃ q, w'' = w'.drewN q) := by
    intro w' g1 g2
    have := isPoint_any gd p n dl L dc w' g1 g2 hL h1 h2
    rwa [hdec] at this
  clear hdec hc1 hc3 hc4
  go_enter Yba.func11, Yba.ntmps11
  go_wp2_with fail
  refine (C.out _ hd1 hd2).mono ?_
  rintro e w' ⟨rfl, q, rfl⟩
  go_wp2_with fail
  refine (ready_any B gl vl lg p _ (H.out.drewN q).l0 (H.out.drewN q).ol H.out.fl.2 hlen (by exact hB)).mono ?_
  rintro e w1 ⟨rfl, vl', k1, k2, k3, k4, k5⟩
  go_wp2_with fail
  go_end0
  have R := (H.out.drewN q).log k5 k1 k2 k3 k4
  exact ⟨rfl, _, R.1, R.2.undrewN, k4⟩

/-- release, in one: what becomes of the points and of the log. -/
theorem release_any (B gs gd gl : Nat) (vi vt vp vl : Value) (ind tk pts lg : List Int) (n p : Int) (L : Nat) (w : World) (h : SW w B gs gd gl vi vt vp vl ind tk pts lg) (hd : DG w gd n L) (hL : L ≤ 100) (h1 : 0 ≤ n * (L : Int)) (h2 : n * (L : Int) ≤ 100000) (hlp : pts.length ≤ 100000) (hll : lg.length ≤ 100000) :
    Calls Yba.prog 11 #[.pointer (some ⟨gs, 0, none⟩), .int .i32 p] w fun e w' => e = .returned (.tuple #[]) ∧ ∃ vp' vl', SW w' B gs gd gl vi vt vp' vl' ind tk (if n * (L : Int) ≤ p then pts ++ [p] else pts) (if n * (L : Int) ≤ p then lg else lg ++ [p]) ∧ Tch (bls gs gl vi vt vp vl) w w' ∧ Fr w vp vp' ∧ Fr w vl vl' := by
  by_cases hp : n * (L : Int) ≤ p
  · simp only [if_pos hp]
    exact (release_point B gs gd gl vi vt vp vl ind tk pts lg n p L w h hd hL h1 h2 hlp hp).mono fun e w' ⟨he, vp', k1, k2, k3⟩ => ⟨he, vp', vl, k1, k2, k3, Fr.refl _ _⟩
  · simp only [if_neg hp]
    exact (release_txn B gs gd gl vi vt vp vl ind tk pts lg n p L w h hd hL h1 h2 hll hp).mono fun e w' ⟨he, vl', k1, k2, k3⟩ => ⟨he, vp, vl', k1, k2, Fr.refl _ _, k3⟩
end Go.Proofs.Ybulkaxc.Step
